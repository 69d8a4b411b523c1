import JvmDerived
import JvmDerived.Pilot.@@N@@Statement
import JvmDerived.Pilot.@@N@@Code
set_option linter.unusedVariables false
set_option linter.unusedSimpArgs false
namespace Jvm.Pilot.@@N@@
open Jvm Jvm.ClassFile Sem Op Lib Jvm.Free Jvm.Stand Jvm.LawKit Jvm.RoadKit Bundle Jvm.Pilot.@@N@@.Jvm.D
section OwnKit
variable {p : Program} {l : Launch} {e : Env} {R : Room} {s : State} {m : MethodId} {args : Array Value} {below : List Frame} {meth : Method} {c : Code} {T : State} {locs : List Loc} {cells slots : Nat} {C N : Nat} {F : Outcome → State → List Loc → Prop} {Q : Option Value → Heap → List Loc → Prop} {pc : Nat} {Ls : Array Slot} {S : List Value} {Z : State} {a0 : Array Value} {h : Heap} {own : String}
def Go (p : Program) (e : Env) (below : List Frame) (F : Outcome → State → List Loc → Prop) (Q : Option Value → Heap → List Loc → Prop) (T : State) (g : JFrame) : Prop :=
  ∃ s₂ o, Steps p.tables e below (T.setTop g) s₂ ∧ s₂.status = .running ∧ Ended s₂ below o ∧ ∃ v L, o = .returned v ∧ Q v s₂.heap L ∧ F o s₂ L
def FE (s : State) (C N : Nat) (o : Outcome) (t : State) (L : List Loc) : Prop := FrameEnd s o t L C N
theorem Go.st {T' : State} {g g' : JFrame} (h : Go p e below F Q T' g') (st : ∀ t, Steps p.tables e below (T'.setTop g') t → Steps p.tables e below (T.setTop g) t) : Go p e below F Q T g := by
  obtain ⟨s₂, o, h1, h2⟩ := h
  exact ⟨s₂, o, st _ h1, h2⟩
theorem Go.tr {T' : State} {g g' : JFrame} (h : Go p e below F Q T' g') (st : Steps p.tables e below (T.setTop g) (T'.setTop g')) : Go p e below F Q T g := by
  obtain ⟨s₂, o, h1, h2⟩ := h
  exact ⟨s₂, o, st.trans h1, h2⟩
/-- a body's contract out of its walk -/
theorem metOf {y : MethodName} {bytes : ByteArray} {maxL : Nat} {ret : Option FieldType} {rm : Room} {ws : List Jvm.Cond} {as' : Array Value} {h0 : Heap} (hpl : plainFor y = true)
    (body : ∀ p e s m below meth c s₁, Stand p l e rm s m as' below meth c s₁ [] 0 0 → p.tables.exec = Jvm.exec → c.code = bytes → c.maxLocals = maxL → meth.sig.returnType = ret → meth.locks = false → Z.Warmed39 s.vm → s.vm.findClass y.cls = some m.cls → meth.name = y.name → s₁.heap = h0 → Go p e below (FE s rm.cells rm.slots) Q s₁ (entryFrame m as' maxL)) :
    MetFree l y (head1 (Jvm.Cond.code y bytes maxL ret :: ws) rm) (fun a U => a = as' ∧ Z.Warmed39 U.vm ∧ U.heap = h0) (fun _ _ _ _ _ => True) (fun _ U o U' => ∃ v L, o = .returned v ∧ Q v U'.heap L ∧ FrameEnd U o U' L rm.cells rm.slots) := by
  refine MetFree.of_bodySF hpl hisR ?_
  intro p e s m args below meth c s₁ Bd hml0 hP hK
  obtain ⟨rfl, hZ, hh⟩ := hP
  exact body p e s m below meth c s₁ (Stand.of_body Bd) Bd.exec Bd.bytes hml0 Bd.returns Bd.notSynchronized hZ (findClass_of_methodNamed Bd.named) (name_of_methodNamed Bd.named Bd.method).1 (by rw [← hh, Bd.state]; rfl)
theorem Go.iloadN (X : Stand p l e R s m args below meth c T locs cells slots) (hx : p.tables.exec = Jvm.exec) {k : Fin 4} {v : Int32} (hd : decode c.code pc = .ok (.iload_n k, 1)) (hl : Ls[k.val]? = some (.val (.int v))) (h : Go p e below F Q T (mkF m (pc + 1) Ls (.int v :: S))) : Go p e below F Q T (mkF m pc Ls S) := h.st fun _ k => XS.iloadN X.here hx rfl hd hl k
theorem Go.iload (X : Stand p l e R s m args below meth c T locs cells slots) (hx : p.tables.exec = Jvm.exec) {k : Nat} {v : Int32} (hd : decode c.code pc = .ok (.iload k, 2)) (hl : Ls[k]? = some (.val (.int v))) (h : Go p e below F Q T (mkF m (pc + 2) Ls (.int v :: S))) : Go p e below F Q T (mkF m pc Ls S) := h.st fun _ k => XS.iload X.here hx rfl hd hl k
theorem Go.istoreN (X : Stand p l e R s m args below meth c T locs cells slots) (hx : p.tables.exec = Jvm.exec) {k : Fin 4} {x : Int32} {l' : Array Slot} (hd : decode c.code pc = .ok (.istore_n k, 1)) (hl : storeLocals Ls k.val (.int x) = some l') (h : Go p e below F Q T (mkF m (pc + 1) l' S)) : Go p e below F Q T (mkF m pc Ls (.int x :: S)) := h.st fun _ k => XS.istoreN X.here hx rfl hd rfl hl k
theorem Go.istore (X : Stand p l e R s m args below meth c T locs cells slots) (hx : p.tables.exec = Jvm.exec) {k : Nat} {x : Int32} {l' : Array Slot} (hd : decode c.code pc = .ok (.istore k, 2)) (hl : storeLocals Ls k (.int x) = some l') (h : Go p e below F Q T (mkF m (pc + 2) l' S)) : Go p e below F Q T (mkF m pc Ls (.int x :: S)) := h.st fun _ k => XS.istore X.here hx rfl hd rfl hl k
theorem Go.lloadN (X : Stand p l e R s m args below meth c T locs cells slots) (hx : p.tables.exec = Jvm.exec) {k : Fin 4} {v : Int64} (hd : decode c.code pc = .ok (.lload_n k, 1)) (hl : Ls[k.val]? = some (.val (.long v))) (h : Go p e below F Q T (mkF m (pc + 1) Ls (.long v :: S))) : Go p e below F Q T (mkF m pc Ls S) := h.st fun _ k => XS.lloadN X.here hx rfl hd hl k
theorem Go.lload (X : Stand p l e R s m args below meth c T locs cells slots) (hx : p.tables.exec = Jvm.exec) {k : Nat} {v : Int64} (hd : decode c.code pc = .ok (.lload k, 2)) (hl : Ls[k]? = some (.val (.long v))) (h : Go p e below F Q T (mkF m (pc + 2) Ls (.long v :: S))) : Go p e below F Q T (mkF m pc Ls S) := h.st fun _ k => XS.lload X.here hx rfl hd hl k
theorem Go.lstoreN (X : Stand p l e R s m args below meth c T locs cells slots) (hx : p.tables.exec = Jvm.exec) {k : Fin 4} {x : Int64} {l' : Array Slot} (hd : decode c.code pc = .ok (.lstore_n k, 1)) (hl : storeLocals Ls k.val (.long x) = some l') (h : Go p e below F Q T (mkF m (pc + 1) l' S)) : Go p e below F Q T (mkF m pc Ls (.long x :: S)) := h.st fun _ k => XS.lstoreN X.here hx rfl hd rfl hl k
theorem Go.lstore (X : Stand p l e R s m args below meth c T locs cells slots) (hx : p.tables.exec = Jvm.exec) {k : Nat} {x : Int64} {l' : Array Slot} (hd : decode c.code pc = .ok (.lstore k, 2)) (hl : storeLocals Ls k (.long x) = some l') (h : Go p e below F Q T (mkF m (pc + 2) l' S)) : Go p e below F Q T (mkF m pc Ls (.long x :: S)) := h.st fun _ k => XS.lstore X.here hx rfl hd rfl hl k
theorem Go.aloadN (X : Stand p l e R s m args below meth c T locs cells slots) (hx : p.tables.exec = Jvm.exec) {k : Fin 4} {v : Value} (hd : decode c.code pc = .ok (.aload_n k, 1)) (hl : Ls[k.val]? = some (.val v)) (hv : v.isRef = true) (h : Go p e below F Q T (mkF m (pc + 1) Ls (v :: S))) : Go p e below F Q T (mkF m pc Ls S) := h.st fun _ k => XS.aloadN X.here hx rfl hd hl hv k
theorem Go.aload (X : Stand p l e R s m args below meth c T locs cells slots) (hx : p.tables.exec = Jvm.exec) {k : Nat} {v : Value} (hd : decode c.code pc = .ok (.aload k, 2)) (hl : Ls[k]? = some (.val v)) (hv : v.isRef = true) (h : Go p e below F Q T (mkF m (pc + 2) Ls (v :: S))) : Go p e below F Q T (mkF m pc Ls S) := h.st fun _ k => XS.aload X.here hx rfl hd hl hv k
theorem Go.astoreN (X : Stand p l e R s m args below meth c T locs cells slots) (hx : p.tables.exec = Jvm.exec) {k : Fin 4} {x : Value} {l' : Array Slot} (hd : decode c.code pc = .ok (.astore_n k, 1)) (hv : x.isRef = true) (hl : storeLocals Ls k.val x = some l') (h : Go p e below F Q T (mkF m (pc + 1) l' S)) : Go p e below F Q T (mkF m pc Ls (x :: S)) := h.st fun _ k => XS.astoreN X.here hx rfl hd rfl hv hl k
theorem Go.astore (X : Stand p l e R s m args below meth c T locs cells slots) (hx : p.tables.exec = Jvm.exec) {k : Nat} {x : Value} {l' : Array Slot} (hd : decode c.code pc = .ok (.astore k, 2)) (hv : x.isRef = true) (hl : storeLocals Ls k x = some l') (h : Go p e below F Q T (mkF m (pc + 2) l' S)) : Go p e below F Q T (mkF m pc Ls (x :: S)) := h.st fun _ k => XS.astore X.here hx rfl hd rfl hv hl k
theorem Go.iconst (X : Stand p l e R s m args below meth c T locs cells slots) (hx : p.tables.exec = Jvm.exec) {i : Int} (v : Int32) (hd : decode c.code pc = .ok (.iconst i, 1)) (hv : Int32.ofInt i = v) (h : Go p e below F Q T (mkF m (pc + 1) Ls (.int v :: S))) : Go p e below F Q T (mkF m pc Ls S) := h.st fun _ k => XT.iconstV X.here hx rfl v hd hv k
theorem Go.bipush (X : Stand p l e R s m args below meth c T locs cells slots) (hx : p.tables.exec = Jvm.exec) {i : Int} (v : Int32) (hd : decode c.code pc = .ok (.bipush i, 2)) (hv : (Int8.ofInt i).toInt32 = v) (h : Go p e below F Q T (mkF m (pc + 2) Ls (.int v :: S))) : Go p e below F Q T (mkF m pc Ls S) := h.st fun _ k => XT.bipushV X.here hx rfl v hd hv k
theorem Go.sipush (X : Stand p l e R s m args below meth c T locs cells slots) (hx : p.tables.exec = Jvm.exec) {i : Int} (v : Int32) (hd : decode c.code pc = .ok (.sipush i, 3)) (hv : (Int16.ofInt i).toInt32 = v) (h : Go p e below F Q T (mkF m (pc + 3) Ls (.int v :: S))) : Go p e below F Q T (mkF m pc Ls S) := h.st fun _ k => XT.sipushV X.here hx rfl v hd hv k
theorem Go.lconst (X : Stand p l e R s m args below meth c T locs cells slots) (hx : p.tables.exec = Jvm.exec) {i : Fin 2} (v : Int64) (hd : decode c.code pc = .ok (.lconst i, 1)) (hv : Int64.ofNat i = v) (h : Go p e below F Q T (mkF m (pc + 1) Ls (.long v :: S))) : Go p e below F Q T (mkF m pc Ls S) := h.st fun _ k => XT.lconstV X.here hx rfl v hd hv k
theorem Go.aconstNull (X : Stand p l e R s m args below meth c T locs cells slots) (hx : p.tables.exec = Jvm.exec)  (hd : decode c.code pc = .ok (.aconst_null, 1))  (h : Go p e below F Q T (mkF m (pc + 1) Ls (.null :: S))) : Go p e below F Q T (mkF m pc Ls S) := h.st fun _ k => XS.aconstNull X.here hx rfl hd  k
theorem Go.iadd (X : Stand p l e R s m args below meth c T locs cells slots) (hx : p.tables.exec = Jvm.exec) {x y : Int32} (hd : decode c.code pc = .ok (.iadd, 1))  (h : Go p e below F Q T (mkF m (pc + 1) Ls (.int (x + y) :: S))) : Go p e below F Q T (mkF m pc Ls (.int y :: .int x :: S)) := h.st fun _ k => XS.iadd X.here hx rfl hd rfl k
theorem Go.isub (X : Stand p l e R s m args below meth c T locs cells slots) (hx : p.tables.exec = Jvm.exec) {x y : Int32} (hd : decode c.code pc = .ok (.isub, 1))  (h : Go p e below F Q T (mkF m (pc + 1) Ls (.int (x - y) :: S))) : Go p e below F Q T (mkF m pc Ls (.int y :: .int x :: S)) := h.st fun _ k => XS.isub X.here hx rfl hd rfl k
theorem Go.imul (X : Stand p l e R s m args below meth c T locs cells slots) (hx : p.tables.exec = Jvm.exec) {x y : Int32} (hd : decode c.code pc = .ok (.imul, 1))  (h : Go p e below F Q T (mkF m (pc + 1) Ls (.int (x * y) :: S))) : Go p e below F Q T (mkF m pc Ls (.int y :: .int x :: S)) := h.st fun _ k => XS.imul X.here hx rfl hd rfl k
theorem Go.iand (X : Stand p l e R s m args below meth c T locs cells slots) (hx : p.tables.exec = Jvm.exec) {x y : Int32} (hd : decode c.code pc = .ok (.iand, 1))  (h : Go p e below F Q T (mkF m (pc + 1) Ls (.int (x &&& y) :: S))) : Go p e below F Q T (mkF m pc Ls (.int y :: .int x :: S)) := h.st fun _ k => XS.iand X.here hx rfl hd rfl k
theorem Go.ior (X : Stand p l e R s m args below meth c T locs cells slots) (hx : p.tables.exec = Jvm.exec) {x y : Int32} (hd : decode c.code pc = .ok (.ior, 1))  (h : Go p e below F Q T (mkF m (pc + 1) Ls (.int (x ||| y) :: S))) : Go p e below F Q T (mkF m pc Ls (.int y :: .int x :: S)) := h.st fun _ k => XS.ior X.here hx rfl hd rfl k
theorem Go.ixor (X : Stand p l e R s m args below meth c T locs cells slots) (hx : p.tables.exec = Jvm.exec) {x y : Int32} (hd : decode c.code pc = .ok (.ixor, 1))  (h : Go p e below F Q T (mkF m (pc + 1) Ls (.int (x ^^^ y) :: S))) : Go p e below F Q T (mkF m pc Ls (.int y :: .int x :: S)) := h.st fun _ k => XS.ixor X.here hx rfl hd rfl k
theorem Go.idiv (X : Stand p l e R s m args below meth c T locs cells slots) (hx : p.tables.exec = Jvm.exec) {x y : Int32} (hd : decode c.code pc = .ok (.idiv, 1)) (hy : y ≠ 0) (h : Go p e below F Q T (mkF m (pc + 1) Ls (.int (x / y) :: S))) : Go p e below F Q T (mkF m pc Ls (.int y :: .int x :: S)) := h.st fun _ k => XS.idiv X.here hx rfl hd rfl hy k
theorem Go.ineg (X : Stand p l e R s m args below meth c T locs cells slots) (hx : p.tables.exec = Jvm.exec) {x : Int32} (hd : decode c.code pc = .ok (.ineg, 1))  (h : Go p e below F Q T (mkF m (pc + 1) Ls (.int (-x) :: S))) : Go p e below F Q T (mkF m pc Ls (.int x :: S)) := h.st fun _ k => XS.ineg X.here hx rfl hd rfl k
theorem Go.ladd (X : Stand p l e R s m args below meth c T locs cells slots) (hx : p.tables.exec = Jvm.exec) {x y : Int64} (hd : decode c.code pc = .ok (.ladd, 1))  (h : Go p e below F Q T (mkF m (pc + 1) Ls (.long (x + y) :: S))) : Go p e below F Q T (mkF m pc Ls (.long y :: .long x :: S)) := h.st fun _ k => XS.ladd X.here hx rfl hd rfl k
theorem Go.lsub (X : Stand p l e R s m args below meth c T locs cells slots) (hx : p.tables.exec = Jvm.exec) {x y : Int64} (hd : decode c.code pc = .ok (.lsub, 1))  (h : Go p e below F Q T (mkF m (pc + 1) Ls (.long (x - y) :: S))) : Go p e below F Q T (mkF m pc Ls (.long y :: .long x :: S)) := h.st fun _ k => XS.lsub X.here hx rfl hd rfl k
theorem Go.lmul (X : Stand p l e R s m args below meth c T locs cells slots) (hx : p.tables.exec = Jvm.exec) {x y : Int64} (hd : decode c.code pc = .ok (.lmul, 1))  (h : Go p e below F Q T (mkF m (pc + 1) Ls (.long (x * y) :: S))) : Go p e below F Q T (mkF m pc Ls (.long y :: .long x :: S)) := h.st fun _ k => XS.lmul X.here hx rfl hd rfl k
theorem Go.land (X : Stand p l e R s m args below meth c T locs cells slots) (hx : p.tables.exec = Jvm.exec) {x y : Int64} (hd : decode c.code pc = .ok (.land, 1))  (h : Go p e below F Q T (mkF m (pc + 1) Ls (.long (x &&& y) :: S))) : Go p e below F Q T (mkF m pc Ls (.long y :: .long x :: S)) := h.st fun _ k => XS.land X.here hx rfl hd rfl k
theorem Go.lor (X : Stand p l e R s m args below meth c T locs cells slots) (hx : p.tables.exec = Jvm.exec) {x y : Int64} (hd : decode c.code pc = .ok (.lor, 1))  (h : Go p e below F Q T (mkF m (pc + 1) Ls (.long (x ||| y) :: S))) : Go p e below F Q T (mkF m pc Ls (.long y :: .long x :: S)) := h.st fun _ k => XS.lor X.here hx rfl hd rfl k
theorem Go.lxor (X : Stand p l e R s m args below meth c T locs cells slots) (hx : p.tables.exec = Jvm.exec) {x y : Int64} (hd : decode c.code pc = .ok (.lxor, 1))  (h : Go p e below F Q T (mkF m (pc + 1) Ls (.long (x ^^^ y) :: S))) : Go p e below F Q T (mkF m pc Ls (.long y :: .long x :: S)) := h.st fun _ k => XS.lxor X.here hx rfl hd rfl k
theorem Go.ldiv (X : Stand p l e R s m args below meth c T locs cells slots) (hx : p.tables.exec = Jvm.exec) {x y : Int64} (hd : decode c.code pc = .ok (.ldiv, 1)) (hy : y ≠ 0) (h : Go p e below F Q T (mkF m (pc + 1) Ls (.long (x / y) :: S))) : Go p e below F Q T (mkF m pc Ls (.long y :: .long x :: S)) := h.st fun _ k => XS.ldiv X.here hx rfl hd rfl hy k
theorem Go.lneg (X : Stand p l e R s m args below meth c T locs cells slots) (hx : p.tables.exec = Jvm.exec) {x : Int64} (hd : decode c.code pc = .ok (.lneg, 1))  (h : Go p e below F Q T (mkF m (pc + 1) Ls (.long (-x) :: S))) : Go p e below F Q T (mkF m pc Ls (.long x :: S)) := h.st fun _ k => XS.lneg X.here hx rfl hd rfl k
theorem Go.irem (X : Stand p l e R s m args below meth c T locs cells slots) (hx : p.tables.exec = Jvm.exec) {x y : Int32} (hd : decode c.code pc = .ok (.irem, 1)) (hy : y ≠ 0) (h : Go p e below F Q T (mkF m (pc + 1) Ls (.int (x % y) :: S))) : Go p e below F Q T (mkF m pc Ls (.int y :: .int x :: S)) := h.st fun _ k => Jvm.RoadKit.iremM X hx rfl hd rfl hy k
theorem Go.lrem (X : Stand p l e R s m args below meth c T locs cells slots) (hx : p.tables.exec = Jvm.exec) {x y : Int64} (hd : decode c.code pc = .ok (.lrem, 1)) (hy : y ≠ 0) (h : Go p e below F Q T (mkF m (pc + 1) Ls (.long (x % y) :: S))) : Go p e below F Q T (mkF m pc Ls (.long y :: .long x :: S)) := h.st fun _ k => XS.lrem X.here hx rfl hd rfl hy (by rw [lrem_mod]; exact k)
theorem Go.ishl (X : Stand p l e R s m args below meth c T locs cells slots) (hx : p.tables.exec = Jvm.exec) {x : Int32} {y : Int32} (hd : decode c.code pc = .ok (.ishl, 1))  (h : Go p e below F Q T (mkF m (pc + 1) Ls (.int (x <<< (y &&& 31)) :: S))) : Go p e below F Q T (mkF m pc Ls (.int y :: .int x :: S)) := h.st fun _ k => XS.ishl X.here hx rfl hd rfl k
theorem Go.ishr (X : Stand p l e R s m args below meth c T locs cells slots) (hx : p.tables.exec = Jvm.exec) {x : Int32} {y : Int32} (hd : decode c.code pc = .ok (.ishr, 1))  (h : Go p e below F Q T (mkF m (pc + 1) Ls (.int (x >>> (y &&& 31)) :: S))) : Go p e below F Q T (mkF m pc Ls (.int y :: .int x :: S)) := h.st fun _ k => XS.ishr X.here hx rfl hd rfl k
theorem Go.iushr (X : Stand p l e R s m args below meth c T locs cells slots) (hx : p.tables.exec = Jvm.exec) {x : Int32} {y : Int32} (hd : decode c.code pc = .ok (.iushr, 1))  (h : Go p e below F Q T (mkF m (pc + 1) Ls (.int ((x.toUInt32 >>> (y &&& 31).toUInt32).toInt32) :: S))) : Go p e below F Q T (mkF m pc Ls (.int y :: .int x :: S)) := h.st fun _ k => XS.iushr X.here hx rfl hd rfl k
theorem Go.lshl (X : Stand p l e R s m args below meth c T locs cells slots) (hx : p.tables.exec = Jvm.exec) {x : Int64} {y : Int32} (hd : decode c.code pc = .ok (.lshl, 1))  (h : Go p e below F Q T (mkF m (pc + 1) Ls (.long (x <<< (y &&& 0x3f).toInt64) :: S))) : Go p e below F Q T (mkF m pc Ls (.int y :: .long x :: S)) := h.st fun _ k => XS.lshl X.here hx rfl hd rfl k
theorem Go.lshr (X : Stand p l e R s m args below meth c T locs cells slots) (hx : p.tables.exec = Jvm.exec) {x : Int64} {y : Int32} (hd : decode c.code pc = .ok (.lshr, 1))  (h : Go p e below F Q T (mkF m (pc + 1) Ls (.long (x >>> (y &&& 0x3f).toInt64) :: S))) : Go p e below F Q T (mkF m pc Ls (.int y :: .long x :: S)) := h.st fun _ k => XS.lshr X.here hx rfl hd rfl k
theorem Go.lushr (X : Stand p l e R s m args below meth c T locs cells slots) (hx : p.tables.exec = Jvm.exec) {x : Int64} {y : Int32} (hd : decode c.code pc = .ok (.lushr, 1))  (h : Go p e below F Q T (mkF m (pc + 1) Ls (.long ((x.toUInt64 >>> (y &&& 0x3f).toInt64.toUInt64).toInt64) :: S))) : Go p e below F Q T (mkF m pc Ls (.int y :: .long x :: S)) := h.st fun _ k => XS.lushr X.here hx rfl hd rfl k
theorem Go.i2l (X : Stand p l e R s m args below meth c T locs cells slots) (hx : p.tables.exec = Jvm.exec) {x : Int32} (hd : decode c.code pc = .ok (.i2l, 1))  (h : Go p e below F Q T (mkF m (pc + 1) Ls (.long (x.toInt64) :: S))) : Go p e below F Q T (mkF m pc Ls (.int x :: S)) := h.st fun _ k => XS.i2l X.here hx rfl hd rfl k
theorem Go.l2i (X : Stand p l e R s m args below meth c T locs cells slots) (hx : p.tables.exec = Jvm.exec) {x : Int64} (hd : decode c.code pc = .ok (.l2i, 1))  (h : Go p e below F Q T (mkF m (pc + 1) Ls (.int (x.toInt32) :: S))) : Go p e below F Q T (mkF m pc Ls (.long x :: S)) := h.st fun _ k => XS.l2i X.here hx rfl hd rfl k
theorem Go.i2b (X : Stand p l e R s m args below meth c T locs cells slots) (hx : p.tables.exec = Jvm.exec) {x : Int32} (hd : decode c.code pc = .ok (.i2b, 1))  (h : Go p e below F Q T (mkF m (pc + 1) Ls (.int (x.toInt8.toInt32) :: S))) : Go p e below F Q T (mkF m pc Ls (.int x :: S)) := h.st fun _ k => XS.i2b X.here hx rfl hd rfl k
theorem Go.i2s (X : Stand p l e R s m args below meth c T locs cells slots) (hx : p.tables.exec = Jvm.exec) {x : Int32} (hd : decode c.code pc = .ok (.i2s, 1))  (h : Go p e below F Q T (mkF m (pc + 1) Ls (.int (x.toInt16.toInt32) :: S))) : Go p e below F Q T (mkF m pc Ls (.int x :: S)) := h.st fun _ k => XS.i2s X.here hx rfl hd rfl k
theorem Go.i2c (X : Stand p l e R s m args below meth c T locs cells slots) (hx : p.tables.exec = Jvm.exec) {x : Int32} (hd : decode c.code pc = .ok (.i2c, 1))  (h : Go p e below F Q T (mkF m (pc + 1) Ls (.int (x.toUInt32.toUInt16.toUInt32.toInt32) :: S))) : Go p e below F Q T (mkF m pc Ls (.int x :: S)) := h.st fun _ k => XS.i2c X.here hx rfl hd rfl k
theorem Go.lcmp (X : Stand p l e R s m args below meth c T locs cells slots) (hx : p.tables.exec = Jvm.exec) {x y : Int64} (hd : decode c.code pc = .ok (.lcmp, 1))  (h : Go p e below F Q T (mkF m (pc + 1) Ls (.int (XT.cmpL x y) :: S))) : Go p e below F Q T (mkF m pc Ls (.long y :: .long x :: S)) := h.st fun _ k => XT.lcmp X.here hx rfl hd rfl k
theorem Go.dup (X : Stand p l e R s m args below meth c T locs cells slots) (hx : p.tables.exec = Jvm.exec) {x : Value} (hd : decode c.code pc = .ok (.dup, 1)) (hc : x.category = 1) (h : Go p e below F Q T (mkF m (pc + 1) Ls (x :: x :: S))) : Go p e below F Q T (mkF m pc Ls (x :: S)) := h.st fun _ k => XS.dup X.here hx rfl hd rfl hc k
theorem Go.pop (X : Stand p l e R s m args below meth c T locs cells slots) (hx : p.tables.exec = Jvm.exec) {x : Value} (hd : decode c.code pc = .ok (.pop, 1)) (hc : x.category = 1) (h : Go p e below F Q T (mkF m (pc + 1) Ls S)) : Go p e below F Q T (mkF m pc Ls (x :: S)) := h.st fun _ k => XS.pop X.here hx rfl hd rfl hc k
theorem Go.dupX1 (X : Stand p l e R s m args below meth c T locs cells slots) (hx : p.tables.exec = Jvm.exec) {x y : Value} (hd : decode c.code pc = .ok (.dup_x1, 1)) (hc : x.category = 1) (hc' : y.category = 1) (h : Go p e below F Q T (mkF m (pc + 1) Ls (x :: y :: x :: S))) : Go p e below F Q T (mkF m pc Ls (x :: y :: S)) := h.st fun _ k => XS.dupX1 X.here hx rfl hd rfl hc hc' k
theorem Go.iinc (X : Stand p l e R s m args below meth c T locs cells slots) (hx : p.tables.exec = Jvm.exec) {k : Nat} {cst : Int} {x : Int32} {l' : Array Slot} (v : Int32) (hd : decode c.code pc = .ok (.iinc k cst, 3)) (hv : Int32.ofInt cst = v) (hl : Ls[k]? = some (.val (.int x))) (hl' : storeLocals Ls k (.int (x + v)) = some l') (h : Go p e below F Q T (mkF m (pc + 3) l' S)) : Go p e below F Q T (mkF m pc Ls S) := h.st fun _ k => XT.iincV X.here hx rfl v hd hv hl hl' k
theorem Go.iincF (X : Stand p l e R s m args below meth c T locs cells slots) (hx : p.tables.exec = Jvm.exec) {k : Nat} {cst : Int} {x : Int32} {l' : Array Slot} (v z : Int32) (hd : decode c.code pc = .ok (.iinc k cst, 3)) (hv : Int32.ofInt cst = v) (hz : x + v = z) (hl : Ls[k]? = some (.val (.int x))) (hl' : storeLocals Ls k (.int z) = some l') (h : Go p e below F Q T (mkF m (pc + 3) l' S)) : Go p e below F Q T (mkF m pc Ls S) := Go.iinc X hx v hd hv hl (hz ▸ hl') h
theorem Go.istoreS (X : Stand p l e R s m args below meth c T locs cells slots) (hx : p.tables.exec = Jvm.exec) {k : Nat} {x : Int32} {o : Slot} (hd : decode c.code pc = .ok (.istore k, 2)) (hold : Ls[k]? = some o) (ho : One o) (h : Go p e below F Q T (mkF m (pc + 2) (Ls.setIfInBounds k (.val (.int x))) S)) : Go p e below F Q T (mkF m pc Ls (.int x :: S)) := h.st fun _ q => XS.istoreS X.here hx rfl hd rfl hold ho q
theorem Go.istoreNS (X : Stand p l e R s m args below meth c T locs cells slots) (hx : p.tables.exec = Jvm.exec) {k : Fin 4} {x : Int32} {o : Slot} (hd : decode c.code pc = .ok (.istore_n k, 1)) (hold : Ls[k.val]? = some o) (ho : One o) (h : Go p e below F Q T (mkF m (pc + 1) (Ls.setIfInBounds k.val (.val (.int x))) S)) : Go p e below F Q T (mkF m pc Ls (.int x :: S)) := h.st fun _ q => XS.istoreNS X.here hx rfl hd rfl hold ho q
theorem Go.goto (X : Stand p l e R s m args below meth c T locs cells slots) (hx : p.tables.exec = Jvm.exec) {o : Int} {pc' : Nat} (hd : decode c.code pc = .ok (.goto o, 3)) (ho : 0 ≤ (pc : Int) + o) (hp : ((pc : Int) + o).toNat = pc') (h : Go p e below F Q T (mkF m pc' Ls S)) : Go p e below F Q T (mkF m pc Ls S) := h.st fun _ k => XS.goto X.here hx rfl rfl hd ho hp k
theorem Go.ifYes (X : Stand p l e R s m args below meth c T locs cells slots) (hx : p.tables.exec = Jvm.exec) {cd : ClassFile.Cond} {x : Int32} {o : Int} {pc' : Nat} (hd : decode c.code pc = .ok (.ifCond cd o, 3)) (hc : ifCond.holds cd x = true) (ho : 0 ≤ (pc : Int) + o) (hp : ((pc : Int) + o).toNat = pc') (h : Go p e below F Q T (mkF m pc' Ls S)) : Go p e below F Q T (mkF m pc Ls (.int x :: S)) := h.st fun _ k => XS.ifYes X.here hx rfl rfl hd rfl hc ho hp k
theorem Go.ifNo (X : Stand p l e R s m args below meth c T locs cells slots) (hx : p.tables.exec = Jvm.exec) {cd : ClassFile.Cond} {x : Int32} {o : Int} (hd : decode c.code pc = .ok (.ifCond cd o, 3)) (hc : ifCond.holds cd x = false) (h : Go p e below F Q T (mkF m (pc + 3) Ls S)) : Go p e below F Q T (mkF m pc Ls (.int x :: S)) := h.st fun _ k => XS.ifNo X.here hx rfl hd rfl hc k
theorem Go.icmpYes (X : Stand p l e R s m args below meth c T locs cells slots) (hx : p.tables.exec = Jvm.exec) {cd : ClassFile.Cond} {x y : Int32} {o : Int} {pc' : Nat} (hd : decode c.code pc = .ok (.if_icmp cd o, 3)) (hc : if_icmp.holds cd x y = true) (ho : 0 ≤ (pc : Int) + o) (hp : ((pc : Int) + o).toNat = pc') (h : Go p e below F Q T (mkF m pc' Ls S)) : Go p e below F Q T (mkF m pc Ls (.int y :: .int x :: S)) := h.st fun _ k => XS.icmpYes X.here hx rfl rfl hd rfl hc ho hp k
theorem Go.icmpNo (X : Stand p l e R s m args below meth c T locs cells slots) (hx : p.tables.exec = Jvm.exec) {cd : ClassFile.Cond} {x y : Int32} {o : Int} (hd : decode c.code pc = .ok (.if_icmp cd o, 3)) (hc : if_icmp.holds cd x y = false) (h : Go p e below F Q T (mkF m (pc + 3) Ls S)) : Go p e below F Q T (mkF m pc Ls (.int y :: .int x :: S)) := h.st fun _ k => XS.icmpNo X.here hx rfl hd rfl hc k
theorem Go.ifnullYes (X : Stand p l e R s m args below meth c T locs cells slots) (hx : p.tables.exec = Jvm.exec) {o : Int} {pc' : Nat} (hd : decode c.code pc = .ok (.ifnull o, 3)) (ho : 0 ≤ (pc : Int) + o) (hp : ((pc : Int) + o).toNat = pc') (h : Go p e below F Q T (mkF m pc' Ls S)) : Go p e below F Q T (mkF m pc Ls (.null :: S)) := h.st fun _ k => XS.ifnullYes X.here hx rfl rfl hd rfl ho hp k
theorem Go.ifnullNo (X : Stand p l e R s m args below meth c T locs cells slots) (hx : p.tables.exec = Jvm.exec) {o : Int} {b : Addr} (hd : decode c.code pc = .ok (.ifnull o, 3)) (h : Go p e below F Q T (mkF m (pc + 3) Ls S)) : Go p e below F Q T (mkF m pc Ls (.ref b :: S)) := h.st fun _ k => XS.ifnullNo X.here hx rfl hd rfl k
theorem Go.ifnonnullYes (X : Stand p l e R s m args below meth c T locs cells slots) (hx : p.tables.exec = Jvm.exec) {o : Int} {b : Addr} {pc' : Nat} (hd : decode c.code pc = .ok (.ifnonnull o, 3)) (ho : 0 ≤ (pc : Int) + o) (hp : ((pc : Int) + o).toNat = pc') (h : Go p e below F Q T (mkF m pc' Ls S)) : Go p e below F Q T (mkF m pc Ls (.ref b :: S)) := h.st fun _ k => XS.ifnonnullYes X.here hx rfl rfl hd rfl ho hp k
theorem Go.ifnonnullNo (X : Stand p l e R s m args below meth c T locs cells slots) (hx : p.tables.exec = Jvm.exec) {o : Int} (hd : decode c.code pc = .ok (.ifnonnull o, 3)) (h : Go p e below F Q T (mkF m (pc + 3) Ls S)) : Go p e below F Q T (mkF m pc Ls (.null :: S)) := h.st fun _ k => XS.ifnonnullNo X.here hx rfl hd rfl k
theorem Go.acmpYes (X : Stand p l e R s m args below meth c T locs cells slots) (hx : p.tables.exec = Jvm.exec) {cd : ClassFile.ACond} {x y : Value} {o : Int} {pc' : Nat} (hd : decode c.code pc = .ok (.if_acmp cd o, 3)) (hx' : x.isRef = true) (hy' : y.isRef = true) (hc : XT.acmp cd x y = true) (ho : 0 ≤ (pc : Int) + o) (hp : ((pc : Int) + o).toNat = pc') (h : Go p e below F Q T (mkF m pc' Ls S)) : Go p e below F Q T (mkF m pc Ls (y :: x :: S)) := h.st fun _ k => XT.acmpYes X.here hx rfl rfl hd rfl hx' hy' hc ho hp k
theorem Go.acmpNo (X : Stand p l e R s m args below meth c T locs cells slots) (hx : p.tables.exec = Jvm.exec) {cd : ClassFile.ACond} {x y : Value} {o : Int} (hd : decode c.code pc = .ok (.if_acmp cd o, 3)) (hx' : x.isRef = true) (hy' : y.isRef = true) (hc : XT.acmp cd x y = false) (h : Go p e below F Q T (mkF m (pc + 3) Ls S)) : Go p e below F Q T (mkF m pc Ls (y :: x :: S)) := h.st fun _ k => XT.acmpNo X.here hx rfl hd rfl hx' hy' hc k
theorem Go.ldcI (X : Stand p l e R s m args below meth c T locs cells slots) (hx : p.tables.exec = Jvm.exec) (hZ : Z.Warmed39 s.vm) {index : Nat} {v : Int32} (hown : s.vm.findClass own = some m.cls) (w : (Jvm.Cond.constant own index v).before a0 Z = true) (hd : decode c.code pc = .ok (.ldc index, 2)) (h : Go p e below F Q T (mkF m (pc + 2) Ls (.int v :: S))) : Go p e below F Q T (mkF m pc Ls S) := h.st fun _ k => Jvm.Stand.ldcI X hx hown (mvT hZ w) rfl hd k
theorem Go.ldcWI (X : Stand p l e R s m args below meth c T locs cells slots) (hx : p.tables.exec = Jvm.exec) (hZ : Z.Warmed39 s.vm) {index : Nat} {v : Int32} (hown : s.vm.findClass own = some m.cls) (w : (Jvm.Cond.constant own index v).before a0 Z = true) (hd : decode c.code pc = .ok (.ldc_w index, 3)) (h : Go p e below F Q T (mkF m (pc + 3) Ls (.int v :: S))) : Go p e below F Q T (mkF m pc Ls S) := h.st fun _ k => Jvm.Stand.ldcWI X hx hown (mvT hZ w) rfl hd k
theorem Go.ldc2J (X : Stand p l e R s m args below meth c T locs cells slots) (hx : p.tables.exec = Jvm.exec) (hZ : Z.Warmed39 s.vm) {index : Nat} {v : Int64} (hown : s.vm.findClass own = some m.cls) (w : (Jvm.Cond.constantLong own index v).before a0 Z = true) (hd : decode c.code pc = .ok (.ldc2_w index, 3)) (h : Go p e below F Q T (mkF m (pc + 3) Ls (.long v :: S))) : Go p e below F Q T (mkF m pc Ls S) := h.st fun _ k => Jvm.Stand.ldc2J X hx hown (mvT hZ w) rfl hd k
theorem Go.retN (X : Stand p l e R s m args below meth c T locs cells slots) (hx : p.tables.exec = Jvm.exec) {t : FieldType} {z : Int32} (hret : meth.sig.returnType = some t) (hlk : meth.locks = false) (ht : t = .boolean ∨ t = .byte ∨ t = .char ∨ t = .short) (hd : decode c.code pc = .ok (.ireturn, 1)) (hC : cells ≤ C) (hN : slots ≤ N) (hQ : Q (some (.int (nar t z))) T.heap locs) : Go p e below (FE s C N) Q T (mkF m pc Ls (.int z :: S)) := by
  obtain ⟨fs, hr, hrun, hended, hW, hsame⟩ := X.leave (v := some (.int (nar t z))) (fun h => by rw [hret] at h; cases h) hlk
  exact ⟨_, _, Jvm.RoadKit.retN X hx hret ht hd hr, hrun, hended, _, _, rfl, hQ, ⟨_, rfl⟩, hW, hsame.mono hC hN⟩
theorem Go.retI (X : Stand p l e R s m args below meth c T locs cells slots) (hx : p.tables.exec = Jvm.exec) {z : Int32} (hret : meth.sig.returnType = some .int) (hlk : meth.locks = false) (hd : decode c.code pc = .ok (.ireturn, 1)) (hC : cells ≤ C) (hN : slots ≤ N) (hQ : Q (some (.int z)) T.heap locs) : Go p e below (FE s C N) Q T (mkF m pc Ls (.int z :: S)) := by
  obtain ⟨fs, hr, hrun, hended, hW, hsame⟩ := X.leave (v := some (.int z)) (fun h => by rw [hret] at h; cases h) hlk
  exact ⟨_, _, retOut X hx hret rfl (Or.inl ⟨rfl, Or.inl rfl, _, rfl⟩) hd hr, hrun, hended, _, _, rfl, hQ, ⟨_, rfl⟩, hW, hsame.mono hC hN⟩
theorem Go.retJ (X : Stand p l e R s m args below meth c T locs cells slots) (hx : p.tables.exec = Jvm.exec) {z : Int64} (hret : meth.sig.returnType = some .long) (hlk : meth.locks = false) (hd : decode c.code pc = .ok (.lreturn, 1)) (hC : cells ≤ C) (hN : slots ≤ N) (hQ : Q (some (.long z)) T.heap locs) : Go p e below (FE s C N) Q T (mkF m pc Ls (.long z :: S)) := by
  obtain ⟨fs, hr, hrun, hended, hW, hsame⟩ := X.leave (v := some (.long z)) (fun h => by rw [hret] at h; cases h) hlk
  exact ⟨_, _, retOut X hx hret rfl (Or.inr (Or.inl ⟨rfl, rfl, _, rfl⟩)) hd hr, hrun, hended, _, _, rfl, hQ, ⟨_, rfl⟩, hW, hsame.mono hC hN⟩
theorem Go.retA (X : Stand p l e R s m args below meth c T locs cells slots) (hx : p.tables.exec = Jvm.exec) {w : Value} {t : FieldType} (hret : meth.sig.returnType = some t) (hlk : meth.locks = false) (ht : t.isReference = true) (hw : w.isRef = true) (hn : narrow t w = w) (hd : decode c.code pc = .ok (.areturn, 1)) (hC : cells ≤ C) (hN : slots ≤ N) (hQ : Q (some w) T.heap locs) : Go p e below (FE s C N) Q T (mkF m pc Ls (w :: S)) := by
  obtain ⟨fs, hr, hrun, hended, hW, hsame⟩ := X.leave (v := some w) (fun h => by rw [hret] at h; cases h) hlk
  exact ⟨_, _, retOut X hx hret hn (Or.inr (Or.inr (Or.inr (Or.inr ⟨rfl, ht, hw⟩)))) hd hr, hrun, hended, _, _, rfl, hQ, ⟨_, rfl⟩, hW, hsame.mono hC hN⟩
theorem Go.retV (X : Stand p l e R s m args below meth c T locs cells slots) (hx : p.tables.exec = Jvm.exec) (hret : meth.sig.returnType = none) (hlk : meth.locks = false) (hd : decode c.code pc = .ok (.return_, 1)) (hC : cells ≤ C) (hN : slots ≤ N) (hQ : Q none T.heap locs) : Go p e below (FE s C N) Q T (mkF m pc Ls []) := by
  obtain ⟨fs, hr, hrun, hended, hW, hsame⟩ := X.leave (v := none) (fun _ => rfl) hlk
  exact ⟨_, _, X.returnOut hx hret hd hr, hrun, hended, _, _, rfl, hQ, ⟨_, rfl⟩, hW, hsame.mono hC hN⟩
theorem Go.getF (X : Stand p l e R s m args below meth c T locs cells slots) (hx : p.tables.exec = Jvm.exec) (hZ : Z.Warmed39 s.vm) {R0 O n d host : String} {index : Nat} (hown : s.vm.findClass own = some m.cls) (w : (Jvm.Cond.fieldLink own index R0 n d).before a0 Z = true ∨ (Jvm.Cond.fieldLinkNest own index R0 n d host).before a0 Z = true) (via : Via Z R0 O n d) (eT : T.heap = h) {a : Addr} {v : Value} (Fl : Fld Z h a O n d v) (hd : decode c.code pc = .ok (.getfield index, 3)) (k : ∀ T', Stand p l e R s m args below meth c T' locs cells slots → T'.heap = h → Go p e below F Q T' (mkF m (pc + 3) Ls (v :: S))) : Go p e below F Q T (mkF m pc Ls (.ref a :: S)) := by
  obtain ⟨T', X', e', st⟩ := Jvm.RoadKit.getF X hx hZ hown w via eT Fl (g := mkF m pc Ls (.ref a :: S)) rfl rfl hd
  exact (k T' X' e').st st
theorem Go.getS (X : Stand p l e R s m args below meth c T locs cells slots) (hx : p.tables.exec = Jvm.exec) (hZ : Z.Warmed39 s.vm) {R0 O n d host : String} {index : Nat} (hown : s.vm.findClass own = some m.cls) (w : (Jvm.Cond.fieldLink own index R0 n d).before a0 Z = true ∨ (Jvm.Cond.fieldLinkNest own index R0 n d host).before a0 Z = true) (via : Via Z R0 O n d) (eT : T.heap = h) {v : Value} (Fl : Sta Z h O n d v) (hd : decode c.code pc = .ok (.getstatic index, 3)) (k : ∀ T', Stand p l e R s m args below meth c T' locs cells slots → T'.heap = h → Go p e below F Q T' (mkF m (pc + 3) Ls (v :: S))) : Go p e below F Q T (mkF m pc Ls S) := by
  obtain ⟨T', X', e', st⟩ := getS2 X hx hZ hown w via eT Fl (g := mkF m pc Ls S) rfl hd
  exact (k T' X' e').st st
theorem Go.putF (X : Stand p l e R s m args below meth c T locs cells slots) (hx : p.tables.exec = Jvm.exec) (hZ : Z.Warmed39 s.vm) {R0 O n d host K : String} {index kk : Nat} {ty : FieldType} (hown : s.vm.findClass own = some m.cls) (w : (Jvm.Cond.fieldLink own index R0 n d).before a0 Z = true ∨ (Jvm.Cond.fieldLinkNest own index R0 n d host).before a0 Z = true) (via : Via Z R0 O n d) (eT : T.heap = h) {a : Addr} {v old : Value} (Fl : Fld Z h a O n d old) (E : Exa Z h a K) (L : (Jvm.Cond.lays K O n d).before a0 Z = true ∨ ((Jvm.Cond.laysFinal K O n d).before a0 Z = true ∧ own = O ∧ meth.name = "<init>")) (wi : (Jvm.Cond.instantiable K kk).before a0 Z = true) (hty : parseFieldDescriptor d = some ty) (hn : narrow ty v = v) (hf : fits ty v = true) (hd : decode c.code pc = .ok (.putfield index, 3)) (k : ∀ T' h', Stand p l e R s m args below meth c T' (locs ++ [⟨a, Jvm.RoadKit.slotOf Z O n d⟩]) cells slots → T'.heap = h' → Wr h h' a (Jvm.RoadKit.slotOf Z O n d) v → Go p e below F Q T' (mkF m (pc + 3) Ls S)) : Go p e below F Q T (mkF m pc Ls (v :: .ref a :: S)) := by
  obtain ⟨T', h', X', e', W', st⟩ := Jvm.RoadKit.putF X hx hZ hown w via eT Fl E L wi hty hn hf (g := mkF m pc Ls (v :: .ref a :: S)) rfl rfl hd
  exact (k T' h' X' e' W').st st
theorem Go.newO (X : Stand p l e R s m args below meth c T locs cells slots) (hx : p.tables.exec = Jvm.exec) (hZ : Z.Warmed39 s.vm) {K : String} {index n : Nat} (hown : s.vm.findClass own = some m.cls) (w : (Jvm.Cond.classLink own index K).before a0 Z = true) (wi : (Jvm.Cond.instantiable K n).before a0 Z = true) (wz : (Jvm.Cond.initialized K).before a0 Z = true) (eT : T.heap = h) (hd : decode c.code pc = .ok (.new index, 3)) (hc : cells + 1 ≤ R.cells) (hl : slots + n ≤ R.slots) (k : ∀ T' h' a, a = h.size → Stand p l e R s m args below meth c T' locs (cells + 1) (slots + n) → T'.heap = h' → Ext h h' → Exa Z h' a K → (∀ {O nm d : String} {ty : FieldType}, Laid Z a0 K O nm d → parseFieldDescriptor d = some ty → Fld Z h' a O nm d (defaultValue ty)) → Go p e below F Q T' (mkF m (pc + 3) Ls (.ref a :: S))) : Go p e below F Q T (mkF m pc Ls S) := by
  obtain ⟨T', h', X', e', E', A', D', -, st⟩ := Jvm.RoadKit.newO X hx hZ hown w wi wz eT (g := mkF m pc Ls S) rfl hd hc hl
  exact (k T' h' _ rfl X' e' E' A' D').st st
theorem Go.initO (X : Stand p l e R s m args below meth c T locs cells slots) (hx : p.tables.exec = Jvm.exec) (hZ : Z.Warmed39 s.vm) {idx : Nat} (hown : s.vm.findClass own = some m.cls) (w1 : (Jvm.Cond.methodLink own idx Lib.objectInit).before a0 Z = true) (w2 : (Jvm.Cond.instanceMethod Lib.objectInit).before a0 Z = true) (w3 : (Jvm.Cond.code Lib.objectInit ⟨#[0xb1]⟩ 1 none).before a0 Z = true) (eT : T.heap = h) (hsize : Ls.size = c.maxLocals) {a : Addr} (hd : decode c.code pc = .ok (.invokespecial idx, 3)) (hf : 1 ≤ R.frames) {W : Nat} (hW : (S.map fun v => v.category).sum ≤ W) (hl : W + 12 ≤ R.locals) (k : ∀ T', Stand p l e R s m args below meth c T' locs cells slots → T'.heap = h → Go p e below F Q T' (mkF m (pc + 3) Ls S)) : Go p e below F Q T (mkF m pc Ls (.ref a :: S)) := by
  obtain ⟨T', X', e', st⟩ := Jvm.RoadKit.initO X hx hZ hown w1 w2 w3 eT (g := mkF m pc Ls (.ref a :: S)) rfl hsize rfl hd hf (W := W) (by show 2 * 0 + _ ≤ _; omega) hl
  exact (k T' X' e').st st
theorem Go.callS (X : Stand p l e R s m args below meth c T locs cells slots) (hx : p.tables.exec = Jvm.exec) (hZ : Z.Warmed39 s.vm) {index : Nat} {y : MethodName} {bytes : ByteArray} {maxL : Nat} {ret : Option FieldType} {rm : Room} {as' : Array Value} {Qy : Option Value → Heap → List Loc → Prop} (hM : MetFree l y (head1 [Jvm.Cond.code y bytes maxL ret] rm) (fun a U => a = as' ∧ Z.Warmed39 U.vm ∧ U.heap = h) (fun _ _ _ _ _ => True) (fun _ U o U' => ∃ v L, o = .returned v ∧ Qy v U'.heap L ∧ FrameEnd U o U' L rm.cells rm.slots)) (hown : s.vm.findClass own = some m.cls) (wl : (Jvm.Cond.methodLink own index y).before a0 Z = true) (ws : (Jvm.Cond.static y).before a0 Z = true) (wi : (Jvm.Cond.initialized y.cls).before a0 Z = true) (wc : (Jvm.Cond.code y bytes maxL ret).before a0 Z = true) (hy : y.cls ≠ "java/lang/invoke/MethodHandle" ∧ y.cls ≠ "java/lang/invoke/VarHandle") (eT : T.heap = h) {W : Nat} (hsize : Ls.size = c.maxLocals) {argsL : List Value} (hW : (S.map fun v => v.category).sum ≤ W) (hf : rm.frames + 1 ≤ R.frames) (hl : W + (maxL + 11) + rm.locals ≤ R.locals) (hc : cells + rm.cells ≤ R.cells) (hs : slots + rm.slots ≤ R.slots) {ps : List FieldType} {r : Option FieldType} (hds : parseMethodDescriptor y.desc = some ⟨ps, r⟩) (hlen : argsL.length = ps.length) (has : argsL.toArray = as') (hd : decode c.code pc = .ok (.invokestatic index, 3)) (k : ∀ v T' L, Stand p l e R s m args below meth c T' (locs ++ L) (cells + rm.cells) (slots + rm.slots) → Qy v T'.heap L → Go p e below F Q T' (mkF m (pc + 3) Ls (v.toList ++ S))) : Go p e below F Q T (mkF m pc Ls (argsL.reverse ++ S)) := by
  obtain ⟨_, _, ⟨T', L', k', n'⟩, -, X', ⟨L, hq, e1, e2, e3⟩, st⟩ := Jvm.LawKit.callS X hx hown (mvT hZ wl) (mvT hZ ws) (mvT hZ wi) (mvT hZ wc) hy (backOf (W := W) hM hZ wc wi hf hl) (g := mkF m pc Ls (argsL.reverse ++ S)) rfl hsize (argsL := argsL) (rest := S) (lenOf hds hlen) rfl (by show 2 * 0 + _ ≤ _; omega) hd (fun _ _ => ⟨has, eT, hc, hs⟩)
  dsimp only [Pt.U, Pt.locs, Pt.cells, Pt.slots] at X' e1 e2 e3 st hq
  subst e1 e2 e3
  exact (k _ _ _ X' hq).st st
theorem Go.callI (X : Stand p l e R s m args below meth c T locs cells slots) (hx : p.tables.exec = Jvm.exec) (hZ : Z.Warmed39 s.vm) {index : Nat} {y : MethodName} {bytes : ByteArray} {maxL : Nat} {rm : Room} {as' : Array Value} {Qy : Option Value → Heap → List Loc → Prop} (hM : MetFree l y (head1 [Jvm.Cond.code y bytes maxL none] rm) (fun a U => a = as' ∧ Z.Warmed39 U.vm ∧ U.heap = h) (fun _ _ _ _ _ => True) (fun _ U o U' => ∃ v L, o = .returned v ∧ Qy v U'.heap L ∧ FrameEnd U o U' L rm.cells rm.slots)) (hy1 : y.name = "<init>") (hown : s.vm.findClass own = some m.cls) (wl : (Jvm.Cond.methodLink own index y).before a0 Z = true) (ws : (Jvm.Cond.instanceMethod y).before a0 Z = true) (wi : (Jvm.Cond.initialized y.cls).before a0 Z = true) (wc : (Jvm.Cond.code y bytes maxL none).before a0 Z = true) (hy : y.cls ≠ "java/lang/invoke/MethodHandle" ∧ y.cls ≠ "java/lang/invoke/VarHandle") (eT : T.heap = h) {a : Addr} {W : Nat} (hsize : Ls.size = c.maxLocals) {argsL : List Value} (hW : (S.map fun v => v.category).sum ≤ W) (hf : rm.frames + 1 ≤ R.frames) (hl : W + (maxL + 11) + rm.locals ≤ R.locals) (hc : cells + rm.cells ≤ R.cells) (hs : slots + rm.slots ≤ R.slots) {ps : List FieldType} {r : Option FieldType} (hds : parseMethodDescriptor y.desc = some ⟨ps, r⟩) (hlen : argsL.length = ps.length) (has : (.ref a :: argsL).toArray = as') (hd : decode c.code pc = .ok (.invokespecial index, 3)) (k : ∀ v T' L, Stand p l e R s m args below meth c T' (locs ++ L) (cells + rm.cells) (slots + rm.slots) → Qy v T'.heap L → Go p e below F Q T' (mkF m (pc + 3) Ls (v.toList ++ S))) : Go p e below F Q T (mkF m pc Ls (argsL.reverse ++ .ref a :: S)) := by
  obtain ⟨_, _, ⟨T', L', k', n'⟩, -, X', ⟨L, hq, e1, e2, e3⟩, st⟩ := X.specialBack hx hy1 hown (mvT hZ wl) (mvT hZ ws) (mvT hZ wc) hy (backOf (W := W) hM hZ wc wi hf hl) (g := mkF m pc Ls (argsL.reverse ++ .ref a :: S)) rfl hsize (Steps.refl _) (a := a) (argsL := argsL) (rest := S) (lenOf hds hlen) rfl (by show 2 * 0 + _ ≤ _; omega) hd (fun _ _ => ⟨has, eT, hc, hs⟩)
  dsimp only [Pt.U, Pt.locs, Pt.cells, Pt.slots] at X' e1 e2 e3 st hq
  subst e1 e2 e3
  exact (k _ _ _ X' hq).tr st
theorem Go.callV (X : Stand p l e R s m args below meth c T locs cells slots) (hx : p.tables.exec = Jvm.exec) (hZ : Z.Warmed39 s.vm) {index : Nat} {K : String} {y : MethodName} {bytes : ByteArray} {maxL : Nat} {ret : Option FieldType} {rm : Room} {as' : Array Value} {Qy : Option Value → Heap → List Loc → Prop} (hM : MetFree l y (head1 [Jvm.Cond.code y bytes maxL ret] rm) (fun a U => a = as' ∧ Z.Warmed39 U.vm ∧ U.heap = h) (fun _ _ _ _ _ => True) (fun _ U o U' => ∃ v L, o = .returned v ∧ Qy v U'.heap L ∧ FrameEnd U o U' L rm.cells rm.slots)) {y0 : MethodName} (hy : y0.cls ≠ "java/lang/invoke/MethodHandle" ∧ y0.cls ≠ "java/lang/invoke/VarHandle") (hown : s.vm.findClass own = some m.cls) (wl : (Jvm.Cond.methodLink own index y0).before a0 Z = true) (wd : (Jvm.Cond.declares y0).before a0 Z = true) (hnf : NotFace s y0) (wsel : (Jvm.Cond.selects K y0 y).before a0 Z = true) (ws : (Jvm.Cond.instanceMethod y).before a0 Z = true) (wi : (Jvm.Cond.initialized y.cls).before a0 Z = true) (wc : (Jvm.Cond.code y bytes maxL ret).before a0 Z = true) (eT : T.heap = h) {a : Addr} (E : Exa Z h a K) {W : Nat} (hsize : Ls.size = c.maxLocals) {argsL : List Value} (hW : (S.map fun v => v.category).sum ≤ W) (hf : rm.frames + 1 ≤ R.frames) (hl : W + (maxL + 11) + rm.locals ≤ R.locals) (hc : cells + rm.cells ≤ R.cells) (hs : slots + rm.slots ≤ R.slots) {ps : List FieldType} {r : Option FieldType} (hds : parseMethodDescriptor y0.desc = some ⟨ps, r⟩) (hlen : argsL.length = ps.length) (has : (.ref a :: argsL).toArray = as') (hd : decode c.code pc = .ok (.invokevirtual index, 3)) (k : ∀ v T' L, Stand p l e R s m args below meth c T' (locs ++ L) (cells + rm.cells) (slots + rm.slots) → Qy v T'.heap L → Go p e below F Q T' (mkF m (pc + 3) Ls (v.toList ++ S))) : Go p e below F Q T (mkF m pc Ls (argsL.reverse ++ .ref a :: S)) := by
  obtain ⟨cq, kq, q1, q2, q3⟩ := isOf hZ eT E
  obtain ⟨_, _, ⟨T', L', k', n'⟩, -, X', ⟨L, hq, e1, e2, e3⟩, st⟩ := X.virtualBack hx hown (mvT hZ wl) (mvT hZ wd) hnf (mvT hZ wsel) (mvT hZ ws) hy (backOf (W := W) hM hZ wc wi hf hl) q1 q3 (g := mkF m pc Ls (argsL.reverse ++ .ref a :: S)) rfl hsize (Steps.refl _) (argsL := argsL) (rest := S) (lenOf hds hlen) rfl (by show 2 * 0 + _ ≤ _; omega) hd (fun _ _ => ⟨has, eT, hc, hs⟩)
  dsimp only [Pt.U, Pt.locs, Pt.cells, Pt.slots] at X' e1 e2 e3 st hq
  subst e1 e2 e3
  exact (k _ _ _ X' hq).tr st
theorem Go.instY (X : Stand p l e R s m args below meth c T locs cells slots) (hx : p.tables.exec = Jvm.exec) (hZ : Z.Warmed39 s.vm) {K : String} {index : Nat} (hown : s.vm.findClass own = some m.cls) (w : (Jvm.Cond.classLink own index K).before a0 Z = true) (eT : T.heap = h) {a : Addr} (Fl : Ins Z h a K true) (hd : decode c.code pc = .ok (.instanceof index, 3)) (k : ∀ T', Stand p l e R s m args below meth c T' locs cells slots → T'.heap = h → Go p e below F Q T' (mkF m (pc + 3) Ls (.int 1 :: S))) : Go p e below F Q T (mkF m pc Ls (.ref a :: S)) := by
  obtain ⟨T', X', e', st⟩ := Jvm.RoadKit.instY X hx hZ hown w eT Fl (g := mkF m pc Ls (.ref a :: S)) rfl rfl hd
  exact (k T' X' e').st st
theorem Go.castY (X : Stand p l e R s m args below meth c T locs cells slots) (hx : p.tables.exec = Jvm.exec) (hZ : Z.Warmed39 s.vm) {K : String} {index : Nat} (hown : s.vm.findClass own = some m.cls) (w : (Jvm.Cond.classLink own index K).before a0 Z = true) (eT : T.heap = h) {a : Addr} (Fl : Ins Z h a K true) (hd : decode c.code pc = .ok (.checkcast index, 3)) (k : ∀ T', Stand p l e R s m args below meth c T' locs cells slots → T'.heap = h → Go p e below F Q T' (mkF m (pc + 3) Ls (.ref a :: S))) : Go p e below F Q T (mkF m pc Ls (.ref a :: S)) := by
  obtain ⟨T', X', e', st⟩ := Jvm.RoadKit.castY X hx hZ hown w eT Fl (g := mkF m pc Ls (.ref a :: S)) rfl rfl hd
  exact (k T' X' e').st st
theorem Go.instNo (X : Stand p l e R s m args below meth c T locs cells slots) (hx : p.tables.exec = Jvm.exec) (hZ : Z.Warmed39 s.vm) {K K0 : String} {index : Nat} (hown : s.vm.findClass own = some m.cls) (w : (Jvm.Cond.classLink own index K).before a0 Z = true) (eT : T.heap = h) {a : Addr} (E : Exa Z h a K0) (Fl : ∃ c t, Z.vm.findClass K0 = some c ∧ Z.vm.findClass K = some t ∧ Z.vm.assignable c t = false) (hd : decode c.code pc = .ok (.instanceof index, 3)) (k : ∀ T', Stand p l e R s m args below meth c T' locs cells slots → T'.heap = h → Go p e below F Q T' (mkF m (pc + 3) Ls (.int 0 :: S))) : Go p e below F Q T (mkF m pc Ls (.ref a :: S)) := by
  obtain ⟨T', X', e', st⟩ := Jvm.RoadKit.instNo X hx hZ hown w eT E Fl (g := mkF m pc Ls (.ref a :: S)) rfl rfl hd
  exact (k T' X' e').st st
theorem Go.instNull (X : Stand p l e R s m args below meth c T locs cells slots) (hx : p.tables.exec = Jvm.exec) {index : Nat} (hd : decode c.code pc = .ok (.instanceof index, 3)) (h : Go p e below F Q T (mkF m (pc + 3) Ls (.int 0 :: S))) : Go p e below F Q T (mkF m pc Ls (.null :: S)) := h.st fun _ k => X.instanceofNull hx (g := mkF m pc Ls (.null :: S)) rfl rfl hd _ k
theorem Go.castNull (X : Stand p l e R s m args below meth c T locs cells slots) (hx : p.tables.exec = Jvm.exec) {index : Nat} (hd : decode c.code pc = .ok (.checkcast index, 3)) (h : Go p e below F Q T (mkF m (pc + 3) Ls (.null :: S))) : Go p e below F Q T (mkF m pc Ls (.null :: S)) := h.st fun _ k => X.checkcastNull hx (g := mkF m pc Ls (.null :: S)) rfl rfl hd _ k
theorem own_noSub {K0 S0 K : String} {n : Nat} (w : (Jvm.Cond.superclass K0 S0).before a0 Z = true) (wk : (Jvm.Cond.instantiable K n).before a0 Z = true) (q : NS Z K0 K) (hn : K0 ≠ K) : ∃ c t, Z.vm.findClass K0 = some c ∧ Z.vm.findClass K = some t ∧ Z.vm.assignable c t = false := by
  obtain ⟨c, t, h0, g0, n3⟩ := q
  obtain ⟨p, k, kp, h1, h2, h3, h4, h5, -, h7⟩ := Cond.superclass_spec h0 w
  obtain ⟨t', k', g1, g2, g3, g4, -⟩ := Cond.instantiable_spec wk
  cases g0.symm.trans g1
  have g5 : k'.isInterface = false := by simp only [Bool.or_eq_false_iff] at g4; exact g4.1
  have ne := ids_ne h0 g0 hn
  refine ⟨c, t, h0, g0, ?_⟩
  show Z.vm.assignableAux (255 + 1) c t = false
  simp [Vm.assignableAux, ne, h2, g2, h5, g3, g5, Vm.isSubclass, n3]
theorem own_nsRoot {O K : String} {n : Nat} (w : (Jvm.Cond.noSuperclass O).before a0 Z = true) (wk : (Jvm.Cond.instantiable K n).before a0 Z = true) (hn : O ≠ K) : NS Z O K := by
  obtain ⟨c, k, h1, h2, h3, -, -⟩ := Cond.noSuperclass_spec w
  obtain ⟨t, k', g1, -⟩ := Cond.instantiable_spec wk
  have ne := ids_ne h1 g1 hn
  refine ⟨c, t, h1, g1, fun fuel => ?_⟩
  cases fuel with
  | zero => rfl
  | succ f => simp [Vm.isSubclassAux, ne, h2, h3]
theorem Sta.own_keep {h' : Heap} {K n d : String} {v : Value} {ws : List Addr} (Fl : Sta Z h K n d v) (k : Keep h h' ws) (q : ∀ x ∈ ws, ∀ cell : Cell, h[x]? = some cell → cell.vm.isStatics = false) : Sta Z h' K n d v := by
  obtain ⟨cf, i, kk, f, st, cell, h1, h2, h3, h4, h5, h6, h7⟩ := Fl
  refine ⟨cf, i, kk, f, st, cell, h1, h2, h3, h4, k.2.1 _ _ h5 (fun hm => ?_), h6, h7⟩
  have := q _ hm _ h5
  rw [h6] at this; cases this
theorem Go.newP (X : Stand p l e R s m args below meth c T locs cells slots) (hx : p.tables.exec = Jvm.exec) (hZ : Z.Warmed39 s.vm) {aty : ArrayType} (w : (Jvm.Cond.arrayClass (newarray.typeOf aty)).before a0 Z = true) (eT : T.heap = h) {n : Int32} (hd : decode c.code pc = .ok (.newarray aty, 2)) (hn : ¬ n < 0) {cap : Nat} (hcap : n.toNatClampNeg ≤ cap) (hb : cap * 8 ≤ 536870912) (hc : cells + 1 ≤ R.cells) (hl : slots + cap ≤ R.slots) (k : ∀ T' h' cA a, a = h.size → Stand p l e R s m args below meth c T' locs (cells + 1) (slots + cap) → T'.heap = h' → Ext h h' → Arr Z h' a (newA cA (newarray.typeOf aty) n) (newarray.typeOf aty) → Go p e below F Q T' (mkF m (pc + 2) Ls (.ref a :: S))) : Go p e below F Q T (mkF m pc Ls (.int n :: S)) := by
  obtain ⟨T', h', cA, X', e', E', A', st⟩ := Jvm.RoadKit.newP X hx hZ w eT (g := mkF m pc Ls (.int n :: S)) rfl hd rfl hn hcap hb hc hl
  exact (k T' h' cA _ rfl X' e' E' A').st st
theorem Go.stI (X : Stand p l e R s m args below meth c T locs cells slots) (hx : p.tables.exec = Jvm.exec) (hZ : Z.Warmed39 s.vm) (eT : T.heap = h) {a : Addr} {cl : Cell} (A : Arr Z h a cl .int) {j : Int32} {x : Int32} (hj : ¬ (j < 0 ∨ cl.slots.size ≤ j.toNatClampNeg)) (hd : decode c.code pc = .ok (.iastore, 1)) (k : ∀ T' h', Stand p l e R s m args below meth c T' (locs ++ [⟨a, j.toNatClampNeg⟩]) cells slots → T'.heap = h' → Wr h h' a j.toNatClampNeg (.int x) → Go p e below F Q T' (mkF m (pc + 1) Ls S)) : Go p e below F Q T (mkF m pc Ls (.int x :: .int j :: .ref a :: S)) := by
  obtain ⟨T', h', X', e', W', st⟩ := Jvm.RoadKit.stI X hx hZ eT A hj (g := mkF m pc Ls (.int x :: .int j :: .ref a :: S)) rfl rfl hd
  exact (k T' h' X' e' W').st st
theorem Go.stC (X : Stand p l e R s m args below meth c T locs cells slots) (hx : p.tables.exec = Jvm.exec) (hZ : Z.Warmed39 s.vm) (eT : T.heap = h) {a : Addr} {cl : Cell} (A : Arr Z h a cl .char) {j : Int32} {x : Int32} (hj : ¬ (j < 0 ∨ cl.slots.size ≤ j.toNatClampNeg)) (hd : decode c.code pc = .ok (.castore, 1)) (k : ∀ T' h', Stand p l e R s m args below meth c T' (locs ++ [⟨a, j.toNatClampNeg⟩]) cells slots → T'.heap = h' → Wr h h' a j.toNatClampNeg (.int (nar .char x)) → Go p e below F Q T' (mkF m (pc + 1) Ls S)) : Go p e below F Q T (mkF m pc Ls (.int x :: .int j :: .ref a :: S)) := by
  obtain ⟨T', h', X', e', W', st⟩ := Jvm.RoadKit.stC X hx hZ eT A hj (g := mkF m pc Ls (.int x :: .int j :: .ref a :: S)) rfl rfl hd
  exact (k T' h' X' e' W').st st
theorem Go.stB (X : Stand p l e R s m args below meth c T locs cells slots) (hx : p.tables.exec = Jvm.exec) (hZ : Z.Warmed39 s.vm) (eT : T.heap = h) {a : Addr} {cl : Cell} (A : Arr Z h a cl .byte) {j : Int32} {x : Int32} (hj : ¬ (j < 0 ∨ cl.slots.size ≤ j.toNatClampNeg)) (hd : decode c.code pc = .ok (.bastore, 1)) (k : ∀ T' h', Stand p l e R s m args below meth c T' (locs ++ [⟨a, j.toNatClampNeg⟩]) cells slots → T'.heap = h' → Wr h h' a j.toNatClampNeg (.int (nar .byte x)) → Go p e below F Q T' (mkF m (pc + 1) Ls S)) : Go p e below F Q T (mkF m pc Ls (.int x :: .int j :: .ref a :: S)) := by
  obtain ⟨T', h', X', e', W', st⟩ := Jvm.RoadKit.stB X hx hZ eT A hj (g := mkF m pc Ls (.int x :: .int j :: .ref a :: S)) rfl rfl hd
  exact (k T' h' X' e' W').st st
theorem Go.stZ (X : Stand p l e R s m args below meth c T locs cells slots) (hx : p.tables.exec = Jvm.exec) (hZ : Z.Warmed39 s.vm) (eT : T.heap = h) {a : Addr} {cl : Cell} (A : Arr Z h a cl .boolean) {j : Int32} {x : Int32} (hj : ¬ (j < 0 ∨ cl.slots.size ≤ j.toNatClampNeg)) (hd : decode c.code pc = .ok (.bastore, 1)) (k : ∀ T' h', Stand p l e R s m args below meth c T' (locs ++ [⟨a, j.toNatClampNeg⟩]) cells slots → T'.heap = h' → Wr h h' a j.toNatClampNeg (.int (nar .boolean x)) → Go p e below F Q T' (mkF m (pc + 1) Ls S)) : Go p e below F Q T (mkF m pc Ls (.int x :: .int j :: .ref a :: S)) := by
  obtain ⟨T', h', X', e', W', st⟩ := Jvm.RoadKit.stZ X hx hZ eT A hj (g := mkF m pc Ls (.int x :: .int j :: .ref a :: S)) rfl rfl hd
  exact (k T' h' X' e' W').st st
theorem Go.stS (X : Stand p l e R s m args below meth c T locs cells slots) (hx : p.tables.exec = Jvm.exec) (hZ : Z.Warmed39 s.vm) (eT : T.heap = h) {a : Addr} {cl : Cell} (A : Arr Z h a cl .short) {j : Int32} {x : Int32} (hj : ¬ (j < 0 ∨ cl.slots.size ≤ j.toNatClampNeg)) (hd : decode c.code pc = .ok (.sastore, 1)) (k : ∀ T' h', Stand p l e R s m args below meth c T' (locs ++ [⟨a, j.toNatClampNeg⟩]) cells slots → T'.heap = h' → Wr h h' a j.toNatClampNeg (.int (nar .short x)) → Go p e below F Q T' (mkF m (pc + 1) Ls S)) : Go p e below F Q T (mkF m pc Ls (.int x :: .int j :: .ref a :: S)) := by
  obtain ⟨T', h', X', e', W', st⟩ := Jvm.RoadKit.stS X hx hZ eT A hj (g := mkF m pc Ls (.int x :: .int j :: .ref a :: S)) rfl rfl hd
  exact (k T' h' X' e' W').st st
theorem Go.stJ (X : Stand p l e R s m args below meth c T locs cells slots) (hx : p.tables.exec = Jvm.exec) (hZ : Z.Warmed39 s.vm) (eT : T.heap = h) {a : Addr} {cl : Cell} (A : Arr Z h a cl .long) {j : Int32} {x : Int64} (hj : ¬ (j < 0 ∨ cl.slots.size ≤ j.toNatClampNeg)) (hd : decode c.code pc = .ok (.lastore, 1)) (k : ∀ T' h', Stand p l e R s m args below meth c T' (locs ++ [⟨a, j.toNatClampNeg⟩]) cells slots → T'.heap = h' → Wr h h' a j.toNatClampNeg (.long x) → Go p e below F Q T' (mkF m (pc + 1) Ls S)) : Go p e below F Q T (mkF m pc Ls (.long x :: .int j :: .ref a :: S)) := by
  obtain ⟨T', h', X', e', W', st⟩ := Jvm.RoadKit.stJ X hx hZ eT A hj (g := mkF m pc Ls (.long x :: .int j :: .ref a :: S)) rfl rfl hd
  exact (k T' h' X' e' W').st st
theorem Go.iaload (X : Stand p l e R s m args below meth c T locs cells slots) (hx : p.tables.exec = Jvm.exec) (hZ : Z.Warmed39 s.vm) (eT : T.heap = h) {a : Addr} {cl : Cell} (A : Arr Z h a cl .int) {j : Int32} {v : Value} (hj : ¬ (j < 0 ∨ cl.slots.size ≤ j.toNatClampNeg)) (hv : cl.slots[j.toNatClampNeg]? = some v) (hd : decode c.code pc = .ok (.iaload, 1)) (k : Go p e below F Q T (mkF m (pc + 1) Ls (v :: S))) : Go p e below F Q T (mkF m pc Ls (.int j :: .ref a :: S)) := k.st fun _ q => X.iaload hx (by rw [eT]; exact A.1) (State.isArrayOf_alike hZ.alike A.2.1) A.2.2 hj hv (g := mkF m pc Ls (.int j :: .ref a :: S)) rfl rfl hd _ q
theorem Go.caload (X : Stand p l e R s m args below meth c T locs cells slots) (hx : p.tables.exec = Jvm.exec) (hZ : Z.Warmed39 s.vm) (eT : T.heap = h) {a : Addr} {cl : Cell} (A : Arr Z h a cl .char) {j : Int32} {v : Value} (hj : ¬ (j < 0 ∨ cl.slots.size ≤ j.toNatClampNeg)) (hv : cl.slots[j.toNatClampNeg]? = some v) (hd : decode c.code pc = .ok (.caload, 1)) (k : Go p e below F Q T (mkF m (pc + 1) Ls (v :: S))) : Go p e below F Q T (mkF m pc Ls (.int j :: .ref a :: S)) := k.st fun _ q => X.caload hx (by rw [eT]; exact A.1) (State.isArrayOf_alike hZ.alike A.2.1) A.2.2 hj hv (g := mkF m pc Ls (.int j :: .ref a :: S)) rfl rfl hd _ q
theorem Go.saload (X : Stand p l e R s m args below meth c T locs cells slots) (hx : p.tables.exec = Jvm.exec) (hZ : Z.Warmed39 s.vm) (eT : T.heap = h) {a : Addr} {cl : Cell} (A : Arr Z h a cl .short) {j : Int32} {v : Value} (hj : ¬ (j < 0 ∨ cl.slots.size ≤ j.toNatClampNeg)) (hv : cl.slots[j.toNatClampNeg]? = some v) (hd : decode c.code pc = .ok (.saload, 1)) (k : Go p e below F Q T (mkF m (pc + 1) Ls (v :: S))) : Go p e below F Q T (mkF m pc Ls (.int j :: .ref a :: S)) := k.st fun _ q => X.saload hx (by rw [eT]; exact A.1) (State.isArrayOf_alike hZ.alike A.2.1) A.2.2 hj hv (g := mkF m pc Ls (.int j :: .ref a :: S)) rfl rfl hd _ q
theorem Go.laload (X : Stand p l e R s m args below meth c T locs cells slots) (hx : p.tables.exec = Jvm.exec) (hZ : Z.Warmed39 s.vm) (eT : T.heap = h) {a : Addr} {cl : Cell} (A : Arr Z h a cl .long) {j : Int32} {v : Value} (hj : ¬ (j < 0 ∨ cl.slots.size ≤ j.toNatClampNeg)) (hv : cl.slots[j.toNatClampNeg]? = some v) (hd : decode c.code pc = .ok (.laload, 1)) (k : Go p e below F Q T (mkF m (pc + 1) Ls (v :: S))) : Go p e below F Q T (mkF m pc Ls (.int j :: .ref a :: S)) := k.st fun _ q => X.laload hx (by rw [eT]; exact A.1) (State.isArrayOf_alike hZ.alike A.2.1) A.2.2 hj hv (g := mkF m pc Ls (.int j :: .ref a :: S)) rfl rfl hd _ q
theorem Go.baload (X : Stand p l e R s m args below meth c T locs cells slots) (hx : p.tables.exec = Jvm.exec) (hZ : Z.Warmed39 s.vm) (eT : T.heap = h) {a : Addr} {cl : Cell} (A : Arr Z h a cl .byte) {j : Int32} {v : Value} (hj : ¬ (j < 0 ∨ cl.slots.size ≤ j.toNatClampNeg)) (hv : cl.slots[j.toNatClampNeg]? = some v) (hd : decode c.code pc = .ok (.baload, 1)) (k : Go p e below F Q T (mkF m (pc + 1) Ls (v :: S))) : Go p e below F Q T (mkF m pc Ls (.int j :: .ref a :: S)) := k.st fun _ q => X.baloadBytes hx (by rw [eT]; exact A.1) (State.isArrayOf_alike hZ.alike A.2.1) A.2.2 hj hv (g := mkF m pc Ls (.int j :: .ref a :: S)) rfl rfl hd _ q
theorem Go.aaload (X : Stand p l e R s m args below meth c T locs cells slots) (hx : p.tables.exec = Jvm.exec) (hZ : Z.Warmed39 s.vm) (eT : T.heap = h) {a : Addr} {cl : Cell} {ty : FieldType} (A : Arr Z h a cl ty) (hty : ty.isReference = true) {j : Int32} {v : Value} (hj : ¬ (j < 0 ∨ cl.slots.size ≤ j.toNatClampNeg)) (hv : cl.slots[j.toNatClampNeg]? = some v) (hd : decode c.code pc = .ok (.aaload, 1)) (k : Go p e below F Q T (mkF m (pc + 1) Ls (v :: S))) : Go p e below F Q T (mkF m pc Ls (.int j :: .ref a :: S)) := k.st fun _ q => X.aaload hx (by rw [eT]; exact A.1) (State.isArrayOf_alike hZ.alike A.2.1) hty A.2.2 hj hv (g := mkF m pc Ls (.int j :: .ref a :: S)) rfl rfl hd _ q
theorem Go.arraylength (X : Stand p l e R s m args below meth c T locs cells slots) (hx : p.tables.exec = Jvm.exec) (hZ : Z.Warmed39 s.vm) (eT : T.heap = h) {a : Addr} {cl : Cell} {ty : FieldType} (A : Arr Z h a cl ty) {n : Int32} (S1 : cl.slots.size = n.toNatClampNeg) (hn : ¬ n < 0) (hd : decode c.code pc = .ok (.arraylength, 1)) (k : Go p e below F Q T (mkF m (pc + 1) Ls (.int n :: S))) : Go p e below F Q T (mkF m pc Ls (.ref a :: S)) := k.st fun _ q => X.arraylength hx (by rw [eT]; exact A.1) (State.isArrayOf_alike hZ.alike A.2.1) (g := mkF m pc Ls (.ref a :: S)) rfl rfl hd _ (by rw [len_of S1 hn]; exact q)
theorem Go.callIB (X : Stand p l e R s m args below meth c T locs cells slots) (hx : p.tables.exec = Jvm.exec) (hZ : Z.Warmed39 s.vm) {index : Nat} {y : MethodName} {as' : Array Value} {C1 N1 : Nat} {Qy : Option Value → Heap → List Loc → Prop} {W : Nat} (hK : Back l R p e below s args y 3 W (fun P a => a = as' ∧ P.U.heap = h ∧ P.cells + C1 ≤ R.cells ∧ P.slots + N1 ≤ R.slots) (fun P _ v B => ∃ L, Qy v B.U.heap L ∧ B.locs = P.locs ++ L ∧ B.cells = P.cells + C1 ∧ B.slots = P.slots + N1)) (hy1 : y.name = "<init>") (hown : s.vm.findClass own = some m.cls) (wl : (Jvm.Cond.methodLink own index y).before a0 Z = true) (ws : (Jvm.Cond.instanceMethod y).before a0 Z = true) {bytes : ByteArray} {maxL : Nat} (wc : (Jvm.Cond.code y bytes maxL none).before a0 Z = true) (hy : y.cls ≠ "java/lang/invoke/MethodHandle" ∧ y.cls ≠ "java/lang/invoke/VarHandle") (eT : T.heap = h) {a : Addr} (hsize : Ls.size = c.maxLocals) {argsL : List Value} (hW : (S.map fun v => v.category).sum ≤ W) (hc : cells + C1 ≤ R.cells) (hs : slots + N1 ≤ R.slots) {ps : List FieldType} {r : Option FieldType} (hds : parseMethodDescriptor y.desc = some ⟨ps, r⟩) (hlen : argsL.length = ps.length) (has : (.ref a :: argsL).toArray = as') (hd : decode c.code pc = .ok (.invokespecial index, 3)) (k : ∀ v T' L, Stand p l e R s m args below meth c T' (locs ++ L) (cells + C1) (slots + N1) → Qy v T'.heap L → Go p e below F Q T' (mkF m (pc + 3) Ls (v.toList ++ S))) : Go p e below F Q T (mkF m pc Ls (argsL.reverse ++ .ref a :: S)) := by
  obtain ⟨_, _, ⟨T', L', k', n'⟩, -, X', ⟨L, hq, e1, e2, e3⟩, st⟩ := X.specialBack hx hy1 hown (mvT hZ wl) (mvT hZ ws) (mvT hZ wc) hy hK (g := mkF m pc Ls (argsL.reverse ++ .ref a :: S)) rfl hsize (Steps.refl _) (a := a) (argsL := argsL) (rest := S) (lenOf hds hlen) rfl (by show 2 * 0 + _ ≤ _; omega) hd (fun _ _ => ⟨has, eT, hc, hs⟩)
  dsimp only [Pt.U, Pt.locs, Pt.cells, Pt.slots] at X' e1 e2 e3 st hq
  subst e1 e2 e3
  exact (k _ _ _ X' hq).tr st
theorem Go.callVB (X : Stand p l e R s m args below meth c T locs cells slots) (hx : p.tables.exec = Jvm.exec) (hZ : Z.Warmed39 s.vm) {index : Nat} {K : String} {y : MethodName} {as' : Array Value} {C1 N1 : Nat} {Qy : Option Value → Heap → List Loc → Prop} {W : Nat} (hK : Back l R p e below s args y 3 W (fun P a => a = as' ∧ P.U.heap = h ∧ P.cells + C1 ≤ R.cells ∧ P.slots + N1 ≤ R.slots) (fun P _ v B => ∃ L, Qy v B.U.heap L ∧ B.locs = P.locs ++ L ∧ B.cells = P.cells + C1 ∧ B.slots = P.slots + N1)) {y0 : MethodName} (hy : y0.cls ≠ "java/lang/invoke/MethodHandle" ∧ y0.cls ≠ "java/lang/invoke/VarHandle") (hown : s.vm.findClass own = some m.cls) (wl : (Jvm.Cond.methodLink own index y0).before a0 Z = true) (wd : (Jvm.Cond.declares y0).before a0 Z = true) (hnf : NotFace s y0) (wsel : (Jvm.Cond.selects K y0 y).before a0 Z = true) (ws : (Jvm.Cond.instanceMethod y).before a0 Z = true) (eT : T.heap = h) {a : Addr} (E : Exa Z h a K) (hsize : Ls.size = c.maxLocals) {argsL : List Value} (hW : (S.map fun v => v.category).sum ≤ W) (hc : cells + C1 ≤ R.cells) (hs : slots + N1 ≤ R.slots) {ps : List FieldType} {r : Option FieldType} (hds : parseMethodDescriptor y0.desc = some ⟨ps, r⟩) (hlen : argsL.length = ps.length) (has : (.ref a :: argsL).toArray = as') (hd : decode c.code pc = .ok (.invokevirtual index, 3)) (k : ∀ v T' L, Stand p l e R s m args below meth c T' (locs ++ L) (cells + C1) (slots + N1) → Qy v T'.heap L → Go p e below F Q T' (mkF m (pc + 3) Ls (v.toList ++ S))) : Go p e below F Q T (mkF m pc Ls (argsL.reverse ++ .ref a :: S)) := by
  obtain ⟨cq, kq, q1, q2, q3⟩ := isOf hZ eT E
  obtain ⟨_, _, ⟨T', L', k', n'⟩, -, X', ⟨L, hq, e1, e2, e3⟩, st⟩ := X.virtualBack hx hown (mvT hZ wl) (mvT hZ wd) hnf (mvT hZ wsel) (mvT hZ ws) hy hK q1 q3 (g := mkF m pc Ls (argsL.reverse ++ .ref a :: S)) rfl hsize (Steps.refl _) (argsL := argsL) (rest := S) (lenOf hds hlen) rfl (by show 2 * 0 + _ ≤ _; omega) hd (fun _ _ => ⟨has, eT, hc, hs⟩)
  dsimp only [Pt.U, Pt.locs, Pt.cells, Pt.slots] at X' e1 e2 e3 st hq
  subst e1 e2 e3
  exact (k _ _ _ X' hq).tr st
end OwnKit
def own_min (p : Int32) (q : Int32)  : Int32 := (if q < p then q else p)
theorem d1_0 : decode jdk_29_method_69_code 0 = .ok (.iload_n 0, 1) := by decide +kernel
theorem d1_1 : decode jdk_29_method_69_code 1 = .ok (.iload_n 1, 1) := by decide +kernel
theorem d1_2 : decode jdk_29_method_69_code 2 = .ok (.if_icmp .gt 7, 3) := by decide +kernel
theorem d1_5 : decode jdk_29_method_69_code 5 = .ok (.iload_n 0, 1) := by decide +kernel
theorem d1_6 : decode jdk_29_method_69_code 6 = .ok (.goto 4, 3) := by decide +kernel
theorem d1_9 : decode jdk_29_method_69_code 9 = .ok (.iload_n 1, 1) := by decide +kernel
theorem d1_10 : decode jdk_29_method_69_code 10 = .ok (.ireturn, 1) := by decide +kernel
theorem ef_rm1 (m_ : MethodId) (p : Int32) (q : Int32) : entryFrame m_ #[(.int p), (.int q)] 2 = mkF m_ 0 #[.val (.int p), .val (.int q)] [] := by first | (simp [entryFrame, mkF, argsToLocals, Value.category]; done) | rfl
def Q1 (Z : State) (p : Int32) (q : Int32)  (h0 : Heap) (n0 : Nat) (v : Option Value) (h : Heap) (L : List Loc) : Prop := v = some (.int (own_min p q)) ∧ Fr n0 L ∧ h = h0
set_option maxRecDepth 65536 in
set_option maxHeartbeats 40000000 in
theorem rm1 (l : Launch) (Z : State) (a0 : Array Value) (hw : ∀ d ∈ tables_1, d.before a0 Z = true) (ws : List Jvm.Cond) (p : Int32) (q : Int32)  (h0 : Heap) (n0 : Nat) (Z0 : n0 ≤ h0.size)  :
    MetFree l (⟨"java/lang/Math", "min", "(II)I"⟩ : MethodName) (head1 (Jvm.Cond.code (⟨"java/lang/Math", "min", "(II)I"⟩ : MethodName) jdk_29_method_69_code 2 (some .int) :: ws) ({ frames := 0, cells := 0, slots := 0, locals := 0 } : Room)) (fun a_ U_ => a_ = #[(.int p), (.int q)] ∧ Z.Warmed39 U_.vm ∧ U_.heap = h0) (fun _ _ _ _ _ => True) (fun _ U_ o_ V_ => ∃ v_ L_, o_ = .returned v_ ∧ Q1 Z p q h0 n0 v_ V_.heap L_ ∧ FrameEnd U_ o_ V_ L_ ({ frames := 0, cells := 0, slots := 0, locals := 0 } : Room).cells ({ frames := 0, cells := 0, slots := 0, locals := 0 } : Room).slots) := by
  refine metOf (Q := Q1 Z p q h0 n0) (Jvm.Free.JP.mathPlain rfl (by decide +kernel)) ?_
  intro p_ e_ s_ m_ below meth c_ s₁ X0 hx hby hml hret hlk hZ hown hnm e0
  rw [ef_rm1]
  have N0 := Fr.nil n0
  show Go p_ e_ below _ _ s₁ (mkF m_ 0 #[.val (.int p), .val (.int q)] [])
  refine Go.iloadN X0 hx (hb hby d1_0) rfl ?_
  refine Go.iloadN X0 hx (hb hby d1_1) rfl ?_
  by_cases hc2_1 : q < p
  · skip
    refine Go.icmpYes X0 hx (pc' := 9) (hb hby d1_2) (tlt hc2_1).2.2.1 (by decide) (by decide) ?_
    show Go p_ e_ below _ _ s₁ (mkF m_ 9 #[.val (.int p), .val (.int q)] [])
    refine Go.iloadN X0 hx (hb hby d1_9) rfl ?_
    refine Go.retI X0 hx hret hlk (hb hby d1_10) (by decide) (by decide) ?_
    exact ⟨by unfold own_min; rw [if_pos hc2_1] <;> rfl, N0, e0⟩
  · skip
    refine Go.icmpNo X0 hx (hb hby d1_2) (flt hc2_1).2.2.1 ?_
    show Go p_ e_ below _ _ s₁ (mkF m_ 5 #[.val (.int p), .val (.int q)] [])
    refine Go.iloadN X0 hx (hb hby d1_5) rfl ?_
    refine Go.goto X0 hx (pc' := 10) (hb hby d1_6) (by decide) (by decide) ?_
    refine Go.retI X0 hx hret hlk (hb hby d1_10) (by decide) (by decide) ?_
    exact ⟨by unfold own_min; rw [if_neg hc2_1] <;> rfl, N0, e0⟩
def own_max (p : Int32) (q : Int32)  : Int32 := (if p < q then q else p)
theorem d2_0 : decode jdk_29_method_65_code 0 = .ok (.iload_n 0, 1) := by decide +kernel
theorem d2_1 : decode jdk_29_method_65_code 1 = .ok (.iload_n 1, 1) := by decide +kernel
theorem d2_2 : decode jdk_29_method_65_code 2 = .ok (.if_icmp .lt 7, 3) := by decide +kernel
theorem d2_5 : decode jdk_29_method_65_code 5 = .ok (.iload_n 0, 1) := by decide +kernel
theorem d2_6 : decode jdk_29_method_65_code 6 = .ok (.goto 4, 3) := by decide +kernel
theorem d2_9 : decode jdk_29_method_65_code 9 = .ok (.iload_n 1, 1) := by decide +kernel
theorem d2_10 : decode jdk_29_method_65_code 10 = .ok (.ireturn, 1) := by decide +kernel
theorem ef_rm2 (m_ : MethodId) (p : Int32) (q : Int32) : entryFrame m_ #[(.int p), (.int q)] 2 = mkF m_ 0 #[.val (.int p), .val (.int q)] [] := by first | (simp [entryFrame, mkF, argsToLocals, Value.category]; done) | rfl
def Q2 (Z : State) (p : Int32) (q : Int32)  (h0 : Heap) (n0 : Nat) (v : Option Value) (h : Heap) (L : List Loc) : Prop := v = some (.int (own_max p q)) ∧ Fr n0 L ∧ h = h0
set_option maxRecDepth 65536 in
set_option maxHeartbeats 40000000 in
theorem rm2 (l : Launch) (Z : State) (a0 : Array Value) (hw : ∀ d ∈ tables_1, d.before a0 Z = true) (ws : List Jvm.Cond) (p : Int32) (q : Int32)  (h0 : Heap) (n0 : Nat) (Z0 : n0 ≤ h0.size)  :
    MetFree l (⟨"java/lang/Math", "max", "(II)I"⟩ : MethodName) (head1 (Jvm.Cond.code (⟨"java/lang/Math", "max", "(II)I"⟩ : MethodName) jdk_29_method_65_code 2 (some .int) :: ws) ({ frames := 0, cells := 0, slots := 0, locals := 0 } : Room)) (fun a_ U_ => a_ = #[(.int p), (.int q)] ∧ Z.Warmed39 U_.vm ∧ U_.heap = h0) (fun _ _ _ _ _ => True) (fun _ U_ o_ V_ => ∃ v_ L_, o_ = .returned v_ ∧ Q2 Z p q h0 n0 v_ V_.heap L_ ∧ FrameEnd U_ o_ V_ L_ ({ frames := 0, cells := 0, slots := 0, locals := 0 } : Room).cells ({ frames := 0, cells := 0, slots := 0, locals := 0 } : Room).slots) := by
  refine metOf (Q := Q2 Z p q h0 n0) (Jvm.Free.JP.mathPlain rfl (by decide +kernel)) ?_
  intro p_ e_ s_ m_ below meth c_ s₁ X0 hx hby hml hret hlk hZ hown hnm e0
  rw [ef_rm2]
  have N0 := Fr.nil n0
  show Go p_ e_ below _ _ s₁ (mkF m_ 0 #[.val (.int p), .val (.int q)] [])
  refine Go.iloadN X0 hx (hb hby d2_0) rfl ?_
  refine Go.iloadN X0 hx (hb hby d2_1) rfl ?_
  by_cases hc2_1 : p < q
  · skip
    refine Go.icmpYes X0 hx (pc' := 9) (hb hby d2_2) (tlt hc2_1).1 (by decide) (by decide) ?_
    show Go p_ e_ below _ _ s₁ (mkF m_ 9 #[.val (.int p), .val (.int q)] [])
    refine Go.iloadN X0 hx (hb hby d2_9) rfl ?_
    refine Go.retI X0 hx hret hlk (hb hby d2_10) (by decide) (by decide) ?_
    exact ⟨by unfold own_max; rw [if_pos hc2_1] <;> rfl, N0, e0⟩
  · skip
    refine Go.icmpNo X0 hx (hb hby d2_2) (flt hc2_1).1 ?_
    show Go p_ e_ below _ _ s₁ (mkF m_ 5 #[.val (.int p), .val (.int q)] [])
    refine Go.iloadN X0 hx (hb hby d2_5) rfl ?_
    refine Go.goto X0 hx (pc' := 10) (hb hby d2_6) (by decide) (by decide) ?_
    refine Go.retI X0 hx hret hlk (hb hby d2_10) (by decide) (by decide) ?_
    exact ⟨by unfold own_max; rw [if_neg hc2_1] <;> rfl, N0, e0⟩
theorem own_inb {cl : Cell} (Sz : cl.slots.size = 6) {j : Int32} (h : 0 ≤ j.toInt ∧ j.toInt < 6) : ¬ (j < 0 ∨ cl.slots.size ≤ j.toNatClampNeg) ∧ j.toNatClampNeg < 6 := by
  have e0 : (0 : Int32).toInt = 0 := rfl
  have h1 : (j.toNatClampNeg : Int) = j.toInt := by simp only [Int32.toNatClampNeg]; omega
  rw [Int32.lt_iff_toInt_lt, Sz]
  omega
theorem own_at (p q L k : Int32) (hs : 0 ≤ p.toInt) (hp : p.toInt < 6) (he : q.toInt ≤ 6) (h : ¬ q < p + L) (hk : 0 ≤ k.toInt) (hkL : k.toInt < L.toInt) (hL : L.toInt ≤ 4) : 0 ≤ (p + k).toInt ∧ (p + k).toInt < 6 := by
  rw [Int32.lt_iff_toInt_lt] at h
  have c1 := c_iadd p L
  have c2 := c_iadd p k
  have r1 := rng32 (p + L)
  have r2 := rng32 (p + k)
  omega
def own_seq (f : Nat → Int32) (p1 : Int32) (p2 : Int32) : Int32 := (if (((f p1.toNatClampNeg) &&& (255 : Int32)) &&& (128 : Int32)) = (0 : Int32) then (1 : Int32) else (if (((f p1.toNatClampNeg) &&& (255 : Int32)) &&& (224 : Int32)) = (192 : Int32) then (if p2 < (p1 + (2 : Int32)) then (0 : Int32) else (if (((f (p1 + (1 : Int32)).toNatClampNeg) &&& (255 : Int32)) &&& (192 : Int32)) = (128 : Int32) then (if (((((f p1.toNatClampNeg) &&& (255 : Int32)) &&& (31 : Int32)) <<< ((6 : Int32) &&& 31)) ||| (((f (p1 + (1 : Int32)).toNatClampNeg) &&& (255 : Int32)) &&& (63 : Int32))) < (128 : Int32) then (0 : Int32) else (if (((((f p1.toNatClampNeg) &&& (255 : Int32)) &&& (31 : Int32)) <<< ((6 : Int32) &&& 31)) ||| (((f (p1 + (1 : Int32)).toNatClampNeg) &&& (255 : Int32)) &&& (63 : Int32))) < (55296 : Int32) then (if (1114111 : Int32) < (((((f p1.toNatClampNeg) &&& (255 : Int32)) &&& (31 : Int32)) <<< ((6 : Int32) &&& 31)) ||| (((f (p1 + (1 : Int32)).toNatClampNeg) &&& (255 : Int32)) &&& (63 : Int32))) then (0 : Int32) else (2 : Int32)) else (if (57343 : Int32) < (((((f p1.toNatClampNeg) &&& (255 : Int32)) &&& (31 : Int32)) <<< ((6 : Int32) &&& 31)) ||| (((f (p1 + (1 : Int32)).toNatClampNeg) &&& (255 : Int32)) &&& (63 : Int32))) then (if (1114111 : Int32) < (((((f p1.toNatClampNeg) &&& (255 : Int32)) &&& (31 : Int32)) <<< ((6 : Int32) &&& 31)) ||| (((f (p1 + (1 : Int32)).toNatClampNeg) &&& (255 : Int32)) &&& (63 : Int32))) then (0 : Int32) else (2 : Int32)) else (0 : Int32)))) else (0 : Int32))) else (if (((f p1.toNatClampNeg) &&& (255 : Int32)) &&& (240 : Int32)) = (224 : Int32) then (if p2 < (p1 + (3 : Int32)) then (0 : Int32) else (if (((f (p1 + (1 : Int32)).toNatClampNeg) &&& (255 : Int32)) &&& (192 : Int32)) = (128 : Int32) then (if (((f (p1 + (2 : Int32)).toNatClampNeg) &&& (255 : Int32)) &&& (192 : Int32)) = (128 : Int32) then (if (((((((f p1.toNatClampNeg) &&& (255 : Int32)) &&& (15 : Int32)) <<< ((6 : Int32) &&& 31)) ||| (((f (p1 + (1 : Int32)).toNatClampNeg) &&& (255 : Int32)) &&& (63 : Int32))) <<< ((6 : Int32) &&& 31)) ||| (((f (p1 + (2 : Int32)).toNatClampNeg) &&& (255 : Int32)) &&& (63 : Int32))) < (2048 : Int32) then (0 : Int32) else (if (((((((f p1.toNatClampNeg) &&& (255 : Int32)) &&& (15 : Int32)) <<< ((6 : Int32) &&& 31)) ||| (((f (p1 + (1 : Int32)).toNatClampNeg) &&& (255 : Int32)) &&& (63 : Int32))) <<< ((6 : Int32) &&& 31)) ||| (((f (p1 + (2 : Int32)).toNatClampNeg) &&& (255 : Int32)) &&& (63 : Int32))) < (55296 : Int32) then (if (1114111 : Int32) < (((((((f p1.toNatClampNeg) &&& (255 : Int32)) &&& (15 : Int32)) <<< ((6 : Int32) &&& 31)) ||| (((f (p1 + (1 : Int32)).toNatClampNeg) &&& (255 : Int32)) &&& (63 : Int32))) <<< ((6 : Int32) &&& 31)) ||| (((f (p1 + (2 : Int32)).toNatClampNeg) &&& (255 : Int32)) &&& (63 : Int32))) then (0 : Int32) else (3 : Int32)) else (if (57343 : Int32) < (((((((f p1.toNatClampNeg) &&& (255 : Int32)) &&& (15 : Int32)) <<< ((6 : Int32) &&& 31)) ||| (((f (p1 + (1 : Int32)).toNatClampNeg) &&& (255 : Int32)) &&& (63 : Int32))) <<< ((6 : Int32) &&& 31)) ||| (((f (p1 + (2 : Int32)).toNatClampNeg) &&& (255 : Int32)) &&& (63 : Int32))) then (if (1114111 : Int32) < (((((((f p1.toNatClampNeg) &&& (255 : Int32)) &&& (15 : Int32)) <<< ((6 : Int32) &&& 31)) ||| (((f (p1 + (1 : Int32)).toNatClampNeg) &&& (255 : Int32)) &&& (63 : Int32))) <<< ((6 : Int32) &&& 31)) ||| (((f (p1 + (2 : Int32)).toNatClampNeg) &&& (255 : Int32)) &&& (63 : Int32))) then (0 : Int32) else (3 : Int32)) else (0 : Int32)))) else (0 : Int32)) else (0 : Int32))) else (if (((f p1.toNatClampNeg) &&& (255 : Int32)) &&& (248 : Int32)) = (240 : Int32) then (if p2 < (p1 + (4 : Int32)) then (0 : Int32) else (if (((f (p1 + (1 : Int32)).toNatClampNeg) &&& (255 : Int32)) &&& (192 : Int32)) = (128 : Int32) then (if (((f (p1 + (2 : Int32)).toNatClampNeg) &&& (255 : Int32)) &&& (192 : Int32)) = (128 : Int32) then (if (((f (p1 + (3 : Int32)).toNatClampNeg) &&& (255 : Int32)) &&& (192 : Int32)) = (128 : Int32) then (if (((((((((f p1.toNatClampNeg) &&& (255 : Int32)) &&& (7 : Int32)) <<< ((6 : Int32) &&& 31)) ||| (((f (p1 + (1 : Int32)).toNatClampNeg) &&& (255 : Int32)) &&& (63 : Int32))) <<< ((6 : Int32) &&& 31)) ||| (((f (p1 + (2 : Int32)).toNatClampNeg) &&& (255 : Int32)) &&& (63 : Int32))) <<< ((6 : Int32) &&& 31)) ||| (((f (p1 + (3 : Int32)).toNatClampNeg) &&& (255 : Int32)) &&& (63 : Int32))) < (65536 : Int32) then (0 : Int32) else (if (((((((((f p1.toNatClampNeg) &&& (255 : Int32)) &&& (7 : Int32)) <<< ((6 : Int32) &&& 31)) ||| (((f (p1 + (1 : Int32)).toNatClampNeg) &&& (255 : Int32)) &&& (63 : Int32))) <<< ((6 : Int32) &&& 31)) ||| (((f (p1 + (2 : Int32)).toNatClampNeg) &&& (255 : Int32)) &&& (63 : Int32))) <<< ((6 : Int32) &&& 31)) ||| (((f (p1 + (3 : Int32)).toNatClampNeg) &&& (255 : Int32)) &&& (63 : Int32))) < (55296 : Int32) then (if (1114111 : Int32) < (((((((((f p1.toNatClampNeg) &&& (255 : Int32)) &&& (7 : Int32)) <<< ((6 : Int32) &&& 31)) ||| (((f (p1 + (1 : Int32)).toNatClampNeg) &&& (255 : Int32)) &&& (63 : Int32))) <<< ((6 : Int32) &&& 31)) ||| (((f (p1 + (2 : Int32)).toNatClampNeg) &&& (255 : Int32)) &&& (63 : Int32))) <<< ((6 : Int32) &&& 31)) ||| (((f (p1 + (3 : Int32)).toNatClampNeg) &&& (255 : Int32)) &&& (63 : Int32))) then (0 : Int32) else (4 : Int32)) else (if (57343 : Int32) < (((((((((f p1.toNatClampNeg) &&& (255 : Int32)) &&& (7 : Int32)) <<< ((6 : Int32) &&& 31)) ||| (((f (p1 + (1 : Int32)).toNatClampNeg) &&& (255 : Int32)) &&& (63 : Int32))) <<< ((6 : Int32) &&& 31)) ||| (((f (p1 + (2 : Int32)).toNatClampNeg) &&& (255 : Int32)) &&& (63 : Int32))) <<< ((6 : Int32) &&& 31)) ||| (((f (p1 + (3 : Int32)).toNatClampNeg) &&& (255 : Int32)) &&& (63 : Int32))) then (if (1114111 : Int32) < (((((((((f p1.toNatClampNeg) &&& (255 : Int32)) &&& (7 : Int32)) <<< ((6 : Int32) &&& 31)) ||| (((f (p1 + (1 : Int32)).toNatClampNeg) &&& (255 : Int32)) &&& (63 : Int32))) <<< ((6 : Int32) &&& 31)) ||| (((f (p1 + (2 : Int32)).toNatClampNeg) &&& (255 : Int32)) &&& (63 : Int32))) <<< ((6 : Int32) &&& 31)) ||| (((f (p1 + (3 : Int32)).toNatClampNeg) &&& (255 : Int32)) &&& (63 : Int32))) then (0 : Int32) else (4 : Int32)) else (0 : Int32)))) else (0 : Int32)) else (0 : Int32)) else (0 : Int32))) else (0 : Int32)))))
theorem d5_0 : decode method_3_code 0 = .ok (.aload_n 0, 1) := by decide +kernel
theorem d5_1 : decode method_3_code 1 = .ok (.iload_n 1, 1) := by decide +kernel
theorem d5_2 : decode method_3_code 2 = .ok (.baload, 1) := by decide +kernel
theorem d5_3 : decode method_3_code 3 = .ok (.sipush 255, 3) := by decide +kernel
theorem d5_6 : decode method_3_code 6 = .ok (.iand, 1) := by decide +kernel
theorem d5_7 : decode method_3_code 7 = .ok (.istore_n 3, 1) := by decide +kernel
theorem d5_8 : decode method_3_code 8 = .ok (.iload_n 3, 1) := by decide +kernel
theorem d5_9 : decode method_3_code 9 = .ok (.sipush 128, 3) := by decide +kernel
theorem d5_12 : decode method_3_code 12 = .ok (.iand, 1) := by decide +kernel
theorem d5_13 : decode method_3_code 13 = .ok (.ifCond .ne 5, 3) := by decide +kernel
theorem d5_16 : decode method_3_code 16 = .ok (.iconst 1, 1) := by decide +kernel
theorem d5_17 : decode method_3_code 17 = .ok (.ireturn, 1) := by decide +kernel
theorem d5_18 : decode method_3_code 18 = .ok (.iload_n 3, 1) := by decide +kernel
theorem d5_19 : decode method_3_code 19 = .ok (.sipush 224, 3) := by decide +kernel
theorem d5_22 : decode method_3_code 22 = .ok (.iand, 1) := by decide +kernel
theorem d5_23 : decode method_3_code 23 = .ok (.sipush 192, 3) := by decide +kernel
theorem d5_26 : decode method_3_code 26 = .ok (.if_icmp .ne 20, 3) := by decide +kernel
theorem d5_29 : decode method_3_code 29 = .ok (.iconst 2, 1) := by decide +kernel
theorem d5_30 : decode method_3_code 30 = .ok (.istore 4, 2) := by decide +kernel
theorem d5_32 : decode method_3_code 32 = .ok (.iload_n 3, 1) := by decide +kernel
theorem d5_33 : decode method_3_code 33 = .ok (.bipush 31, 2) := by decide +kernel
theorem d5_35 : decode method_3_code 35 = .ok (.iand, 1) := by decide +kernel
theorem d5_36 : decode method_3_code 36 = .ok (.istore 5, 2) := by decide +kernel
theorem d5_38 : decode method_3_code 38 = .ok (.sipush 128, 3) := by decide +kernel
theorem d5_41 : decode method_3_code 41 = .ok (.istore 6, 2) := by decide +kernel
theorem d5_43 : decode method_3_code 43 = .ok (.goto 60, 3) := by decide +kernel
theorem d5_46 : decode method_3_code 46 = .ok (.iload_n 3, 1) := by decide +kernel
theorem d5_47 : decode method_3_code 47 = .ok (.sipush 240, 3) := by decide +kernel
theorem d5_50 : decode method_3_code 50 = .ok (.iand, 1) := by decide +kernel
theorem d5_51 : decode method_3_code 51 = .ok (.sipush 224, 3) := by decide +kernel
theorem d5_54 : decode method_3_code 54 = .ok (.if_icmp .ne 20, 3) := by decide +kernel
theorem d5_57 : decode method_3_code 57 = .ok (.iconst 3, 1) := by decide +kernel
theorem d5_58 : decode method_3_code 58 = .ok (.istore 4, 2) := by decide +kernel
theorem d5_60 : decode method_3_code 60 = .ok (.iload_n 3, 1) := by decide +kernel
theorem d5_61 : decode method_3_code 61 = .ok (.bipush 15, 2) := by decide +kernel
theorem d5_63 : decode method_3_code 63 = .ok (.iand, 1) := by decide +kernel
theorem d5_64 : decode method_3_code 64 = .ok (.istore 5, 2) := by decide +kernel
theorem d5_66 : decode method_3_code 66 = .ok (.sipush 2048, 3) := by decide +kernel
theorem d5_69 : decode method_3_code 69 = .ok (.istore 6, 2) := by decide +kernel
theorem d5_71 : decode method_3_code 71 = .ok (.goto 32, 3) := by decide +kernel
theorem d5_74 : decode method_3_code 74 = .ok (.iload_n 3, 1) := by decide +kernel
theorem d5_75 : decode method_3_code 75 = .ok (.sipush 248, 3) := by decide +kernel
theorem d5_78 : decode method_3_code 78 = .ok (.iand, 1) := by decide +kernel
theorem d5_79 : decode method_3_code 79 = .ok (.sipush 240, 3) := by decide +kernel
theorem d5_82 : decode method_3_code 82 = .ok (.if_icmp .ne 19, 3) := by decide +kernel
theorem d5_85 : decode method_3_code 85 = .ok (.iconst 4, 1) := by decide +kernel
theorem d5_86 : decode method_3_code 86 = .ok (.istore 4, 2) := by decide +kernel
theorem d5_88 : decode method_3_code 88 = .ok (.iload_n 3, 1) := by decide +kernel
theorem d5_89 : decode method_3_code 89 = .ok (.bipush 7, 2) := by decide +kernel
theorem d5_91 : decode method_3_code 91 = .ok (.iand, 1) := by decide +kernel
theorem d5_92 : decode method_3_code 92 = .ok (.istore 5, 2) := by decide +kernel
theorem d5_94 : decode method_3_code 94 = .ok (.ldc 28, 2) := by decide +kernel
theorem d5_96 : decode method_3_code 96 = .ok (.istore 6, 2) := by decide +kernel
theorem d5_98 : decode method_3_code 98 = .ok (.goto 5, 3) := by decide +kernel
theorem d5_101 : decode method_3_code 101 = .ok (.iconst 0, 1) := by decide +kernel
theorem d5_102 : decode method_3_code 102 = .ok (.ireturn, 1) := by decide +kernel
theorem d5_103 : decode method_3_code 103 = .ok (.iload_n 1, 1) := by decide +kernel
theorem d5_104 : decode method_3_code 104 = .ok (.iload 4, 2) := by decide +kernel
theorem d5_106 : decode method_3_code 106 = .ok (.iadd, 1) := by decide +kernel
theorem d5_107 : decode method_3_code 107 = .ok (.iload_n 2, 1) := by decide +kernel
theorem d5_108 : decode method_3_code 108 = .ok (.if_icmp .le 5, 3) := by decide +kernel
theorem d5_111 : decode method_3_code 111 = .ok (.iconst 0, 1) := by decide +kernel
theorem d5_112 : decode method_3_code 112 = .ok (.ireturn, 1) := by decide +kernel
theorem d5_113 : decode method_3_code 113 = .ok (.aload_n 0, 1) := by decide +kernel
theorem d5_114 : decode method_3_code 114 = .ok (.iload_n 1, 1) := by decide +kernel
theorem d5_115 : decode method_3_code 115 = .ok (.iconst 1, 1) := by decide +kernel
theorem d5_116 : decode method_3_code 116 = .ok (.iadd, 1) := by decide +kernel
theorem d5_117 : decode method_3_code 117 = .ok (.baload, 1) := by decide +kernel
theorem d5_118 : decode method_3_code 118 = .ok (.sipush 255, 3) := by decide +kernel
theorem d5_121 : decode method_3_code 121 = .ok (.iand, 1) := by decide +kernel
theorem d5_122 : decode method_3_code 122 = .ok (.istore 7, 2) := by decide +kernel
theorem d5_124 : decode method_3_code 124 = .ok (.iload 7, 2) := by decide +kernel
theorem d5_126 : decode method_3_code 126 = .ok (.sipush 192, 3) := by decide +kernel
theorem d5_129 : decode method_3_code 129 = .ok (.iand, 1) := by decide +kernel
theorem d5_130 : decode method_3_code 130 = .ok (.sipush 128, 3) := by decide +kernel
theorem d5_133 : decode method_3_code 133 = .ok (.if_icmp .eq 5, 3) := by decide +kernel
theorem d5_136 : decode method_3_code 136 = .ok (.iconst 0, 1) := by decide +kernel
theorem d5_137 : decode method_3_code 137 = .ok (.ireturn, 1) := by decide +kernel
theorem d5_138 : decode method_3_code 138 = .ok (.iload 5, 2) := by decide +kernel
theorem d5_140 : decode method_3_code 140 = .ok (.bipush 6, 2) := by decide +kernel
theorem d5_142 : decode method_3_code 142 = .ok (.ishl, 1) := by decide +kernel
theorem d5_143 : decode method_3_code 143 = .ok (.iload 7, 2) := by decide +kernel
theorem d5_145 : decode method_3_code 145 = .ok (.bipush 63, 2) := by decide +kernel
theorem d5_147 : decode method_3_code 147 = .ok (.iand, 1) := by decide +kernel
theorem d5_148 : decode method_3_code 148 = .ok (.ior, 1) := by decide +kernel
theorem d5_149 : decode method_3_code 149 = .ok (.istore 5, 2) := by decide +kernel
theorem d5_151 : decode method_3_code 151 = .ok (.iload 4, 2) := by decide +kernel
theorem d5_153 : decode method_3_code 153 = .ok (.iconst 3, 1) := by decide +kernel
theorem d5_154 : decode method_3_code 154 = .ok (.if_icmp .lt 41, 3) := by decide +kernel
theorem d5_157 : decode method_3_code 157 = .ok (.aload_n 0, 1) := by decide +kernel
theorem d5_158 : decode method_3_code 158 = .ok (.iload_n 1, 1) := by decide +kernel
theorem d5_159 : decode method_3_code 159 = .ok (.iconst 2, 1) := by decide +kernel
theorem d5_160 : decode method_3_code 160 = .ok (.iadd, 1) := by decide +kernel
theorem d5_161 : decode method_3_code 161 = .ok (.baload, 1) := by decide +kernel
theorem d5_162 : decode method_3_code 162 = .ok (.sipush 255, 3) := by decide +kernel
theorem d5_165 : decode method_3_code 165 = .ok (.iand, 1) := by decide +kernel
theorem d5_166 : decode method_3_code 166 = .ok (.istore 8, 2) := by decide +kernel
theorem d5_168 : decode method_3_code 168 = .ok (.iload 8, 2) := by decide +kernel
theorem d5_170 : decode method_3_code 170 = .ok (.sipush 192, 3) := by decide +kernel
theorem d5_173 : decode method_3_code 173 = .ok (.iand, 1) := by decide +kernel
theorem d5_174 : decode method_3_code 174 = .ok (.sipush 128, 3) := by decide +kernel
theorem d5_177 : decode method_3_code 177 = .ok (.if_icmp .eq 5, 3) := by decide +kernel
theorem d5_180 : decode method_3_code 180 = .ok (.iconst 0, 1) := by decide +kernel
theorem d5_181 : decode method_3_code 181 = .ok (.ireturn, 1) := by decide +kernel
theorem d5_182 : decode method_3_code 182 = .ok (.iload 5, 2) := by decide +kernel
theorem d5_184 : decode method_3_code 184 = .ok (.bipush 6, 2) := by decide +kernel
theorem d5_186 : decode method_3_code 186 = .ok (.ishl, 1) := by decide +kernel
theorem d5_187 : decode method_3_code 187 = .ok (.iload 8, 2) := by decide +kernel
theorem d5_189 : decode method_3_code 189 = .ok (.bipush 63, 2) := by decide +kernel
theorem d5_191 : decode method_3_code 191 = .ok (.iand, 1) := by decide +kernel
theorem d5_192 : decode method_3_code 192 = .ok (.ior, 1) := by decide +kernel
theorem d5_193 : decode method_3_code 193 = .ok (.istore 5, 2) := by decide +kernel
theorem d5_195 : decode method_3_code 195 = .ok (.iload 4, 2) := by decide +kernel
theorem d5_197 : decode method_3_code 197 = .ok (.iconst 4, 1) := by decide +kernel
theorem d5_198 : decode method_3_code 198 = .ok (.if_icmp .ne 41, 3) := by decide +kernel
theorem d5_201 : decode method_3_code 201 = .ok (.aload_n 0, 1) := by decide +kernel
theorem d5_202 : decode method_3_code 202 = .ok (.iload_n 1, 1) := by decide +kernel
theorem d5_203 : decode method_3_code 203 = .ok (.iconst 3, 1) := by decide +kernel
theorem d5_204 : decode method_3_code 204 = .ok (.iadd, 1) := by decide +kernel
theorem d5_205 : decode method_3_code 205 = .ok (.baload, 1) := by decide +kernel
theorem d5_206 : decode method_3_code 206 = .ok (.sipush 255, 3) := by decide +kernel
theorem d5_209 : decode method_3_code 209 = .ok (.iand, 1) := by decide +kernel
theorem d5_210 : decode method_3_code 210 = .ok (.istore 8, 2) := by decide +kernel
theorem d5_212 : decode method_3_code 212 = .ok (.iload 8, 2) := by decide +kernel
theorem d5_214 : decode method_3_code 214 = .ok (.sipush 192, 3) := by decide +kernel
theorem d5_217 : decode method_3_code 217 = .ok (.iand, 1) := by decide +kernel
theorem d5_218 : decode method_3_code 218 = .ok (.sipush 128, 3) := by decide +kernel
theorem d5_221 : decode method_3_code 221 = .ok (.if_icmp .eq 5, 3) := by decide +kernel
theorem d5_224 : decode method_3_code 224 = .ok (.iconst 0, 1) := by decide +kernel
theorem d5_225 : decode method_3_code 225 = .ok (.ireturn, 1) := by decide +kernel
theorem d5_226 : decode method_3_code 226 = .ok (.iload 5, 2) := by decide +kernel
theorem d5_228 : decode method_3_code 228 = .ok (.bipush 6, 2) := by decide +kernel
theorem d5_230 : decode method_3_code 230 = .ok (.ishl, 1) := by decide +kernel
theorem d5_231 : decode method_3_code 231 = .ok (.iload 8, 2) := by decide +kernel
theorem d5_233 : decode method_3_code 233 = .ok (.bipush 63, 2) := by decide +kernel
theorem d5_235 : decode method_3_code 235 = .ok (.iand, 1) := by decide +kernel
theorem d5_236 : decode method_3_code 236 = .ok (.ior, 1) := by decide +kernel
theorem d5_237 : decode method_3_code 237 = .ok (.istore 5, 2) := by decide +kernel
theorem d5_239 : decode method_3_code 239 = .ok (.iload 5, 2) := by decide +kernel
theorem d5_241 : decode method_3_code 241 = .ok (.iload 6, 2) := by decide +kernel
theorem d5_243 : decode method_3_code 243 = .ok (.if_icmp .ge 5, 3) := by decide +kernel
theorem d5_246 : decode method_3_code 246 = .ok (.iconst 0, 1) := by decide +kernel
theorem d5_247 : decode method_3_code 247 = .ok (.ireturn, 1) := by decide +kernel
theorem d5_248 : decode method_3_code 248 = .ok (.iload 5, 2) := by decide +kernel
theorem d5_250 : decode method_3_code 250 = .ok (.ldc 29, 2) := by decide +kernel
theorem d5_252 : decode method_3_code 252 = .ok (.if_icmp .lt 12, 3) := by decide +kernel
theorem d5_255 : decode method_3_code 255 = .ok (.iload 5, 2) := by decide +kernel
theorem d5_257 : decode method_3_code 257 = .ok (.ldc 30, 2) := by decide +kernel
theorem d5_259 : decode method_3_code 259 = .ok (.if_icmp .gt 5, 3) := by decide +kernel
theorem d5_262 : decode method_3_code 262 = .ok (.iconst 0, 1) := by decide +kernel
theorem d5_263 : decode method_3_code 263 = .ok (.ireturn, 1) := by decide +kernel
theorem d5_264 : decode method_3_code 264 = .ok (.iload 5, 2) := by decide +kernel
theorem d5_266 : decode method_3_code 266 = .ok (.ldc 31, 2) := by decide +kernel
theorem d5_268 : decode method_3_code 268 = .ok (.if_icmp .le 5, 3) := by decide +kernel
theorem d5_271 : decode method_3_code 271 = .ok (.iconst 0, 1) := by decide +kernel
theorem d5_272 : decode method_3_code 272 = .ok (.ireturn, 1) := by decide +kernel
theorem d5_273 : decode method_3_code 273 = .ok (.iload 4, 2) := by decide +kernel
theorem d5_275 : decode method_3_code 275 = .ok (.ireturn, 1) := by decide +kernel
theorem pn_5 : plainName "com/example/gatefield/gatefield/model/RecordsNotUtf8PinLaw" = true := by first | (simp [plainName, overriddenIn]; done) | decide +kernel
theorem ef_rm5 (m_ : MethodId) (a : Addr) (p1 : Int32) (p2 : Int32) : entryFrame m_ #[(.ref a), (.int p1), (.int p2)] 9 = mkF m_ 0 #[.val (.ref a), .val (.int p1), .val (.int p2), .unset, .unset, .unset, .unset, .unset, .unset] [] := by first | (simp [entryFrame, mkF, argsToLocals, Value.category]; done) | rfl
def Q5 (Z : State) (a : Addr) (p1 : Int32) (p2 : Int32) (cl : Cell) (f : Nat → Int32) (h0 : Heap) (n0 : Nat) (v : Option Value) (h : Heap) (L : List Loc) : Prop := v = some (.int (own_seq f p1 p2)) ∧ Fr n0 L ∧ h = h0
set_option maxRecDepth 65536 in
set_option maxHeartbeats 40000000 in
theorem rm5 (l : Launch) (Z : State) (a0 : Array Value) (hw : ∀ d ∈ tables_1, d.before a0 Z = true) (ws : List Jvm.Cond) (a : Addr) (p1 : Int32) (p2 : Int32) (cl : Cell) (f : Nat → Int32) (h0 : Heap) (n0 : Nat) (Z0 : n0 ≤ h0.size) (Ar : Arr Z h0 a cl .byte) (Sz : cl.slots.size = 6) (El : ∀ k, k < 6 → cl.slots[k]? = some (.int (f k))) (hs_ : 0 ≤ p1.toInt) (hlt6 : p1.toInt < 6) (he : p2.toInt ≤ 6) :
    MetFree l (⟨"com/example/gatefield/gatefield/model/RecordsNotUtf8PinLaw", "seq", "([BII)I"⟩ : MethodName) (head1 (Jvm.Cond.code (⟨"com/example/gatefield/gatefield/model/RecordsNotUtf8PinLaw", "seq", "([BII)I"⟩ : MethodName) method_3_code 9 (some .int) :: ws) ({ frames := 0, cells := 0, slots := 0, locals := 0 } : Room)) (fun a_ U_ => a_ = #[(.ref a), (.int p1), (.int p2)] ∧ Z.Warmed39 U_.vm ∧ U_.heap = h0) (fun _ _ _ _ _ => True) (fun _ U_ o_ V_ => ∃ v_ L_, o_ = .returned v_ ∧ Q5 Z a p1 p2 cl f h0 n0 v_ V_.heap L_ ∧ FrameEnd U_ o_ V_ L_ ({ frames := 0, cells := 0, slots := 0, locals := 0 } : Room).cells ({ frames := 0, cells := 0, slots := 0, locals := 0 } : Room).slots) := by
  refine metOf (Q := Q5 Z a p1 p2 cl f h0 n0) (plainFor_of_name pn_5) ?_
  intro p_ e_ s_ m_ below meth c_ s₁ X0 hx hby hml hret hlk hZ hown hnm e0
  rw [ef_rm5]
  have N0 := Fr.nil n0
  show Go p_ e_ below _ _ s₁ (mkF m_ 0 #[.val (.ref a), .val (.int p1), .val (.int p2), .unset, .unset, .unset, .unset, .unset, .unset] [])
  refine Go.aloadN X0 hx (hb hby d5_0) rfl rfl ?_
  refine Go.iloadN X0 hx (hb hby d5_1) rfl ?_
  have hi1 := own_inb Sz (j := p1) ⟨hs_, hlt6⟩
  refine Go.baload X0 hx hZ e0 Ar hi1.1 (El _ hi1.2) (hb hby d5_2) ?_
  refine Go.sipush X0 hx (255 : Int32) (hb hby d5_3) rfl ?_
  refine Go.iand X0 hx (hb hby d5_6) ?_
  refine Go.istoreN X0 hx (l' := #[.val (.ref a), .val (.int p1), .val (.int p2), .val (.int ((f p1.toNatClampNeg) &&& (255 : Int32))), .unset, .unset, .unset, .unset, .unset]) (hb hby d5_7) rfl ?_
  refine Go.iloadN X0 hx (hb hby d5_8) rfl ?_
  refine Go.sipush X0 hx (128 : Int32) (hb hby d5_9) rfl ?_
  refine Go.iand X0 hx (hb hby d5_12) ?_
  by_cases hc13_2 : (((f p1.toNatClampNeg) &&& (255 : Int32)) &&& (128 : Int32)) = (0 : Int32)
  · skip
    refine Go.ifNo X0 hx (hb hby d5_13) ((if0 _ _).trans (teq hc13_2).2) ?_
    show Go p_ e_ below _ _ s₁ (mkF m_ 16 #[.val (.ref a), .val (.int p1), .val (.int p2), .val (.int ((f p1.toNatClampNeg) &&& (255 : Int32))), .unset, .unset, .unset, .unset, .unset] [])
    refine Go.iconst X0 hx (1 : Int32) (hb hby d5_16) rfl ?_
    refine Go.retI X0 hx hret hlk (hb hby d5_17) (by decide) (by decide) ?_
    exact ⟨by unfold own_seq; rw [if_pos hc13_2] <;> rfl, N0, e0⟩
  · skip
    refine Go.ifYes X0 hx (pc' := 18) (hb hby d5_13) ((if0 _ _).trans (feq hc13_2).2) (by decide) (by decide) ?_
    show Go p_ e_ below _ _ s₁ (mkF m_ 18 #[.val (.ref a), .val (.int p1), .val (.int p2), .val (.int ((f p1.toNatClampNeg) &&& (255 : Int32))), .unset, .unset, .unset, .unset, .unset] [])
    refine Go.iloadN X0 hx (hb hby d5_18) rfl ?_
    refine Go.sipush X0 hx (224 : Int32) (hb hby d5_19) rfl ?_
    refine Go.iand X0 hx (hb hby d5_22) ?_
    refine Go.sipush X0 hx (192 : Int32) (hb hby d5_23) rfl ?_
    by_cases hc26_3 : (((f p1.toNatClampNeg) &&& (255 : Int32)) &&& (224 : Int32)) = (192 : Int32)
    · skip
      refine Go.icmpNo X0 hx (hb hby d5_26) (teq hc26_3).2 ?_
      show Go p_ e_ below _ _ s₁ (mkF m_ 29 #[.val (.ref a), .val (.int p1), .val (.int p2), .val (.int ((f p1.toNatClampNeg) &&& (255 : Int32))), .unset, .unset, .unset, .unset, .unset] [])
      refine Go.iconst X0 hx (2 : Int32) (hb hby d5_29) rfl ?_
      refine Go.istore X0 hx (l' := #[.val (.ref a), .val (.int p1), .val (.int p2), .val (.int ((f p1.toNatClampNeg) &&& (255 : Int32))), .val (.int (2 : Int32)), .unset, .unset, .unset, .unset]) (hb hby d5_30) rfl ?_
      refine Go.iloadN X0 hx (hb hby d5_32) rfl ?_
      refine Go.bipush X0 hx (31 : Int32) (hb hby d5_33) rfl ?_
      refine Go.iand X0 hx (hb hby d5_35) ?_
      refine Go.istore X0 hx (l' := #[.val (.ref a), .val (.int p1), .val (.int p2), .val (.int ((f p1.toNatClampNeg) &&& (255 : Int32))), .val (.int (2 : Int32)), .val (.int (((f p1.toNatClampNeg) &&& (255 : Int32)) &&& (31 : Int32))), .unset, .unset, .unset]) (hb hby d5_36) rfl ?_
      refine Go.sipush X0 hx (128 : Int32) (hb hby d5_38) rfl ?_
      refine Go.istore X0 hx (l' := #[.val (.ref a), .val (.int p1), .val (.int p2), .val (.int ((f p1.toNatClampNeg) &&& (255 : Int32))), .val (.int (2 : Int32)), .val (.int (((f p1.toNatClampNeg) &&& (255 : Int32)) &&& (31 : Int32))), .val (.int (128 : Int32)), .unset, .unset]) (hb hby d5_41) rfl ?_
      refine Go.goto X0 hx (pc' := 103) (hb hby d5_43) (by decide) (by decide) ?_
      refine Go.iloadN X0 hx (hb hby d5_103) rfl ?_
      refine Go.iload X0 hx (hb hby d5_104) rfl ?_
      refine Go.iadd X0 hx (hb hby d5_106) ?_
      refine Go.iloadN X0 hx (hb hby d5_107) rfl ?_
      show Go p_ e_ below _ _ s₁ (mkF m_ 108 #[.val (.ref a), .val (.int p1), .val (.int p2), .val (.int ((f p1.toNatClampNeg) &&& (255 : Int32))), .val (.int (2 : Int32)), .val (.int (((f p1.toNatClampNeg) &&& (255 : Int32)) &&& (31 : Int32))), .val (.int (128 : Int32)), .unset, .unset] [(.int p2), (.int (p1 + (2 : Int32)))])
      by_cases hc108_4 : p2 < (p1 + (2 : Int32))
      · skip
        refine Go.icmpNo X0 hx (hb hby d5_108) (tlt hc108_4).2.2.2 ?_
        show Go p_ e_ below _ _ s₁ (mkF m_ 111 #[.val (.ref a), .val (.int p1), .val (.int p2), .val (.int ((f p1.toNatClampNeg) &&& (255 : Int32))), .val (.int (2 : Int32)), .val (.int (((f p1.toNatClampNeg) &&& (255 : Int32)) &&& (31 : Int32))), .val (.int (128 : Int32)), .unset, .unset] [])
        refine Go.iconst X0 hx (0 : Int32) (hb hby d5_111) rfl ?_
        refine Go.retI X0 hx hret hlk (hb hby d5_112) (by decide) (by decide) ?_
        exact ⟨by unfold own_seq; rw [if_neg hc13_2, if_pos hc26_3, if_pos hc108_4] <;> rfl, N0, e0⟩
      · skip
        refine Go.icmpYes X0 hx (pc' := 113) (hb hby d5_108) (flt hc108_4).2.2.2 (by decide) (by decide) ?_
        show Go p_ e_ below _ _ s₁ (mkF m_ 113 #[.val (.ref a), .val (.int p1), .val (.int p2), .val (.int ((f p1.toNatClampNeg) &&& (255 : Int32))), .val (.int (2 : Int32)), .val (.int (((f p1.toNatClampNeg) &&& (255 : Int32)) &&& (31 : Int32))), .val (.int (128 : Int32)), .unset, .unset] [])
        refine Go.aloadN X0 hx (hb hby d5_113) rfl rfl ?_
        refine Go.iloadN X0 hx (hb hby d5_114) rfl ?_
        refine Go.iconst X0 hx (1 : Int32) (hb hby d5_115) rfl ?_
        refine Go.iadd X0 hx (hb hby d5_116) ?_
        have hi5 := own_inb Sz (j := (p1 + (1 : Int32))) (own_at _ _ (2 : Int32) (1 : Int32) hs_ hlt6 he hc108_4 (by decide) (by decide) (by decide))
        refine Go.baload X0 hx hZ e0 Ar hi5.1 (El _ hi5.2) (hb hby d5_117) ?_
        refine Go.sipush X0 hx (255 : Int32) (hb hby d5_118) rfl ?_
        refine Go.iand X0 hx (hb hby d5_121) ?_
        refine Go.istore X0 hx (l' := #[.val (.ref a), .val (.int p1), .val (.int p2), .val (.int ((f p1.toNatClampNeg) &&& (255 : Int32))), .val (.int (2 : Int32)), .val (.int (((f p1.toNatClampNeg) &&& (255 : Int32)) &&& (31 : Int32))), .val (.int (128 : Int32)), .val (.int ((f (p1 + (1 : Int32)).toNatClampNeg) &&& (255 : Int32))), .unset]) (hb hby d5_122) rfl ?_
        refine Go.iload X0 hx (hb hby d5_124) rfl ?_
        refine Go.sipush X0 hx (192 : Int32) (hb hby d5_126) rfl ?_
        refine Go.iand X0 hx (hb hby d5_129) ?_
        refine Go.sipush X0 hx (128 : Int32) (hb hby d5_130) rfl ?_
        by_cases hc133_6 : (((f (p1 + (1 : Int32)).toNatClampNeg) &&& (255 : Int32)) &&& (192 : Int32)) = (128 : Int32)
        · skip
          refine Go.icmpYes X0 hx (pc' := 138) (hb hby d5_133) (teq hc133_6).1 (by decide) (by decide) ?_
          show Go p_ e_ below _ _ s₁ (mkF m_ 138 #[.val (.ref a), .val (.int p1), .val (.int p2), .val (.int ((f p1.toNatClampNeg) &&& (255 : Int32))), .val (.int (2 : Int32)), .val (.int (((f p1.toNatClampNeg) &&& (255 : Int32)) &&& (31 : Int32))), .val (.int (128 : Int32)), .val (.int ((f (p1 + (1 : Int32)).toNatClampNeg) &&& (255 : Int32))), .unset] [])
          refine Go.iload X0 hx (hb hby d5_138) rfl ?_
          refine Go.bipush X0 hx (6 : Int32) (hb hby d5_140) rfl ?_
          refine Go.ishl X0 hx (hb hby d5_142) ?_
          refine Go.iload X0 hx (hb hby d5_143) rfl ?_
          refine Go.bipush X0 hx (63 : Int32) (hb hby d5_145) rfl ?_
          refine Go.iand X0 hx (hb hby d5_147) ?_
          refine Go.ior X0 hx (hb hby d5_148) ?_
          refine Go.istore X0 hx (l' := #[.val (.ref a), .val (.int p1), .val (.int p2), .val (.int ((f p1.toNatClampNeg) &&& (255 : Int32))), .val (.int (2 : Int32)), .val (.int (((((f p1.toNatClampNeg) &&& (255 : Int32)) &&& (31 : Int32)) <<< ((6 : Int32) &&& 31)) ||| (((f (p1 + (1 : Int32)).toNatClampNeg) &&& (255 : Int32)) &&& (63 : Int32)))), .val (.int (128 : Int32)), .val (.int ((f (p1 + (1 : Int32)).toNatClampNeg) &&& (255 : Int32))), .unset]) (hb hby d5_149) rfl ?_
          refine Go.iload X0 hx (hb hby d5_151) rfl ?_
          refine Go.iconst X0 hx (3 : Int32) (hb hby d5_153) rfl ?_
          refine Go.icmpYes X0 hx (pc' := 195) (hb hby d5_154) (tlt (by decide)).1 (by decide) (by decide) ?_
          show Go p_ e_ below _ _ s₁ (mkF m_ 195 #[.val (.ref a), .val (.int p1), .val (.int p2), .val (.int ((f p1.toNatClampNeg) &&& (255 : Int32))), .val (.int (2 : Int32)), .val (.int (((((f p1.toNatClampNeg) &&& (255 : Int32)) &&& (31 : Int32)) <<< ((6 : Int32) &&& 31)) ||| (((f (p1 + (1 : Int32)).toNatClampNeg) &&& (255 : Int32)) &&& (63 : Int32)))), .val (.int (128 : Int32)), .val (.int ((f (p1 + (1 : Int32)).toNatClampNeg) &&& (255 : Int32))), .unset] [])
          refine Go.iload X0 hx (hb hby d5_195) rfl ?_
          refine Go.iconst X0 hx (4 : Int32) (hb hby d5_197) rfl ?_
          refine Go.icmpYes X0 hx (pc' := 239) (hb hby d5_198) (feq (by decide)).2 (by decide) (by decide) ?_
          show Go p_ e_ below _ _ s₁ (mkF m_ 239 #[.val (.ref a), .val (.int p1), .val (.int p2), .val (.int ((f p1.toNatClampNeg) &&& (255 : Int32))), .val (.int (2 : Int32)), .val (.int (((((f p1.toNatClampNeg) &&& (255 : Int32)) &&& (31 : Int32)) <<< ((6 : Int32) &&& 31)) ||| (((f (p1 + (1 : Int32)).toNatClampNeg) &&& (255 : Int32)) &&& (63 : Int32)))), .val (.int (128 : Int32)), .val (.int ((f (p1 + (1 : Int32)).toNatClampNeg) &&& (255 : Int32))), .unset] [])
          refine Go.iload X0 hx (hb hby d5_239) rfl ?_
          refine Go.iload X0 hx (hb hby d5_241) rfl ?_
          by_cases hc243_7 : (((((f p1.toNatClampNeg) &&& (255 : Int32)) &&& (31 : Int32)) <<< ((6 : Int32) &&& 31)) ||| (((f (p1 + (1 : Int32)).toNatClampNeg) &&& (255 : Int32)) &&& (63 : Int32))) < (128 : Int32)
          · skip
            refine Go.icmpNo X0 hx (hb hby d5_243) (tlt hc243_7).2.1 ?_
            show Go p_ e_ below _ _ s₁ (mkF m_ 246 #[.val (.ref a), .val (.int p1), .val (.int p2), .val (.int ((f p1.toNatClampNeg) &&& (255 : Int32))), .val (.int (2 : Int32)), .val (.int (((((f p1.toNatClampNeg) &&& (255 : Int32)) &&& (31 : Int32)) <<< ((6 : Int32) &&& 31)) ||| (((f (p1 + (1 : Int32)).toNatClampNeg) &&& (255 : Int32)) &&& (63 : Int32)))), .val (.int (128 : Int32)), .val (.int ((f (p1 + (1 : Int32)).toNatClampNeg) &&& (255 : Int32))), .unset] [])
            refine Go.iconst X0 hx (0 : Int32) (hb hby d5_246) rfl ?_
            refine Go.retI X0 hx hret hlk (hb hby d5_247) (by decide) (by decide) ?_
            exact ⟨by unfold own_seq; rw [if_neg hc13_2, if_pos hc26_3, if_neg hc108_4, if_pos hc133_6, if_pos hc243_7] <;> rfl, N0, e0⟩
          · skip
            refine Go.icmpYes X0 hx (pc' := 248) (hb hby d5_243) (flt hc243_7).2.1 (by decide) (by decide) ?_
            show Go p_ e_ below _ _ s₁ (mkF m_ 248 #[.val (.ref a), .val (.int p1), .val (.int p2), .val (.int ((f p1.toNatClampNeg) &&& (255 : Int32))), .val (.int (2 : Int32)), .val (.int (((((f p1.toNatClampNeg) &&& (255 : Int32)) &&& (31 : Int32)) <<< ((6 : Int32) &&& 31)) ||| (((f (p1 + (1 : Int32)).toNatClampNeg) &&& (255 : Int32)) &&& (63 : Int32)))), .val (.int (128 : Int32)), .val (.int ((f (p1 + (1 : Int32)).toNatClampNeg) &&& (255 : Int32))), .unset] [])
            refine Go.iload X0 hx (hb hby d5_248) rfl ?_
            refine Go.ldcI X0 hx hZ hown (hw _ (List.mem_of_getElem? (i := 21) rfl)) (hb hby d5_250) ?_
            by_cases hc252_8 : (((((f p1.toNatClampNeg) &&& (255 : Int32)) &&& (31 : Int32)) <<< ((6 : Int32) &&& 31)) ||| (((f (p1 + (1 : Int32)).toNatClampNeg) &&& (255 : Int32)) &&& (63 : Int32))) < (55296 : Int32)
            · skip
              refine Go.icmpYes X0 hx (pc' := 264) (hb hby d5_252) (tlt hc252_8).1 (by decide) (by decide) ?_
              show Go p_ e_ below _ _ s₁ (mkF m_ 264 #[.val (.ref a), .val (.int p1), .val (.int p2), .val (.int ((f p1.toNatClampNeg) &&& (255 : Int32))), .val (.int (2 : Int32)), .val (.int (((((f p1.toNatClampNeg) &&& (255 : Int32)) &&& (31 : Int32)) <<< ((6 : Int32) &&& 31)) ||| (((f (p1 + (1 : Int32)).toNatClampNeg) &&& (255 : Int32)) &&& (63 : Int32)))), .val (.int (128 : Int32)), .val (.int ((f (p1 + (1 : Int32)).toNatClampNeg) &&& (255 : Int32))), .unset] [])
              refine Go.iload X0 hx (hb hby d5_264) rfl ?_
              refine Go.ldcI X0 hx hZ hown (hw _ (List.mem_of_getElem? (i := 22) rfl)) (hb hby d5_266) ?_
              by_cases hc268_9 : (1114111 : Int32) < (((((f p1.toNatClampNeg) &&& (255 : Int32)) &&& (31 : Int32)) <<< ((6 : Int32) &&& 31)) ||| (((f (p1 + (1 : Int32)).toNatClampNeg) &&& (255 : Int32)) &&& (63 : Int32)))
              · skip
                refine Go.icmpNo X0 hx (hb hby d5_268) (tlt hc268_9).2.2.2 ?_
                show Go p_ e_ below _ _ s₁ (mkF m_ 271 #[.val (.ref a), .val (.int p1), .val (.int p2), .val (.int ((f p1.toNatClampNeg) &&& (255 : Int32))), .val (.int (2 : Int32)), .val (.int (((((f p1.toNatClampNeg) &&& (255 : Int32)) &&& (31 : Int32)) <<< ((6 : Int32) &&& 31)) ||| (((f (p1 + (1 : Int32)).toNatClampNeg) &&& (255 : Int32)) &&& (63 : Int32)))), .val (.int (128 : Int32)), .val (.int ((f (p1 + (1 : Int32)).toNatClampNeg) &&& (255 : Int32))), .unset] [])
                refine Go.iconst X0 hx (0 : Int32) (hb hby d5_271) rfl ?_
                refine Go.retI X0 hx hret hlk (hb hby d5_272) (by decide) (by decide) ?_
                exact ⟨by unfold own_seq; rw [if_neg hc13_2, if_pos hc26_3, if_neg hc108_4, if_pos hc133_6, if_neg hc243_7, if_pos hc252_8, if_pos hc268_9] <;> rfl, N0, e0⟩
              · skip
                refine Go.icmpYes X0 hx (pc' := 273) (hb hby d5_268) (flt hc268_9).2.2.2 (by decide) (by decide) ?_
                show Go p_ e_ below _ _ s₁ (mkF m_ 273 #[.val (.ref a), .val (.int p1), .val (.int p2), .val (.int ((f p1.toNatClampNeg) &&& (255 : Int32))), .val (.int (2 : Int32)), .val (.int (((((f p1.toNatClampNeg) &&& (255 : Int32)) &&& (31 : Int32)) <<< ((6 : Int32) &&& 31)) ||| (((f (p1 + (1 : Int32)).toNatClampNeg) &&& (255 : Int32)) &&& (63 : Int32)))), .val (.int (128 : Int32)), .val (.int ((f (p1 + (1 : Int32)).toNatClampNeg) &&& (255 : Int32))), .unset] [])
                refine Go.iload X0 hx (hb hby d5_273) rfl ?_
                refine Go.retI X0 hx hret hlk (hb hby d5_275) (by decide) (by decide) ?_
                exact ⟨by unfold own_seq; rw [if_neg hc13_2, if_pos hc26_3, if_neg hc108_4, if_pos hc133_6, if_neg hc243_7, if_pos hc252_8, if_neg hc268_9] <;> rfl, N0, e0⟩
            · skip
              refine Go.icmpNo X0 hx (hb hby d5_252) (flt hc252_8).1 ?_
              show Go p_ e_ below _ _ s₁ (mkF m_ 255 #[.val (.ref a), .val (.int p1), .val (.int p2), .val (.int ((f p1.toNatClampNeg) &&& (255 : Int32))), .val (.int (2 : Int32)), .val (.int (((((f p1.toNatClampNeg) &&& (255 : Int32)) &&& (31 : Int32)) <<< ((6 : Int32) &&& 31)) ||| (((f (p1 + (1 : Int32)).toNatClampNeg) &&& (255 : Int32)) &&& (63 : Int32)))), .val (.int (128 : Int32)), .val (.int ((f (p1 + (1 : Int32)).toNatClampNeg) &&& (255 : Int32))), .unset] [])
              refine Go.iload X0 hx (hb hby d5_255) rfl ?_
              refine Go.ldcI X0 hx hZ hown (hw _ (List.mem_of_getElem? (i := 23) rfl)) (hb hby d5_257) ?_
              by_cases hc259_10 : (57343 : Int32) < (((((f p1.toNatClampNeg) &&& (255 : Int32)) &&& (31 : Int32)) <<< ((6 : Int32) &&& 31)) ||| (((f (p1 + (1 : Int32)).toNatClampNeg) &&& (255 : Int32)) &&& (63 : Int32)))
              · skip
                refine Go.icmpYes X0 hx (pc' := 264) (hb hby d5_259) (tlt hc259_10).2.2.1 (by decide) (by decide) ?_
                show Go p_ e_ below _ _ s₁ (mkF m_ 264 #[.val (.ref a), .val (.int p1), .val (.int p2), .val (.int ((f p1.toNatClampNeg) &&& (255 : Int32))), .val (.int (2 : Int32)), .val (.int (((((f p1.toNatClampNeg) &&& (255 : Int32)) &&& (31 : Int32)) <<< ((6 : Int32) &&& 31)) ||| (((f (p1 + (1 : Int32)).toNatClampNeg) &&& (255 : Int32)) &&& (63 : Int32)))), .val (.int (128 : Int32)), .val (.int ((f (p1 + (1 : Int32)).toNatClampNeg) &&& (255 : Int32))), .unset] [])
                refine Go.iload X0 hx (hb hby d5_264) rfl ?_
                refine Go.ldcI X0 hx hZ hown (hw _ (List.mem_of_getElem? (i := 22) rfl)) (hb hby d5_266) ?_
                by_cases hc268_11 : (1114111 : Int32) < (((((f p1.toNatClampNeg) &&& (255 : Int32)) &&& (31 : Int32)) <<< ((6 : Int32) &&& 31)) ||| (((f (p1 + (1 : Int32)).toNatClampNeg) &&& (255 : Int32)) &&& (63 : Int32)))
                · skip
                  refine Go.icmpNo X0 hx (hb hby d5_268) (tlt hc268_11).2.2.2 ?_
                  show Go p_ e_ below _ _ s₁ (mkF m_ 271 #[.val (.ref a), .val (.int p1), .val (.int p2), .val (.int ((f p1.toNatClampNeg) &&& (255 : Int32))), .val (.int (2 : Int32)), .val (.int (((((f p1.toNatClampNeg) &&& (255 : Int32)) &&& (31 : Int32)) <<< ((6 : Int32) &&& 31)) ||| (((f (p1 + (1 : Int32)).toNatClampNeg) &&& (255 : Int32)) &&& (63 : Int32)))), .val (.int (128 : Int32)), .val (.int ((f (p1 + (1 : Int32)).toNatClampNeg) &&& (255 : Int32))), .unset] [])
                  refine Go.iconst X0 hx (0 : Int32) (hb hby d5_271) rfl ?_
                  refine Go.retI X0 hx hret hlk (hb hby d5_272) (by decide) (by decide) ?_
                  exact ⟨by unfold own_seq; rw [if_neg hc13_2, if_pos hc26_3, if_neg hc108_4, if_pos hc133_6, if_neg hc243_7, if_neg hc252_8, if_pos hc259_10, if_pos hc268_11] <;> rfl, N0, e0⟩
                · skip
                  refine Go.icmpYes X0 hx (pc' := 273) (hb hby d5_268) (flt hc268_11).2.2.2 (by decide) (by decide) ?_
                  show Go p_ e_ below _ _ s₁ (mkF m_ 273 #[.val (.ref a), .val (.int p1), .val (.int p2), .val (.int ((f p1.toNatClampNeg) &&& (255 : Int32))), .val (.int (2 : Int32)), .val (.int (((((f p1.toNatClampNeg) &&& (255 : Int32)) &&& (31 : Int32)) <<< ((6 : Int32) &&& 31)) ||| (((f (p1 + (1 : Int32)).toNatClampNeg) &&& (255 : Int32)) &&& (63 : Int32)))), .val (.int (128 : Int32)), .val (.int ((f (p1 + (1 : Int32)).toNatClampNeg) &&& (255 : Int32))), .unset] [])
                  refine Go.iload X0 hx (hb hby d5_273) rfl ?_
                  refine Go.retI X0 hx hret hlk (hb hby d5_275) (by decide) (by decide) ?_
                  exact ⟨by unfold own_seq; rw [if_neg hc13_2, if_pos hc26_3, if_neg hc108_4, if_pos hc133_6, if_neg hc243_7, if_neg hc252_8, if_pos hc259_10, if_neg hc268_11] <;> rfl, N0, e0⟩
              · skip
                refine Go.icmpNo X0 hx (hb hby d5_259) (flt hc259_10).2.2.1 ?_
                show Go p_ e_ below _ _ s₁ (mkF m_ 262 #[.val (.ref a), .val (.int p1), .val (.int p2), .val (.int ((f p1.toNatClampNeg) &&& (255 : Int32))), .val (.int (2 : Int32)), .val (.int (((((f p1.toNatClampNeg) &&& (255 : Int32)) &&& (31 : Int32)) <<< ((6 : Int32) &&& 31)) ||| (((f (p1 + (1 : Int32)).toNatClampNeg) &&& (255 : Int32)) &&& (63 : Int32)))), .val (.int (128 : Int32)), .val (.int ((f (p1 + (1 : Int32)).toNatClampNeg) &&& (255 : Int32))), .unset] [])
                refine Go.iconst X0 hx (0 : Int32) (hb hby d5_262) rfl ?_
                refine Go.retI X0 hx hret hlk (hb hby d5_263) (by decide) (by decide) ?_
                exact ⟨by unfold own_seq; rw [if_neg hc13_2, if_pos hc26_3, if_neg hc108_4, if_pos hc133_6, if_neg hc243_7, if_neg hc252_8, if_neg hc259_10] <;> rfl, N0, e0⟩
        · skip
          refine Go.icmpNo X0 hx (hb hby d5_133) (feq hc133_6).1 ?_
          show Go p_ e_ below _ _ s₁ (mkF m_ 136 #[.val (.ref a), .val (.int p1), .val (.int p2), .val (.int ((f p1.toNatClampNeg) &&& (255 : Int32))), .val (.int (2 : Int32)), .val (.int (((f p1.toNatClampNeg) &&& (255 : Int32)) &&& (31 : Int32))), .val (.int (128 : Int32)), .val (.int ((f (p1 + (1 : Int32)).toNatClampNeg) &&& (255 : Int32))), .unset] [])
          refine Go.iconst X0 hx (0 : Int32) (hb hby d5_136) rfl ?_
          refine Go.retI X0 hx hret hlk (hb hby d5_137) (by decide) (by decide) ?_
          exact ⟨by unfold own_seq; rw [if_neg hc13_2, if_pos hc26_3, if_neg hc108_4, if_neg hc133_6] <;> rfl, N0, e0⟩
    · skip
      refine Go.icmpYes X0 hx (pc' := 46) (hb hby d5_26) (feq hc26_3).2 (by decide) (by decide) ?_
      show Go p_ e_ below _ _ s₁ (mkF m_ 46 #[.val (.ref a), .val (.int p1), .val (.int p2), .val (.int ((f p1.toNatClampNeg) &&& (255 : Int32))), .unset, .unset, .unset, .unset, .unset] [])
      refine Go.iloadN X0 hx (hb hby d5_46) rfl ?_
      refine Go.sipush X0 hx (240 : Int32) (hb hby d5_47) rfl ?_
      refine Go.iand X0 hx (hb hby d5_50) ?_
      refine Go.sipush X0 hx (224 : Int32) (hb hby d5_51) rfl ?_
      by_cases hc54_12 : (((f p1.toNatClampNeg) &&& (255 : Int32)) &&& (240 : Int32)) = (224 : Int32)
      · skip
        refine Go.icmpNo X0 hx (hb hby d5_54) (teq hc54_12).2 ?_
        show Go p_ e_ below _ _ s₁ (mkF m_ 57 #[.val (.ref a), .val (.int p1), .val (.int p2), .val (.int ((f p1.toNatClampNeg) &&& (255 : Int32))), .unset, .unset, .unset, .unset, .unset] [])
        refine Go.iconst X0 hx (3 : Int32) (hb hby d5_57) rfl ?_
        refine Go.istore X0 hx (l' := #[.val (.ref a), .val (.int p1), .val (.int p2), .val (.int ((f p1.toNatClampNeg) &&& (255 : Int32))), .val (.int (3 : Int32)), .unset, .unset, .unset, .unset]) (hb hby d5_58) rfl ?_
        refine Go.iloadN X0 hx (hb hby d5_60) rfl ?_
        refine Go.bipush X0 hx (15 : Int32) (hb hby d5_61) rfl ?_
        refine Go.iand X0 hx (hb hby d5_63) ?_
        refine Go.istore X0 hx (l' := #[.val (.ref a), .val (.int p1), .val (.int p2), .val (.int ((f p1.toNatClampNeg) &&& (255 : Int32))), .val (.int (3 : Int32)), .val (.int (((f p1.toNatClampNeg) &&& (255 : Int32)) &&& (15 : Int32))), .unset, .unset, .unset]) (hb hby d5_64) rfl ?_
        refine Go.sipush X0 hx (2048 : Int32) (hb hby d5_66) rfl ?_
        refine Go.istore X0 hx (l' := #[.val (.ref a), .val (.int p1), .val (.int p2), .val (.int ((f p1.toNatClampNeg) &&& (255 : Int32))), .val (.int (3 : Int32)), .val (.int (((f p1.toNatClampNeg) &&& (255 : Int32)) &&& (15 : Int32))), .val (.int (2048 : Int32)), .unset, .unset]) (hb hby d5_69) rfl ?_
        refine Go.goto X0 hx (pc' := 103) (hb hby d5_71) (by decide) (by decide) ?_
        refine Go.iloadN X0 hx (hb hby d5_103) rfl ?_
        refine Go.iload X0 hx (hb hby d5_104) rfl ?_
        refine Go.iadd X0 hx (hb hby d5_106) ?_
        refine Go.iloadN X0 hx (hb hby d5_107) rfl ?_
        show Go p_ e_ below _ _ s₁ (mkF m_ 108 #[.val (.ref a), .val (.int p1), .val (.int p2), .val (.int ((f p1.toNatClampNeg) &&& (255 : Int32))), .val (.int (3 : Int32)), .val (.int (((f p1.toNatClampNeg) &&& (255 : Int32)) &&& (15 : Int32))), .val (.int (2048 : Int32)), .unset, .unset] [(.int p2), (.int (p1 + (3 : Int32)))])
        by_cases hc108_13 : p2 < (p1 + (3 : Int32))
        · skip
          refine Go.icmpNo X0 hx (hb hby d5_108) (tlt hc108_13).2.2.2 ?_
          show Go p_ e_ below _ _ s₁ (mkF m_ 111 #[.val (.ref a), .val (.int p1), .val (.int p2), .val (.int ((f p1.toNatClampNeg) &&& (255 : Int32))), .val (.int (3 : Int32)), .val (.int (((f p1.toNatClampNeg) &&& (255 : Int32)) &&& (15 : Int32))), .val (.int (2048 : Int32)), .unset, .unset] [])
          refine Go.iconst X0 hx (0 : Int32) (hb hby d5_111) rfl ?_
          refine Go.retI X0 hx hret hlk (hb hby d5_112) (by decide) (by decide) ?_
          exact ⟨by unfold own_seq; rw [if_neg hc13_2, if_neg hc26_3, if_pos hc54_12, if_pos hc108_13] <;> rfl, N0, e0⟩
        · skip
          refine Go.icmpYes X0 hx (pc' := 113) (hb hby d5_108) (flt hc108_13).2.2.2 (by decide) (by decide) ?_
          show Go p_ e_ below _ _ s₁ (mkF m_ 113 #[.val (.ref a), .val (.int p1), .val (.int p2), .val (.int ((f p1.toNatClampNeg) &&& (255 : Int32))), .val (.int (3 : Int32)), .val (.int (((f p1.toNatClampNeg) &&& (255 : Int32)) &&& (15 : Int32))), .val (.int (2048 : Int32)), .unset, .unset] [])
          refine Go.aloadN X0 hx (hb hby d5_113) rfl rfl ?_
          refine Go.iloadN X0 hx (hb hby d5_114) rfl ?_
          refine Go.iconst X0 hx (1 : Int32) (hb hby d5_115) rfl ?_
          refine Go.iadd X0 hx (hb hby d5_116) ?_
          have hi14 := own_inb Sz (j := (p1 + (1 : Int32))) (own_at _ _ (3 : Int32) (1 : Int32) hs_ hlt6 he hc108_13 (by decide) (by decide) (by decide))
          refine Go.baload X0 hx hZ e0 Ar hi14.1 (El _ hi14.2) (hb hby d5_117) ?_
          refine Go.sipush X0 hx (255 : Int32) (hb hby d5_118) rfl ?_
          refine Go.iand X0 hx (hb hby d5_121) ?_
          refine Go.istore X0 hx (l' := #[.val (.ref a), .val (.int p1), .val (.int p2), .val (.int ((f p1.toNatClampNeg) &&& (255 : Int32))), .val (.int (3 : Int32)), .val (.int (((f p1.toNatClampNeg) &&& (255 : Int32)) &&& (15 : Int32))), .val (.int (2048 : Int32)), .val (.int ((f (p1 + (1 : Int32)).toNatClampNeg) &&& (255 : Int32))), .unset]) (hb hby d5_122) rfl ?_
          refine Go.iload X0 hx (hb hby d5_124) rfl ?_
          refine Go.sipush X0 hx (192 : Int32) (hb hby d5_126) rfl ?_
          refine Go.iand X0 hx (hb hby d5_129) ?_
          refine Go.sipush X0 hx (128 : Int32) (hb hby d5_130) rfl ?_
          by_cases hc133_15 : (((f (p1 + (1 : Int32)).toNatClampNeg) &&& (255 : Int32)) &&& (192 : Int32)) = (128 : Int32)
          · skip
            refine Go.icmpYes X0 hx (pc' := 138) (hb hby d5_133) (teq hc133_15).1 (by decide) (by decide) ?_
            show Go p_ e_ below _ _ s₁ (mkF m_ 138 #[.val (.ref a), .val (.int p1), .val (.int p2), .val (.int ((f p1.toNatClampNeg) &&& (255 : Int32))), .val (.int (3 : Int32)), .val (.int (((f p1.toNatClampNeg) &&& (255 : Int32)) &&& (15 : Int32))), .val (.int (2048 : Int32)), .val (.int ((f (p1 + (1 : Int32)).toNatClampNeg) &&& (255 : Int32))), .unset] [])
            refine Go.iload X0 hx (hb hby d5_138) rfl ?_
            refine Go.bipush X0 hx (6 : Int32) (hb hby d5_140) rfl ?_
            refine Go.ishl X0 hx (hb hby d5_142) ?_
            refine Go.iload X0 hx (hb hby d5_143) rfl ?_
            refine Go.bipush X0 hx (63 : Int32) (hb hby d5_145) rfl ?_
            refine Go.iand X0 hx (hb hby d5_147) ?_
            refine Go.ior X0 hx (hb hby d5_148) ?_
            refine Go.istore X0 hx (l' := #[.val (.ref a), .val (.int p1), .val (.int p2), .val (.int ((f p1.toNatClampNeg) &&& (255 : Int32))), .val (.int (3 : Int32)), .val (.int (((((f p1.toNatClampNeg) &&& (255 : Int32)) &&& (15 : Int32)) <<< ((6 : Int32) &&& 31)) ||| (((f (p1 + (1 : Int32)).toNatClampNeg) &&& (255 : Int32)) &&& (63 : Int32)))), .val (.int (2048 : Int32)), .val (.int ((f (p1 + (1 : Int32)).toNatClampNeg) &&& (255 : Int32))), .unset]) (hb hby d5_149) rfl ?_
            refine Go.iload X0 hx (hb hby d5_151) rfl ?_
            refine Go.iconst X0 hx (3 : Int32) (hb hby d5_153) rfl ?_
            refine Go.icmpNo X0 hx (hb hby d5_154) (flt (by decide)).1 ?_
            show Go p_ e_ below _ _ s₁ (mkF m_ 157 #[.val (.ref a), .val (.int p1), .val (.int p2), .val (.int ((f p1.toNatClampNeg) &&& (255 : Int32))), .val (.int (3 : Int32)), .val (.int (((((f p1.toNatClampNeg) &&& (255 : Int32)) &&& (15 : Int32)) <<< ((6 : Int32) &&& 31)) ||| (((f (p1 + (1 : Int32)).toNatClampNeg) &&& (255 : Int32)) &&& (63 : Int32)))), .val (.int (2048 : Int32)), .val (.int ((f (p1 + (1 : Int32)).toNatClampNeg) &&& (255 : Int32))), .unset] [])
            refine Go.aloadN X0 hx (hb hby d5_157) rfl rfl ?_
            refine Go.iloadN X0 hx (hb hby d5_158) rfl ?_
            refine Go.iconst X0 hx (2 : Int32) (hb hby d5_159) rfl ?_
            refine Go.iadd X0 hx (hb hby d5_160) ?_
            have hi16 := own_inb Sz (j := (p1 + (2 : Int32))) (own_at _ _ (3 : Int32) (2 : Int32) hs_ hlt6 he hc108_13 (by decide) (by decide) (by decide))
            refine Go.baload X0 hx hZ e0 Ar hi16.1 (El _ hi16.2) (hb hby d5_161) ?_
            refine Go.sipush X0 hx (255 : Int32) (hb hby d5_162) rfl ?_
            refine Go.iand X0 hx (hb hby d5_165) ?_
            refine Go.istore X0 hx (l' := #[.val (.ref a), .val (.int p1), .val (.int p2), .val (.int ((f p1.toNatClampNeg) &&& (255 : Int32))), .val (.int (3 : Int32)), .val (.int (((((f p1.toNatClampNeg) &&& (255 : Int32)) &&& (15 : Int32)) <<< ((6 : Int32) &&& 31)) ||| (((f (p1 + (1 : Int32)).toNatClampNeg) &&& (255 : Int32)) &&& (63 : Int32)))), .val (.int (2048 : Int32)), .val (.int ((f (p1 + (1 : Int32)).toNatClampNeg) &&& (255 : Int32))), .val (.int ((f (p1 + (2 : Int32)).toNatClampNeg) &&& (255 : Int32)))]) (hb hby d5_166) rfl ?_
            refine Go.iload X0 hx (hb hby d5_168) rfl ?_
            refine Go.sipush X0 hx (192 : Int32) (hb hby d5_170) rfl ?_
            refine Go.iand X0 hx (hb hby d5_173) ?_
            refine Go.sipush X0 hx (128 : Int32) (hb hby d5_174) rfl ?_
            by_cases hc177_17 : (((f (p1 + (2 : Int32)).toNatClampNeg) &&& (255 : Int32)) &&& (192 : Int32)) = (128 : Int32)
            · skip
              refine Go.icmpYes X0 hx (pc' := 182) (hb hby d5_177) (teq hc177_17).1 (by decide) (by decide) ?_
              show Go p_ e_ below _ _ s₁ (mkF m_ 182 #[.val (.ref a), .val (.int p1), .val (.int p2), .val (.int ((f p1.toNatClampNeg) &&& (255 : Int32))), .val (.int (3 : Int32)), .val (.int (((((f p1.toNatClampNeg) &&& (255 : Int32)) &&& (15 : Int32)) <<< ((6 : Int32) &&& 31)) ||| (((f (p1 + (1 : Int32)).toNatClampNeg) &&& (255 : Int32)) &&& (63 : Int32)))), .val (.int (2048 : Int32)), .val (.int ((f (p1 + (1 : Int32)).toNatClampNeg) &&& (255 : Int32))), .val (.int ((f (p1 + (2 : Int32)).toNatClampNeg) &&& (255 : Int32)))] [])
              refine Go.iload X0 hx (hb hby d5_182) rfl ?_
              refine Go.bipush X0 hx (6 : Int32) (hb hby d5_184) rfl ?_
              refine Go.ishl X0 hx (hb hby d5_186) ?_
              refine Go.iload X0 hx (hb hby d5_187) rfl ?_
              refine Go.bipush X0 hx (63 : Int32) (hb hby d5_189) rfl ?_
              refine Go.iand X0 hx (hb hby d5_191) ?_
              refine Go.ior X0 hx (hb hby d5_192) ?_
              refine Go.istore X0 hx (l' := #[.val (.ref a), .val (.int p1), .val (.int p2), .val (.int ((f p1.toNatClampNeg) &&& (255 : Int32))), .val (.int (3 : Int32)), .val (.int (((((((f p1.toNatClampNeg) &&& (255 : Int32)) &&& (15 : Int32)) <<< ((6 : Int32) &&& 31)) ||| (((f (p1 + (1 : Int32)).toNatClampNeg) &&& (255 : Int32)) &&& (63 : Int32))) <<< ((6 : Int32) &&& 31)) ||| (((f (p1 + (2 : Int32)).toNatClampNeg) &&& (255 : Int32)) &&& (63 : Int32)))), .val (.int (2048 : Int32)), .val (.int ((f (p1 + (1 : Int32)).toNatClampNeg) &&& (255 : Int32))), .val (.int ((f (p1 + (2 : Int32)).toNatClampNeg) &&& (255 : Int32)))]) (hb hby d5_193) rfl ?_
              refine Go.iload X0 hx (hb hby d5_195) rfl ?_
              refine Go.iconst X0 hx (4 : Int32) (hb hby d5_197) rfl ?_
              refine Go.icmpYes X0 hx (pc' := 239) (hb hby d5_198) (feq (by decide)).2 (by decide) (by decide) ?_
              show Go p_ e_ below _ _ s₁ (mkF m_ 239 #[.val (.ref a), .val (.int p1), .val (.int p2), .val (.int ((f p1.toNatClampNeg) &&& (255 : Int32))), .val (.int (3 : Int32)), .val (.int (((((((f p1.toNatClampNeg) &&& (255 : Int32)) &&& (15 : Int32)) <<< ((6 : Int32) &&& 31)) ||| (((f (p1 + (1 : Int32)).toNatClampNeg) &&& (255 : Int32)) &&& (63 : Int32))) <<< ((6 : Int32) &&& 31)) ||| (((f (p1 + (2 : Int32)).toNatClampNeg) &&& (255 : Int32)) &&& (63 : Int32)))), .val (.int (2048 : Int32)), .val (.int ((f (p1 + (1 : Int32)).toNatClampNeg) &&& (255 : Int32))), .val (.int ((f (p1 + (2 : Int32)).toNatClampNeg) &&& (255 : Int32)))] [])
              refine Go.iload X0 hx (hb hby d5_239) rfl ?_
              refine Go.iload X0 hx (hb hby d5_241) rfl ?_
              by_cases hc243_18 : (((((((f p1.toNatClampNeg) &&& (255 : Int32)) &&& (15 : Int32)) <<< ((6 : Int32) &&& 31)) ||| (((f (p1 + (1 : Int32)).toNatClampNeg) &&& (255 : Int32)) &&& (63 : Int32))) <<< ((6 : Int32) &&& 31)) ||| (((f (p1 + (2 : Int32)).toNatClampNeg) &&& (255 : Int32)) &&& (63 : Int32))) < (2048 : Int32)
              · skip
                refine Go.icmpNo X0 hx (hb hby d5_243) (tlt hc243_18).2.1 ?_
                show Go p_ e_ below _ _ s₁ (mkF m_ 246 #[.val (.ref a), .val (.int p1), .val (.int p2), .val (.int ((f p1.toNatClampNeg) &&& (255 : Int32))), .val (.int (3 : Int32)), .val (.int (((((((f p1.toNatClampNeg) &&& (255 : Int32)) &&& (15 : Int32)) <<< ((6 : Int32) &&& 31)) ||| (((f (p1 + (1 : Int32)).toNatClampNeg) &&& (255 : Int32)) &&& (63 : Int32))) <<< ((6 : Int32) &&& 31)) ||| (((f (p1 + (2 : Int32)).toNatClampNeg) &&& (255 : Int32)) &&& (63 : Int32)))), .val (.int (2048 : Int32)), .val (.int ((f (p1 + (1 : Int32)).toNatClampNeg) &&& (255 : Int32))), .val (.int ((f (p1 + (2 : Int32)).toNatClampNeg) &&& (255 : Int32)))] [])
                refine Go.iconst X0 hx (0 : Int32) (hb hby d5_246) rfl ?_
                refine Go.retI X0 hx hret hlk (hb hby d5_247) (by decide) (by decide) ?_
                exact ⟨by unfold own_seq; rw [if_neg hc13_2, if_neg hc26_3, if_pos hc54_12, if_neg hc108_13, if_pos hc133_15, if_pos hc177_17, if_pos hc243_18] <;> rfl, N0, e0⟩
              · skip
                refine Go.icmpYes X0 hx (pc' := 248) (hb hby d5_243) (flt hc243_18).2.1 (by decide) (by decide) ?_
                show Go p_ e_ below _ _ s₁ (mkF m_ 248 #[.val (.ref a), .val (.int p1), .val (.int p2), .val (.int ((f p1.toNatClampNeg) &&& (255 : Int32))), .val (.int (3 : Int32)), .val (.int (((((((f p1.toNatClampNeg) &&& (255 : Int32)) &&& (15 : Int32)) <<< ((6 : Int32) &&& 31)) ||| (((f (p1 + (1 : Int32)).toNatClampNeg) &&& (255 : Int32)) &&& (63 : Int32))) <<< ((6 : Int32) &&& 31)) ||| (((f (p1 + (2 : Int32)).toNatClampNeg) &&& (255 : Int32)) &&& (63 : Int32)))), .val (.int (2048 : Int32)), .val (.int ((f (p1 + (1 : Int32)).toNatClampNeg) &&& (255 : Int32))), .val (.int ((f (p1 + (2 : Int32)).toNatClampNeg) &&& (255 : Int32)))] [])
                refine Go.iload X0 hx (hb hby d5_248) rfl ?_
                refine Go.ldcI X0 hx hZ hown (hw _ (List.mem_of_getElem? (i := 21) rfl)) (hb hby d5_250) ?_
                by_cases hc252_19 : (((((((f p1.toNatClampNeg) &&& (255 : Int32)) &&& (15 : Int32)) <<< ((6 : Int32) &&& 31)) ||| (((f (p1 + (1 : Int32)).toNatClampNeg) &&& (255 : Int32)) &&& (63 : Int32))) <<< ((6 : Int32) &&& 31)) ||| (((f (p1 + (2 : Int32)).toNatClampNeg) &&& (255 : Int32)) &&& (63 : Int32))) < (55296 : Int32)
                · skip
                  refine Go.icmpYes X0 hx (pc' := 264) (hb hby d5_252) (tlt hc252_19).1 (by decide) (by decide) ?_
                  show Go p_ e_ below _ _ s₁ (mkF m_ 264 #[.val (.ref a), .val (.int p1), .val (.int p2), .val (.int ((f p1.toNatClampNeg) &&& (255 : Int32))), .val (.int (3 : Int32)), .val (.int (((((((f p1.toNatClampNeg) &&& (255 : Int32)) &&& (15 : Int32)) <<< ((6 : Int32) &&& 31)) ||| (((f (p1 + (1 : Int32)).toNatClampNeg) &&& (255 : Int32)) &&& (63 : Int32))) <<< ((6 : Int32) &&& 31)) ||| (((f (p1 + (2 : Int32)).toNatClampNeg) &&& (255 : Int32)) &&& (63 : Int32)))), .val (.int (2048 : Int32)), .val (.int ((f (p1 + (1 : Int32)).toNatClampNeg) &&& (255 : Int32))), .val (.int ((f (p1 + (2 : Int32)).toNatClampNeg) &&& (255 : Int32)))] [])
                  refine Go.iload X0 hx (hb hby d5_264) rfl ?_
                  refine Go.ldcI X0 hx hZ hown (hw _ (List.mem_of_getElem? (i := 22) rfl)) (hb hby d5_266) ?_
                  by_cases hc268_20 : (1114111 : Int32) < (((((((f p1.toNatClampNeg) &&& (255 : Int32)) &&& (15 : Int32)) <<< ((6 : Int32) &&& 31)) ||| (((f (p1 + (1 : Int32)).toNatClampNeg) &&& (255 : Int32)) &&& (63 : Int32))) <<< ((6 : Int32) &&& 31)) ||| (((f (p1 + (2 : Int32)).toNatClampNeg) &&& (255 : Int32)) &&& (63 : Int32)))
                  · skip
                    refine Go.icmpNo X0 hx (hb hby d5_268) (tlt hc268_20).2.2.2 ?_
                    show Go p_ e_ below _ _ s₁ (mkF m_ 271 #[.val (.ref a), .val (.int p1), .val (.int p2), .val (.int ((f p1.toNatClampNeg) &&& (255 : Int32))), .val (.int (3 : Int32)), .val (.int (((((((f p1.toNatClampNeg) &&& (255 : Int32)) &&& (15 : Int32)) <<< ((6 : Int32) &&& 31)) ||| (((f (p1 + (1 : Int32)).toNatClampNeg) &&& (255 : Int32)) &&& (63 : Int32))) <<< ((6 : Int32) &&& 31)) ||| (((f (p1 + (2 : Int32)).toNatClampNeg) &&& (255 : Int32)) &&& (63 : Int32)))), .val (.int (2048 : Int32)), .val (.int ((f (p1 + (1 : Int32)).toNatClampNeg) &&& (255 : Int32))), .val (.int ((f (p1 + (2 : Int32)).toNatClampNeg) &&& (255 : Int32)))] [])
                    refine Go.iconst X0 hx (0 : Int32) (hb hby d5_271) rfl ?_
                    refine Go.retI X0 hx hret hlk (hb hby d5_272) (by decide) (by decide) ?_
                    exact ⟨by unfold own_seq; rw [if_neg hc13_2, if_neg hc26_3, if_pos hc54_12, if_neg hc108_13, if_pos hc133_15, if_pos hc177_17, if_neg hc243_18, if_pos hc252_19, if_pos hc268_20] <;> rfl, N0, e0⟩
                  · skip
                    refine Go.icmpYes X0 hx (pc' := 273) (hb hby d5_268) (flt hc268_20).2.2.2 (by decide) (by decide) ?_
                    show Go p_ e_ below _ _ s₁ (mkF m_ 273 #[.val (.ref a), .val (.int p1), .val (.int p2), .val (.int ((f p1.toNatClampNeg) &&& (255 : Int32))), .val (.int (3 : Int32)), .val (.int (((((((f p1.toNatClampNeg) &&& (255 : Int32)) &&& (15 : Int32)) <<< ((6 : Int32) &&& 31)) ||| (((f (p1 + (1 : Int32)).toNatClampNeg) &&& (255 : Int32)) &&& (63 : Int32))) <<< ((6 : Int32) &&& 31)) ||| (((f (p1 + (2 : Int32)).toNatClampNeg) &&& (255 : Int32)) &&& (63 : Int32)))), .val (.int (2048 : Int32)), .val (.int ((f (p1 + (1 : Int32)).toNatClampNeg) &&& (255 : Int32))), .val (.int ((f (p1 + (2 : Int32)).toNatClampNeg) &&& (255 : Int32)))] [])
                    refine Go.iload X0 hx (hb hby d5_273) rfl ?_
                    refine Go.retI X0 hx hret hlk (hb hby d5_275) (by decide) (by decide) ?_
                    exact ⟨by unfold own_seq; rw [if_neg hc13_2, if_neg hc26_3, if_pos hc54_12, if_neg hc108_13, if_pos hc133_15, if_pos hc177_17, if_neg hc243_18, if_pos hc252_19, if_neg hc268_20] <;> rfl, N0, e0⟩
                · skip
                  refine Go.icmpNo X0 hx (hb hby d5_252) (flt hc252_19).1 ?_
                  show Go p_ e_ below _ _ s₁ (mkF m_ 255 #[.val (.ref a), .val (.int p1), .val (.int p2), .val (.int ((f p1.toNatClampNeg) &&& (255 : Int32))), .val (.int (3 : Int32)), .val (.int (((((((f p1.toNatClampNeg) &&& (255 : Int32)) &&& (15 : Int32)) <<< ((6 : Int32) &&& 31)) ||| (((f (p1 + (1 : Int32)).toNatClampNeg) &&& (255 : Int32)) &&& (63 : Int32))) <<< ((6 : Int32) &&& 31)) ||| (((f (p1 + (2 : Int32)).toNatClampNeg) &&& (255 : Int32)) &&& (63 : Int32)))), .val (.int (2048 : Int32)), .val (.int ((f (p1 + (1 : Int32)).toNatClampNeg) &&& (255 : Int32))), .val (.int ((f (p1 + (2 : Int32)).toNatClampNeg) &&& (255 : Int32)))] [])
                  refine Go.iload X0 hx (hb hby d5_255) rfl ?_
                  refine Go.ldcI X0 hx hZ hown (hw _ (List.mem_of_getElem? (i := 23) rfl)) (hb hby d5_257) ?_
                  by_cases hc259_21 : (57343 : Int32) < (((((((f p1.toNatClampNeg) &&& (255 : Int32)) &&& (15 : Int32)) <<< ((6 : Int32) &&& 31)) ||| (((f (p1 + (1 : Int32)).toNatClampNeg) &&& (255 : Int32)) &&& (63 : Int32))) <<< ((6 : Int32) &&& 31)) ||| (((f (p1 + (2 : Int32)).toNatClampNeg) &&& (255 : Int32)) &&& (63 : Int32)))
                  · skip
                    refine Go.icmpYes X0 hx (pc' := 264) (hb hby d5_259) (tlt hc259_21).2.2.1 (by decide) (by decide) ?_
                    show Go p_ e_ below _ _ s₁ (mkF m_ 264 #[.val (.ref a), .val (.int p1), .val (.int p2), .val (.int ((f p1.toNatClampNeg) &&& (255 : Int32))), .val (.int (3 : Int32)), .val (.int (((((((f p1.toNatClampNeg) &&& (255 : Int32)) &&& (15 : Int32)) <<< ((6 : Int32) &&& 31)) ||| (((f (p1 + (1 : Int32)).toNatClampNeg) &&& (255 : Int32)) &&& (63 : Int32))) <<< ((6 : Int32) &&& 31)) ||| (((f (p1 + (2 : Int32)).toNatClampNeg) &&& (255 : Int32)) &&& (63 : Int32)))), .val (.int (2048 : Int32)), .val (.int ((f (p1 + (1 : Int32)).toNatClampNeg) &&& (255 : Int32))), .val (.int ((f (p1 + (2 : Int32)).toNatClampNeg) &&& (255 : Int32)))] [])
                    refine Go.iload X0 hx (hb hby d5_264) rfl ?_
                    refine Go.ldcI X0 hx hZ hown (hw _ (List.mem_of_getElem? (i := 22) rfl)) (hb hby d5_266) ?_
                    by_cases hc268_22 : (1114111 : Int32) < (((((((f p1.toNatClampNeg) &&& (255 : Int32)) &&& (15 : Int32)) <<< ((6 : Int32) &&& 31)) ||| (((f (p1 + (1 : Int32)).toNatClampNeg) &&& (255 : Int32)) &&& (63 : Int32))) <<< ((6 : Int32) &&& 31)) ||| (((f (p1 + (2 : Int32)).toNatClampNeg) &&& (255 : Int32)) &&& (63 : Int32)))
                    · skip
                      refine Go.icmpNo X0 hx (hb hby d5_268) (tlt hc268_22).2.2.2 ?_
                      show Go p_ e_ below _ _ s₁ (mkF m_ 271 #[.val (.ref a), .val (.int p1), .val (.int p2), .val (.int ((f p1.toNatClampNeg) &&& (255 : Int32))), .val (.int (3 : Int32)), .val (.int (((((((f p1.toNatClampNeg) &&& (255 : Int32)) &&& (15 : Int32)) <<< ((6 : Int32) &&& 31)) ||| (((f (p1 + (1 : Int32)).toNatClampNeg) &&& (255 : Int32)) &&& (63 : Int32))) <<< ((6 : Int32) &&& 31)) ||| (((f (p1 + (2 : Int32)).toNatClampNeg) &&& (255 : Int32)) &&& (63 : Int32)))), .val (.int (2048 : Int32)), .val (.int ((f (p1 + (1 : Int32)).toNatClampNeg) &&& (255 : Int32))), .val (.int ((f (p1 + (2 : Int32)).toNatClampNeg) &&& (255 : Int32)))] [])
                      refine Go.iconst X0 hx (0 : Int32) (hb hby d5_271) rfl ?_
                      refine Go.retI X0 hx hret hlk (hb hby d5_272) (by decide) (by decide) ?_
                      exact ⟨by unfold own_seq; rw [if_neg hc13_2, if_neg hc26_3, if_pos hc54_12, if_neg hc108_13, if_pos hc133_15, if_pos hc177_17, if_neg hc243_18, if_neg hc252_19, if_pos hc259_21, if_pos hc268_22] <;> rfl, N0, e0⟩
                    · skip
                      refine Go.icmpYes X0 hx (pc' := 273) (hb hby d5_268) (flt hc268_22).2.2.2 (by decide) (by decide) ?_
                      show Go p_ e_ below _ _ s₁ (mkF m_ 273 #[.val (.ref a), .val (.int p1), .val (.int p2), .val (.int ((f p1.toNatClampNeg) &&& (255 : Int32))), .val (.int (3 : Int32)), .val (.int (((((((f p1.toNatClampNeg) &&& (255 : Int32)) &&& (15 : Int32)) <<< ((6 : Int32) &&& 31)) ||| (((f (p1 + (1 : Int32)).toNatClampNeg) &&& (255 : Int32)) &&& (63 : Int32))) <<< ((6 : Int32) &&& 31)) ||| (((f (p1 + (2 : Int32)).toNatClampNeg) &&& (255 : Int32)) &&& (63 : Int32)))), .val (.int (2048 : Int32)), .val (.int ((f (p1 + (1 : Int32)).toNatClampNeg) &&& (255 : Int32))), .val (.int ((f (p1 + (2 : Int32)).toNatClampNeg) &&& (255 : Int32)))] [])
                      refine Go.iload X0 hx (hb hby d5_273) rfl ?_
                      refine Go.retI X0 hx hret hlk (hb hby d5_275) (by decide) (by decide) ?_
                      exact ⟨by unfold own_seq; rw [if_neg hc13_2, if_neg hc26_3, if_pos hc54_12, if_neg hc108_13, if_pos hc133_15, if_pos hc177_17, if_neg hc243_18, if_neg hc252_19, if_pos hc259_21, if_neg hc268_22] <;> rfl, N0, e0⟩
                  · skip
                    refine Go.icmpNo X0 hx (hb hby d5_259) (flt hc259_21).2.2.1 ?_
                    show Go p_ e_ below _ _ s₁ (mkF m_ 262 #[.val (.ref a), .val (.int p1), .val (.int p2), .val (.int ((f p1.toNatClampNeg) &&& (255 : Int32))), .val (.int (3 : Int32)), .val (.int (((((((f p1.toNatClampNeg) &&& (255 : Int32)) &&& (15 : Int32)) <<< ((6 : Int32) &&& 31)) ||| (((f (p1 + (1 : Int32)).toNatClampNeg) &&& (255 : Int32)) &&& (63 : Int32))) <<< ((6 : Int32) &&& 31)) ||| (((f (p1 + (2 : Int32)).toNatClampNeg) &&& (255 : Int32)) &&& (63 : Int32)))), .val (.int (2048 : Int32)), .val (.int ((f (p1 + (1 : Int32)).toNatClampNeg) &&& (255 : Int32))), .val (.int ((f (p1 + (2 : Int32)).toNatClampNeg) &&& (255 : Int32)))] [])
                    refine Go.iconst X0 hx (0 : Int32) (hb hby d5_262) rfl ?_
                    refine Go.retI X0 hx hret hlk (hb hby d5_263) (by decide) (by decide) ?_
                    exact ⟨by unfold own_seq; rw [if_neg hc13_2, if_neg hc26_3, if_pos hc54_12, if_neg hc108_13, if_pos hc133_15, if_pos hc177_17, if_neg hc243_18, if_neg hc252_19, if_neg hc259_21] <;> rfl, N0, e0⟩
            · skip
              refine Go.icmpNo X0 hx (hb hby d5_177) (feq hc177_17).1 ?_
              show Go p_ e_ below _ _ s₁ (mkF m_ 180 #[.val (.ref a), .val (.int p1), .val (.int p2), .val (.int ((f p1.toNatClampNeg) &&& (255 : Int32))), .val (.int (3 : Int32)), .val (.int (((((f p1.toNatClampNeg) &&& (255 : Int32)) &&& (15 : Int32)) <<< ((6 : Int32) &&& 31)) ||| (((f (p1 + (1 : Int32)).toNatClampNeg) &&& (255 : Int32)) &&& (63 : Int32)))), .val (.int (2048 : Int32)), .val (.int ((f (p1 + (1 : Int32)).toNatClampNeg) &&& (255 : Int32))), .val (.int ((f (p1 + (2 : Int32)).toNatClampNeg) &&& (255 : Int32)))] [])
              refine Go.iconst X0 hx (0 : Int32) (hb hby d5_180) rfl ?_
              refine Go.retI X0 hx hret hlk (hb hby d5_181) (by decide) (by decide) ?_
              exact ⟨by unfold own_seq; rw [if_neg hc13_2, if_neg hc26_3, if_pos hc54_12, if_neg hc108_13, if_pos hc133_15, if_neg hc177_17] <;> rfl, N0, e0⟩
          · skip
            refine Go.icmpNo X0 hx (hb hby d5_133) (feq hc133_15).1 ?_
            show Go p_ e_ below _ _ s₁ (mkF m_ 136 #[.val (.ref a), .val (.int p1), .val (.int p2), .val (.int ((f p1.toNatClampNeg) &&& (255 : Int32))), .val (.int (3 : Int32)), .val (.int (((f p1.toNatClampNeg) &&& (255 : Int32)) &&& (15 : Int32))), .val (.int (2048 : Int32)), .val (.int ((f (p1 + (1 : Int32)).toNatClampNeg) &&& (255 : Int32))), .unset] [])
            refine Go.iconst X0 hx (0 : Int32) (hb hby d5_136) rfl ?_
            refine Go.retI X0 hx hret hlk (hb hby d5_137) (by decide) (by decide) ?_
            exact ⟨by unfold own_seq; rw [if_neg hc13_2, if_neg hc26_3, if_pos hc54_12, if_neg hc108_13, if_neg hc133_15] <;> rfl, N0, e0⟩
      · skip
        refine Go.icmpYes X0 hx (pc' := 74) (hb hby d5_54) (feq hc54_12).2 (by decide) (by decide) ?_
        show Go p_ e_ below _ _ s₁ (mkF m_ 74 #[.val (.ref a), .val (.int p1), .val (.int p2), .val (.int ((f p1.toNatClampNeg) &&& (255 : Int32))), .unset, .unset, .unset, .unset, .unset] [])
        refine Go.iloadN X0 hx (hb hby d5_74) rfl ?_
        refine Go.sipush X0 hx (248 : Int32) (hb hby d5_75) rfl ?_
        refine Go.iand X0 hx (hb hby d5_78) ?_
        refine Go.sipush X0 hx (240 : Int32) (hb hby d5_79) rfl ?_
        by_cases hc82_23 : (((f p1.toNatClampNeg) &&& (255 : Int32)) &&& (248 : Int32)) = (240 : Int32)
        · skip
          refine Go.icmpNo X0 hx (hb hby d5_82) (teq hc82_23).2 ?_
          show Go p_ e_ below _ _ s₁ (mkF m_ 85 #[.val (.ref a), .val (.int p1), .val (.int p2), .val (.int ((f p1.toNatClampNeg) &&& (255 : Int32))), .unset, .unset, .unset, .unset, .unset] [])
          refine Go.iconst X0 hx (4 : Int32) (hb hby d5_85) rfl ?_
          refine Go.istore X0 hx (l' := #[.val (.ref a), .val (.int p1), .val (.int p2), .val (.int ((f p1.toNatClampNeg) &&& (255 : Int32))), .val (.int (4 : Int32)), .unset, .unset, .unset, .unset]) (hb hby d5_86) rfl ?_
          refine Go.iloadN X0 hx (hb hby d5_88) rfl ?_
          refine Go.bipush X0 hx (7 : Int32) (hb hby d5_89) rfl ?_
          refine Go.iand X0 hx (hb hby d5_91) ?_
          refine Go.istore X0 hx (l' := #[.val (.ref a), .val (.int p1), .val (.int p2), .val (.int ((f p1.toNatClampNeg) &&& (255 : Int32))), .val (.int (4 : Int32)), .val (.int (((f p1.toNatClampNeg) &&& (255 : Int32)) &&& (7 : Int32))), .unset, .unset, .unset]) (hb hby d5_92) rfl ?_
          refine Go.ldcI X0 hx hZ hown (hw _ (List.mem_of_getElem? (i := 20) rfl)) (hb hby d5_94) ?_
          refine Go.istore X0 hx (l' := #[.val (.ref a), .val (.int p1), .val (.int p2), .val (.int ((f p1.toNatClampNeg) &&& (255 : Int32))), .val (.int (4 : Int32)), .val (.int (((f p1.toNatClampNeg) &&& (255 : Int32)) &&& (7 : Int32))), .val (.int (65536 : Int32)), .unset, .unset]) (hb hby d5_96) rfl ?_
          refine Go.goto X0 hx (pc' := 103) (hb hby d5_98) (by decide) (by decide) ?_
          refine Go.iloadN X0 hx (hb hby d5_103) rfl ?_
          refine Go.iload X0 hx (hb hby d5_104) rfl ?_
          refine Go.iadd X0 hx (hb hby d5_106) ?_
          refine Go.iloadN X0 hx (hb hby d5_107) rfl ?_
          show Go p_ e_ below _ _ s₁ (mkF m_ 108 #[.val (.ref a), .val (.int p1), .val (.int p2), .val (.int ((f p1.toNatClampNeg) &&& (255 : Int32))), .val (.int (4 : Int32)), .val (.int (((f p1.toNatClampNeg) &&& (255 : Int32)) &&& (7 : Int32))), .val (.int (65536 : Int32)), .unset, .unset] [(.int p2), (.int (p1 + (4 : Int32)))])
          by_cases hc108_24 : p2 < (p1 + (4 : Int32))
          · skip
            refine Go.icmpNo X0 hx (hb hby d5_108) (tlt hc108_24).2.2.2 ?_
            show Go p_ e_ below _ _ s₁ (mkF m_ 111 #[.val (.ref a), .val (.int p1), .val (.int p2), .val (.int ((f p1.toNatClampNeg) &&& (255 : Int32))), .val (.int (4 : Int32)), .val (.int (((f p1.toNatClampNeg) &&& (255 : Int32)) &&& (7 : Int32))), .val (.int (65536 : Int32)), .unset, .unset] [])
            refine Go.iconst X0 hx (0 : Int32) (hb hby d5_111) rfl ?_
            refine Go.retI X0 hx hret hlk (hb hby d5_112) (by decide) (by decide) ?_
            exact ⟨by unfold own_seq; rw [if_neg hc13_2, if_neg hc26_3, if_neg hc54_12, if_pos hc82_23, if_pos hc108_24] <;> rfl, N0, e0⟩
          · skip
            refine Go.icmpYes X0 hx (pc' := 113) (hb hby d5_108) (flt hc108_24).2.2.2 (by decide) (by decide) ?_
            show Go p_ e_ below _ _ s₁ (mkF m_ 113 #[.val (.ref a), .val (.int p1), .val (.int p2), .val (.int ((f p1.toNatClampNeg) &&& (255 : Int32))), .val (.int (4 : Int32)), .val (.int (((f p1.toNatClampNeg) &&& (255 : Int32)) &&& (7 : Int32))), .val (.int (65536 : Int32)), .unset, .unset] [])
            refine Go.aloadN X0 hx (hb hby d5_113) rfl rfl ?_
            refine Go.iloadN X0 hx (hb hby d5_114) rfl ?_
            refine Go.iconst X0 hx (1 : Int32) (hb hby d5_115) rfl ?_
            refine Go.iadd X0 hx (hb hby d5_116) ?_
            have hi25 := own_inb Sz (j := (p1 + (1 : Int32))) (own_at _ _ (4 : Int32) (1 : Int32) hs_ hlt6 he hc108_24 (by decide) (by decide) (by decide))
            refine Go.baload X0 hx hZ e0 Ar hi25.1 (El _ hi25.2) (hb hby d5_117) ?_
            refine Go.sipush X0 hx (255 : Int32) (hb hby d5_118) rfl ?_
            refine Go.iand X0 hx (hb hby d5_121) ?_
            refine Go.istore X0 hx (l' := #[.val (.ref a), .val (.int p1), .val (.int p2), .val (.int ((f p1.toNatClampNeg) &&& (255 : Int32))), .val (.int (4 : Int32)), .val (.int (((f p1.toNatClampNeg) &&& (255 : Int32)) &&& (7 : Int32))), .val (.int (65536 : Int32)), .val (.int ((f (p1 + (1 : Int32)).toNatClampNeg) &&& (255 : Int32))), .unset]) (hb hby d5_122) rfl ?_
            refine Go.iload X0 hx (hb hby d5_124) rfl ?_
            refine Go.sipush X0 hx (192 : Int32) (hb hby d5_126) rfl ?_
            refine Go.iand X0 hx (hb hby d5_129) ?_
            refine Go.sipush X0 hx (128 : Int32) (hb hby d5_130) rfl ?_
            by_cases hc133_26 : (((f (p1 + (1 : Int32)).toNatClampNeg) &&& (255 : Int32)) &&& (192 : Int32)) = (128 : Int32)
            · skip
              refine Go.icmpYes X0 hx (pc' := 138) (hb hby d5_133) (teq hc133_26).1 (by decide) (by decide) ?_
              show Go p_ e_ below _ _ s₁ (mkF m_ 138 #[.val (.ref a), .val (.int p1), .val (.int p2), .val (.int ((f p1.toNatClampNeg) &&& (255 : Int32))), .val (.int (4 : Int32)), .val (.int (((f p1.toNatClampNeg) &&& (255 : Int32)) &&& (7 : Int32))), .val (.int (65536 : Int32)), .val (.int ((f (p1 + (1 : Int32)).toNatClampNeg) &&& (255 : Int32))), .unset] [])
              refine Go.iload X0 hx (hb hby d5_138) rfl ?_
              refine Go.bipush X0 hx (6 : Int32) (hb hby d5_140) rfl ?_
              refine Go.ishl X0 hx (hb hby d5_142) ?_
              refine Go.iload X0 hx (hb hby d5_143) rfl ?_
              refine Go.bipush X0 hx (63 : Int32) (hb hby d5_145) rfl ?_
              refine Go.iand X0 hx (hb hby d5_147) ?_
              refine Go.ior X0 hx (hb hby d5_148) ?_
              refine Go.istore X0 hx (l' := #[.val (.ref a), .val (.int p1), .val (.int p2), .val (.int ((f p1.toNatClampNeg) &&& (255 : Int32))), .val (.int (4 : Int32)), .val (.int (((((f p1.toNatClampNeg) &&& (255 : Int32)) &&& (7 : Int32)) <<< ((6 : Int32) &&& 31)) ||| (((f (p1 + (1 : Int32)).toNatClampNeg) &&& (255 : Int32)) &&& (63 : Int32)))), .val (.int (65536 : Int32)), .val (.int ((f (p1 + (1 : Int32)).toNatClampNeg) &&& (255 : Int32))), .unset]) (hb hby d5_149) rfl ?_
              refine Go.iload X0 hx (hb hby d5_151) rfl ?_
              refine Go.iconst X0 hx (3 : Int32) (hb hby d5_153) rfl ?_
              refine Go.icmpNo X0 hx (hb hby d5_154) (flt (by decide)).1 ?_
              show Go p_ e_ below _ _ s₁ (mkF m_ 157 #[.val (.ref a), .val (.int p1), .val (.int p2), .val (.int ((f p1.toNatClampNeg) &&& (255 : Int32))), .val (.int (4 : Int32)), .val (.int (((((f p1.toNatClampNeg) &&& (255 : Int32)) &&& (7 : Int32)) <<< ((6 : Int32) &&& 31)) ||| (((f (p1 + (1 : Int32)).toNatClampNeg) &&& (255 : Int32)) &&& (63 : Int32)))), .val (.int (65536 : Int32)), .val (.int ((f (p1 + (1 : Int32)).toNatClampNeg) &&& (255 : Int32))), .unset] [])
              refine Go.aloadN X0 hx (hb hby d5_157) rfl rfl ?_
              refine Go.iloadN X0 hx (hb hby d5_158) rfl ?_
              refine Go.iconst X0 hx (2 : Int32) (hb hby d5_159) rfl ?_
              refine Go.iadd X0 hx (hb hby d5_160) ?_
              have hi27 := own_inb Sz (j := (p1 + (2 : Int32))) (own_at _ _ (4 : Int32) (2 : Int32) hs_ hlt6 he hc108_24 (by decide) (by decide) (by decide))
              refine Go.baload X0 hx hZ e0 Ar hi27.1 (El _ hi27.2) (hb hby d5_161) ?_
              refine Go.sipush X0 hx (255 : Int32) (hb hby d5_162) rfl ?_
              refine Go.iand X0 hx (hb hby d5_165) ?_
              refine Go.istore X0 hx (l' := #[.val (.ref a), .val (.int p1), .val (.int p2), .val (.int ((f p1.toNatClampNeg) &&& (255 : Int32))), .val (.int (4 : Int32)), .val (.int (((((f p1.toNatClampNeg) &&& (255 : Int32)) &&& (7 : Int32)) <<< ((6 : Int32) &&& 31)) ||| (((f (p1 + (1 : Int32)).toNatClampNeg) &&& (255 : Int32)) &&& (63 : Int32)))), .val (.int (65536 : Int32)), .val (.int ((f (p1 + (1 : Int32)).toNatClampNeg) &&& (255 : Int32))), .val (.int ((f (p1 + (2 : Int32)).toNatClampNeg) &&& (255 : Int32)))]) (hb hby d5_166) rfl ?_
              refine Go.iload X0 hx (hb hby d5_168) rfl ?_
              refine Go.sipush X0 hx (192 : Int32) (hb hby d5_170) rfl ?_
              refine Go.iand X0 hx (hb hby d5_173) ?_
              refine Go.sipush X0 hx (128 : Int32) (hb hby d5_174) rfl ?_
              by_cases hc177_28 : (((f (p1 + (2 : Int32)).toNatClampNeg) &&& (255 : Int32)) &&& (192 : Int32)) = (128 : Int32)
              · skip
                refine Go.icmpYes X0 hx (pc' := 182) (hb hby d5_177) (teq hc177_28).1 (by decide) (by decide) ?_
                show Go p_ e_ below _ _ s₁ (mkF m_ 182 #[.val (.ref a), .val (.int p1), .val (.int p2), .val (.int ((f p1.toNatClampNeg) &&& (255 : Int32))), .val (.int (4 : Int32)), .val (.int (((((f p1.toNatClampNeg) &&& (255 : Int32)) &&& (7 : Int32)) <<< ((6 : Int32) &&& 31)) ||| (((f (p1 + (1 : Int32)).toNatClampNeg) &&& (255 : Int32)) &&& (63 : Int32)))), .val (.int (65536 : Int32)), .val (.int ((f (p1 + (1 : Int32)).toNatClampNeg) &&& (255 : Int32))), .val (.int ((f (p1 + (2 : Int32)).toNatClampNeg) &&& (255 : Int32)))] [])
                refine Go.iload X0 hx (hb hby d5_182) rfl ?_
                refine Go.bipush X0 hx (6 : Int32) (hb hby d5_184) rfl ?_
                refine Go.ishl X0 hx (hb hby d5_186) ?_
                refine Go.iload X0 hx (hb hby d5_187) rfl ?_
                refine Go.bipush X0 hx (63 : Int32) (hb hby d5_189) rfl ?_
                refine Go.iand X0 hx (hb hby d5_191) ?_
                refine Go.ior X0 hx (hb hby d5_192) ?_
                refine Go.istore X0 hx (l' := #[.val (.ref a), .val (.int p1), .val (.int p2), .val (.int ((f p1.toNatClampNeg) &&& (255 : Int32))), .val (.int (4 : Int32)), .val (.int (((((((f p1.toNatClampNeg) &&& (255 : Int32)) &&& (7 : Int32)) <<< ((6 : Int32) &&& 31)) ||| (((f (p1 + (1 : Int32)).toNatClampNeg) &&& (255 : Int32)) &&& (63 : Int32))) <<< ((6 : Int32) &&& 31)) ||| (((f (p1 + (2 : Int32)).toNatClampNeg) &&& (255 : Int32)) &&& (63 : Int32)))), .val (.int (65536 : Int32)), .val (.int ((f (p1 + (1 : Int32)).toNatClampNeg) &&& (255 : Int32))), .val (.int ((f (p1 + (2 : Int32)).toNatClampNeg) &&& (255 : Int32)))]) (hb hby d5_193) rfl ?_
                refine Go.iload X0 hx (hb hby d5_195) rfl ?_
                refine Go.iconst X0 hx (4 : Int32) (hb hby d5_197) rfl ?_
                refine Go.icmpNo X0 hx (hb hby d5_198) (teq (by decide)).2 ?_
                show Go p_ e_ below _ _ s₁ (mkF m_ 201 #[.val (.ref a), .val (.int p1), .val (.int p2), .val (.int ((f p1.toNatClampNeg) &&& (255 : Int32))), .val (.int (4 : Int32)), .val (.int (((((((f p1.toNatClampNeg) &&& (255 : Int32)) &&& (7 : Int32)) <<< ((6 : Int32) &&& 31)) ||| (((f (p1 + (1 : Int32)).toNatClampNeg) &&& (255 : Int32)) &&& (63 : Int32))) <<< ((6 : Int32) &&& 31)) ||| (((f (p1 + (2 : Int32)).toNatClampNeg) &&& (255 : Int32)) &&& (63 : Int32)))), .val (.int (65536 : Int32)), .val (.int ((f (p1 + (1 : Int32)).toNatClampNeg) &&& (255 : Int32))), .val (.int ((f (p1 + (2 : Int32)).toNatClampNeg) &&& (255 : Int32)))] [])
                refine Go.aloadN X0 hx (hb hby d5_201) rfl rfl ?_
                refine Go.iloadN X0 hx (hb hby d5_202) rfl ?_
                refine Go.iconst X0 hx (3 : Int32) (hb hby d5_203) rfl ?_
                refine Go.iadd X0 hx (hb hby d5_204) ?_
                have hi29 := own_inb Sz (j := (p1 + (3 : Int32))) (own_at _ _ (4 : Int32) (3 : Int32) hs_ hlt6 he hc108_24 (by decide) (by decide) (by decide))
                refine Go.baload X0 hx hZ e0 Ar hi29.1 (El _ hi29.2) (hb hby d5_205) ?_
                refine Go.sipush X0 hx (255 : Int32) (hb hby d5_206) rfl ?_
                refine Go.iand X0 hx (hb hby d5_209) ?_
                refine Go.istore X0 hx (l' := #[.val (.ref a), .val (.int p1), .val (.int p2), .val (.int ((f p1.toNatClampNeg) &&& (255 : Int32))), .val (.int (4 : Int32)), .val (.int (((((((f p1.toNatClampNeg) &&& (255 : Int32)) &&& (7 : Int32)) <<< ((6 : Int32) &&& 31)) ||| (((f (p1 + (1 : Int32)).toNatClampNeg) &&& (255 : Int32)) &&& (63 : Int32))) <<< ((6 : Int32) &&& 31)) ||| (((f (p1 + (2 : Int32)).toNatClampNeg) &&& (255 : Int32)) &&& (63 : Int32)))), .val (.int (65536 : Int32)), .val (.int ((f (p1 + (1 : Int32)).toNatClampNeg) &&& (255 : Int32))), .val (.int ((f (p1 + (3 : Int32)).toNatClampNeg) &&& (255 : Int32)))]) (hb hby d5_210) rfl ?_
                refine Go.iload X0 hx (hb hby d5_212) rfl ?_
                refine Go.sipush X0 hx (192 : Int32) (hb hby d5_214) rfl ?_
                refine Go.iand X0 hx (hb hby d5_217) ?_
                refine Go.sipush X0 hx (128 : Int32) (hb hby d5_218) rfl ?_
                by_cases hc221_30 : (((f (p1 + (3 : Int32)).toNatClampNeg) &&& (255 : Int32)) &&& (192 : Int32)) = (128 : Int32)
                · skip
                  refine Go.icmpYes X0 hx (pc' := 226) (hb hby d5_221) (teq hc221_30).1 (by decide) (by decide) ?_
                  show Go p_ e_ below _ _ s₁ (mkF m_ 226 #[.val (.ref a), .val (.int p1), .val (.int p2), .val (.int ((f p1.toNatClampNeg) &&& (255 : Int32))), .val (.int (4 : Int32)), .val (.int (((((((f p1.toNatClampNeg) &&& (255 : Int32)) &&& (7 : Int32)) <<< ((6 : Int32) &&& 31)) ||| (((f (p1 + (1 : Int32)).toNatClampNeg) &&& (255 : Int32)) &&& (63 : Int32))) <<< ((6 : Int32) &&& 31)) ||| (((f (p1 + (2 : Int32)).toNatClampNeg) &&& (255 : Int32)) &&& (63 : Int32)))), .val (.int (65536 : Int32)), .val (.int ((f (p1 + (1 : Int32)).toNatClampNeg) &&& (255 : Int32))), .val (.int ((f (p1 + (3 : Int32)).toNatClampNeg) &&& (255 : Int32)))] [])
                  refine Go.iload X0 hx (hb hby d5_226) rfl ?_
                  refine Go.bipush X0 hx (6 : Int32) (hb hby d5_228) rfl ?_
                  refine Go.ishl X0 hx (hb hby d5_230) ?_
                  refine Go.iload X0 hx (hb hby d5_231) rfl ?_
                  refine Go.bipush X0 hx (63 : Int32) (hb hby d5_233) rfl ?_
                  refine Go.iand X0 hx (hb hby d5_235) ?_
                  refine Go.ior X0 hx (hb hby d5_236) ?_
                  refine Go.istore X0 hx (l' := #[.val (.ref a), .val (.int p1), .val (.int p2), .val (.int ((f p1.toNatClampNeg) &&& (255 : Int32))), .val (.int (4 : Int32)), .val (.int (((((((((f p1.toNatClampNeg) &&& (255 : Int32)) &&& (7 : Int32)) <<< ((6 : Int32) &&& 31)) ||| (((f (p1 + (1 : Int32)).toNatClampNeg) &&& (255 : Int32)) &&& (63 : Int32))) <<< ((6 : Int32) &&& 31)) ||| (((f (p1 + (2 : Int32)).toNatClampNeg) &&& (255 : Int32)) &&& (63 : Int32))) <<< ((6 : Int32) &&& 31)) ||| (((f (p1 + (3 : Int32)).toNatClampNeg) &&& (255 : Int32)) &&& (63 : Int32)))), .val (.int (65536 : Int32)), .val (.int ((f (p1 + (1 : Int32)).toNatClampNeg) &&& (255 : Int32))), .val (.int ((f (p1 + (3 : Int32)).toNatClampNeg) &&& (255 : Int32)))]) (hb hby d5_237) rfl ?_
                  refine Go.iload X0 hx (hb hby d5_239) rfl ?_
                  refine Go.iload X0 hx (hb hby d5_241) rfl ?_
                  by_cases hc243_31 : (((((((((f p1.toNatClampNeg) &&& (255 : Int32)) &&& (7 : Int32)) <<< ((6 : Int32) &&& 31)) ||| (((f (p1 + (1 : Int32)).toNatClampNeg) &&& (255 : Int32)) &&& (63 : Int32))) <<< ((6 : Int32) &&& 31)) ||| (((f (p1 + (2 : Int32)).toNatClampNeg) &&& (255 : Int32)) &&& (63 : Int32))) <<< ((6 : Int32) &&& 31)) ||| (((f (p1 + (3 : Int32)).toNatClampNeg) &&& (255 : Int32)) &&& (63 : Int32))) < (65536 : Int32)
                  · skip
                    refine Go.icmpNo X0 hx (hb hby d5_243) (tlt hc243_31).2.1 ?_
                    show Go p_ e_ below _ _ s₁ (mkF m_ 246 #[.val (.ref a), .val (.int p1), .val (.int p2), .val (.int ((f p1.toNatClampNeg) &&& (255 : Int32))), .val (.int (4 : Int32)), .val (.int (((((((((f p1.toNatClampNeg) &&& (255 : Int32)) &&& (7 : Int32)) <<< ((6 : Int32) &&& 31)) ||| (((f (p1 + (1 : Int32)).toNatClampNeg) &&& (255 : Int32)) &&& (63 : Int32))) <<< ((6 : Int32) &&& 31)) ||| (((f (p1 + (2 : Int32)).toNatClampNeg) &&& (255 : Int32)) &&& (63 : Int32))) <<< ((6 : Int32) &&& 31)) ||| (((f (p1 + (3 : Int32)).toNatClampNeg) &&& (255 : Int32)) &&& (63 : Int32)))), .val (.int (65536 : Int32)), .val (.int ((f (p1 + (1 : Int32)).toNatClampNeg) &&& (255 : Int32))), .val (.int ((f (p1 + (3 : Int32)).toNatClampNeg) &&& (255 : Int32)))] [])
                    refine Go.iconst X0 hx (0 : Int32) (hb hby d5_246) rfl ?_
                    refine Go.retI X0 hx hret hlk (hb hby d5_247) (by decide) (by decide) ?_
                    exact ⟨by unfold own_seq; rw [if_neg hc13_2, if_neg hc26_3, if_neg hc54_12, if_pos hc82_23, if_neg hc108_24, if_pos hc133_26, if_pos hc177_28, if_pos hc221_30, if_pos hc243_31] <;> rfl, N0, e0⟩
                  · skip
                    refine Go.icmpYes X0 hx (pc' := 248) (hb hby d5_243) (flt hc243_31).2.1 (by decide) (by decide) ?_
                    show Go p_ e_ below _ _ s₁ (mkF m_ 248 #[.val (.ref a), .val (.int p1), .val (.int p2), .val (.int ((f p1.toNatClampNeg) &&& (255 : Int32))), .val (.int (4 : Int32)), .val (.int (((((((((f p1.toNatClampNeg) &&& (255 : Int32)) &&& (7 : Int32)) <<< ((6 : Int32) &&& 31)) ||| (((f (p1 + (1 : Int32)).toNatClampNeg) &&& (255 : Int32)) &&& (63 : Int32))) <<< ((6 : Int32) &&& 31)) ||| (((f (p1 + (2 : Int32)).toNatClampNeg) &&& (255 : Int32)) &&& (63 : Int32))) <<< ((6 : Int32) &&& 31)) ||| (((f (p1 + (3 : Int32)).toNatClampNeg) &&& (255 : Int32)) &&& (63 : Int32)))), .val (.int (65536 : Int32)), .val (.int ((f (p1 + (1 : Int32)).toNatClampNeg) &&& (255 : Int32))), .val (.int ((f (p1 + (3 : Int32)).toNatClampNeg) &&& (255 : Int32)))] [])
                    refine Go.iload X0 hx (hb hby d5_248) rfl ?_
                    refine Go.ldcI X0 hx hZ hown (hw _ (List.mem_of_getElem? (i := 21) rfl)) (hb hby d5_250) ?_
                    by_cases hc252_32 : (((((((((f p1.toNatClampNeg) &&& (255 : Int32)) &&& (7 : Int32)) <<< ((6 : Int32) &&& 31)) ||| (((f (p1 + (1 : Int32)).toNatClampNeg) &&& (255 : Int32)) &&& (63 : Int32))) <<< ((6 : Int32) &&& 31)) ||| (((f (p1 + (2 : Int32)).toNatClampNeg) &&& (255 : Int32)) &&& (63 : Int32))) <<< ((6 : Int32) &&& 31)) ||| (((f (p1 + (3 : Int32)).toNatClampNeg) &&& (255 : Int32)) &&& (63 : Int32))) < (55296 : Int32)
                    · skip
                      refine Go.icmpYes X0 hx (pc' := 264) (hb hby d5_252) (tlt hc252_32).1 (by decide) (by decide) ?_
                      show Go p_ e_ below _ _ s₁ (mkF m_ 264 #[.val (.ref a), .val (.int p1), .val (.int p2), .val (.int ((f p1.toNatClampNeg) &&& (255 : Int32))), .val (.int (4 : Int32)), .val (.int (((((((((f p1.toNatClampNeg) &&& (255 : Int32)) &&& (7 : Int32)) <<< ((6 : Int32) &&& 31)) ||| (((f (p1 + (1 : Int32)).toNatClampNeg) &&& (255 : Int32)) &&& (63 : Int32))) <<< ((6 : Int32) &&& 31)) ||| (((f (p1 + (2 : Int32)).toNatClampNeg) &&& (255 : Int32)) &&& (63 : Int32))) <<< ((6 : Int32) &&& 31)) ||| (((f (p1 + (3 : Int32)).toNatClampNeg) &&& (255 : Int32)) &&& (63 : Int32)))), .val (.int (65536 : Int32)), .val (.int ((f (p1 + (1 : Int32)).toNatClampNeg) &&& (255 : Int32))), .val (.int ((f (p1 + (3 : Int32)).toNatClampNeg) &&& (255 : Int32)))] [])
                      refine Go.iload X0 hx (hb hby d5_264) rfl ?_
                      refine Go.ldcI X0 hx hZ hown (hw _ (List.mem_of_getElem? (i := 22) rfl)) (hb hby d5_266) ?_
                      by_cases hc268_33 : (1114111 : Int32) < (((((((((f p1.toNatClampNeg) &&& (255 : Int32)) &&& (7 : Int32)) <<< ((6 : Int32) &&& 31)) ||| (((f (p1 + (1 : Int32)).toNatClampNeg) &&& (255 : Int32)) &&& (63 : Int32))) <<< ((6 : Int32) &&& 31)) ||| (((f (p1 + (2 : Int32)).toNatClampNeg) &&& (255 : Int32)) &&& (63 : Int32))) <<< ((6 : Int32) &&& 31)) ||| (((f (p1 + (3 : Int32)).toNatClampNeg) &&& (255 : Int32)) &&& (63 : Int32)))
                      · skip
                        refine Go.icmpNo X0 hx (hb hby d5_268) (tlt hc268_33).2.2.2 ?_
                        show Go p_ e_ below _ _ s₁ (mkF m_ 271 #[.val (.ref a), .val (.int p1), .val (.int p2), .val (.int ((f p1.toNatClampNeg) &&& (255 : Int32))), .val (.int (4 : Int32)), .val (.int (((((((((f p1.toNatClampNeg) &&& (255 : Int32)) &&& (7 : Int32)) <<< ((6 : Int32) &&& 31)) ||| (((f (p1 + (1 : Int32)).toNatClampNeg) &&& (255 : Int32)) &&& (63 : Int32))) <<< ((6 : Int32) &&& 31)) ||| (((f (p1 + (2 : Int32)).toNatClampNeg) &&& (255 : Int32)) &&& (63 : Int32))) <<< ((6 : Int32) &&& 31)) ||| (((f (p1 + (3 : Int32)).toNatClampNeg) &&& (255 : Int32)) &&& (63 : Int32)))), .val (.int (65536 : Int32)), .val (.int ((f (p1 + (1 : Int32)).toNatClampNeg) &&& (255 : Int32))), .val (.int ((f (p1 + (3 : Int32)).toNatClampNeg) &&& (255 : Int32)))] [])
                        refine Go.iconst X0 hx (0 : Int32) (hb hby d5_271) rfl ?_
                        refine Go.retI X0 hx hret hlk (hb hby d5_272) (by decide) (by decide) ?_
                        exact ⟨by unfold own_seq; rw [if_neg hc13_2, if_neg hc26_3, if_neg hc54_12, if_pos hc82_23, if_neg hc108_24, if_pos hc133_26, if_pos hc177_28, if_pos hc221_30, if_neg hc243_31, if_pos hc252_32, if_pos hc268_33] <;> rfl, N0, e0⟩
                      · skip
                        refine Go.icmpYes X0 hx (pc' := 273) (hb hby d5_268) (flt hc268_33).2.2.2 (by decide) (by decide) ?_
                        show Go p_ e_ below _ _ s₁ (mkF m_ 273 #[.val (.ref a), .val (.int p1), .val (.int p2), .val (.int ((f p1.toNatClampNeg) &&& (255 : Int32))), .val (.int (4 : Int32)), .val (.int (((((((((f p1.toNatClampNeg) &&& (255 : Int32)) &&& (7 : Int32)) <<< ((6 : Int32) &&& 31)) ||| (((f (p1 + (1 : Int32)).toNatClampNeg) &&& (255 : Int32)) &&& (63 : Int32))) <<< ((6 : Int32) &&& 31)) ||| (((f (p1 + (2 : Int32)).toNatClampNeg) &&& (255 : Int32)) &&& (63 : Int32))) <<< ((6 : Int32) &&& 31)) ||| (((f (p1 + (3 : Int32)).toNatClampNeg) &&& (255 : Int32)) &&& (63 : Int32)))), .val (.int (65536 : Int32)), .val (.int ((f (p1 + (1 : Int32)).toNatClampNeg) &&& (255 : Int32))), .val (.int ((f (p1 + (3 : Int32)).toNatClampNeg) &&& (255 : Int32)))] [])
                        refine Go.iload X0 hx (hb hby d5_273) rfl ?_
                        refine Go.retI X0 hx hret hlk (hb hby d5_275) (by decide) (by decide) ?_
                        exact ⟨by unfold own_seq; rw [if_neg hc13_2, if_neg hc26_3, if_neg hc54_12, if_pos hc82_23, if_neg hc108_24, if_pos hc133_26, if_pos hc177_28, if_pos hc221_30, if_neg hc243_31, if_pos hc252_32, if_neg hc268_33] <;> rfl, N0, e0⟩
                    · skip
                      refine Go.icmpNo X0 hx (hb hby d5_252) (flt hc252_32).1 ?_
                      show Go p_ e_ below _ _ s₁ (mkF m_ 255 #[.val (.ref a), .val (.int p1), .val (.int p2), .val (.int ((f p1.toNatClampNeg) &&& (255 : Int32))), .val (.int (4 : Int32)), .val (.int (((((((((f p1.toNatClampNeg) &&& (255 : Int32)) &&& (7 : Int32)) <<< ((6 : Int32) &&& 31)) ||| (((f (p1 + (1 : Int32)).toNatClampNeg) &&& (255 : Int32)) &&& (63 : Int32))) <<< ((6 : Int32) &&& 31)) ||| (((f (p1 + (2 : Int32)).toNatClampNeg) &&& (255 : Int32)) &&& (63 : Int32))) <<< ((6 : Int32) &&& 31)) ||| (((f (p1 + (3 : Int32)).toNatClampNeg) &&& (255 : Int32)) &&& (63 : Int32)))), .val (.int (65536 : Int32)), .val (.int ((f (p1 + (1 : Int32)).toNatClampNeg) &&& (255 : Int32))), .val (.int ((f (p1 + (3 : Int32)).toNatClampNeg) &&& (255 : Int32)))] [])
                      refine Go.iload X0 hx (hb hby d5_255) rfl ?_
                      refine Go.ldcI X0 hx hZ hown (hw _ (List.mem_of_getElem? (i := 23) rfl)) (hb hby d5_257) ?_
                      by_cases hc259_34 : (57343 : Int32) < (((((((((f p1.toNatClampNeg) &&& (255 : Int32)) &&& (7 : Int32)) <<< ((6 : Int32) &&& 31)) ||| (((f (p1 + (1 : Int32)).toNatClampNeg) &&& (255 : Int32)) &&& (63 : Int32))) <<< ((6 : Int32) &&& 31)) ||| (((f (p1 + (2 : Int32)).toNatClampNeg) &&& (255 : Int32)) &&& (63 : Int32))) <<< ((6 : Int32) &&& 31)) ||| (((f (p1 + (3 : Int32)).toNatClampNeg) &&& (255 : Int32)) &&& (63 : Int32)))
                      · skip
                        refine Go.icmpYes X0 hx (pc' := 264) (hb hby d5_259) (tlt hc259_34).2.2.1 (by decide) (by decide) ?_
                        show Go p_ e_ below _ _ s₁ (mkF m_ 264 #[.val (.ref a), .val (.int p1), .val (.int p2), .val (.int ((f p1.toNatClampNeg) &&& (255 : Int32))), .val (.int (4 : Int32)), .val (.int (((((((((f p1.toNatClampNeg) &&& (255 : Int32)) &&& (7 : Int32)) <<< ((6 : Int32) &&& 31)) ||| (((f (p1 + (1 : Int32)).toNatClampNeg) &&& (255 : Int32)) &&& (63 : Int32))) <<< ((6 : Int32) &&& 31)) ||| (((f (p1 + (2 : Int32)).toNatClampNeg) &&& (255 : Int32)) &&& (63 : Int32))) <<< ((6 : Int32) &&& 31)) ||| (((f (p1 + (3 : Int32)).toNatClampNeg) &&& (255 : Int32)) &&& (63 : Int32)))), .val (.int (65536 : Int32)), .val (.int ((f (p1 + (1 : Int32)).toNatClampNeg) &&& (255 : Int32))), .val (.int ((f (p1 + (3 : Int32)).toNatClampNeg) &&& (255 : Int32)))] [])
                        refine Go.iload X0 hx (hb hby d5_264) rfl ?_
                        refine Go.ldcI X0 hx hZ hown (hw _ (List.mem_of_getElem? (i := 22) rfl)) (hb hby d5_266) ?_
                        by_cases hc268_35 : (1114111 : Int32) < (((((((((f p1.toNatClampNeg) &&& (255 : Int32)) &&& (7 : Int32)) <<< ((6 : Int32) &&& 31)) ||| (((f (p1 + (1 : Int32)).toNatClampNeg) &&& (255 : Int32)) &&& (63 : Int32))) <<< ((6 : Int32) &&& 31)) ||| (((f (p1 + (2 : Int32)).toNatClampNeg) &&& (255 : Int32)) &&& (63 : Int32))) <<< ((6 : Int32) &&& 31)) ||| (((f (p1 + (3 : Int32)).toNatClampNeg) &&& (255 : Int32)) &&& (63 : Int32)))
                        · skip
                          refine Go.icmpNo X0 hx (hb hby d5_268) (tlt hc268_35).2.2.2 ?_
                          show Go p_ e_ below _ _ s₁ (mkF m_ 271 #[.val (.ref a), .val (.int p1), .val (.int p2), .val (.int ((f p1.toNatClampNeg) &&& (255 : Int32))), .val (.int (4 : Int32)), .val (.int (((((((((f p1.toNatClampNeg) &&& (255 : Int32)) &&& (7 : Int32)) <<< ((6 : Int32) &&& 31)) ||| (((f (p1 + (1 : Int32)).toNatClampNeg) &&& (255 : Int32)) &&& (63 : Int32))) <<< ((6 : Int32) &&& 31)) ||| (((f (p1 + (2 : Int32)).toNatClampNeg) &&& (255 : Int32)) &&& (63 : Int32))) <<< ((6 : Int32) &&& 31)) ||| (((f (p1 + (3 : Int32)).toNatClampNeg) &&& (255 : Int32)) &&& (63 : Int32)))), .val (.int (65536 : Int32)), .val (.int ((f (p1 + (1 : Int32)).toNatClampNeg) &&& (255 : Int32))), .val (.int ((f (p1 + (3 : Int32)).toNatClampNeg) &&& (255 : Int32)))] [])
                          refine Go.iconst X0 hx (0 : Int32) (hb hby d5_271) rfl ?_
                          refine Go.retI X0 hx hret hlk (hb hby d5_272) (by decide) (by decide) ?_
                          exact ⟨by unfold own_seq; rw [if_neg hc13_2, if_neg hc26_3, if_neg hc54_12, if_pos hc82_23, if_neg hc108_24, if_pos hc133_26, if_pos hc177_28, if_pos hc221_30, if_neg hc243_31, if_neg hc252_32, if_pos hc259_34, if_pos hc268_35] <;> rfl, N0, e0⟩
                        · skip
                          refine Go.icmpYes X0 hx (pc' := 273) (hb hby d5_268) (flt hc268_35).2.2.2 (by decide) (by decide) ?_
                          show Go p_ e_ below _ _ s₁ (mkF m_ 273 #[.val (.ref a), .val (.int p1), .val (.int p2), .val (.int ((f p1.toNatClampNeg) &&& (255 : Int32))), .val (.int (4 : Int32)), .val (.int (((((((((f p1.toNatClampNeg) &&& (255 : Int32)) &&& (7 : Int32)) <<< ((6 : Int32) &&& 31)) ||| (((f (p1 + (1 : Int32)).toNatClampNeg) &&& (255 : Int32)) &&& (63 : Int32))) <<< ((6 : Int32) &&& 31)) ||| (((f (p1 + (2 : Int32)).toNatClampNeg) &&& (255 : Int32)) &&& (63 : Int32))) <<< ((6 : Int32) &&& 31)) ||| (((f (p1 + (3 : Int32)).toNatClampNeg) &&& (255 : Int32)) &&& (63 : Int32)))), .val (.int (65536 : Int32)), .val (.int ((f (p1 + (1 : Int32)).toNatClampNeg) &&& (255 : Int32))), .val (.int ((f (p1 + (3 : Int32)).toNatClampNeg) &&& (255 : Int32)))] [])
                          refine Go.iload X0 hx (hb hby d5_273) rfl ?_
                          refine Go.retI X0 hx hret hlk (hb hby d5_275) (by decide) (by decide) ?_
                          exact ⟨by unfold own_seq; rw [if_neg hc13_2, if_neg hc26_3, if_neg hc54_12, if_pos hc82_23, if_neg hc108_24, if_pos hc133_26, if_pos hc177_28, if_pos hc221_30, if_neg hc243_31, if_neg hc252_32, if_pos hc259_34, if_neg hc268_35] <;> rfl, N0, e0⟩
                      · skip
                        refine Go.icmpNo X0 hx (hb hby d5_259) (flt hc259_34).2.2.1 ?_
                        show Go p_ e_ below _ _ s₁ (mkF m_ 262 #[.val (.ref a), .val (.int p1), .val (.int p2), .val (.int ((f p1.toNatClampNeg) &&& (255 : Int32))), .val (.int (4 : Int32)), .val (.int (((((((((f p1.toNatClampNeg) &&& (255 : Int32)) &&& (7 : Int32)) <<< ((6 : Int32) &&& 31)) ||| (((f (p1 + (1 : Int32)).toNatClampNeg) &&& (255 : Int32)) &&& (63 : Int32))) <<< ((6 : Int32) &&& 31)) ||| (((f (p1 + (2 : Int32)).toNatClampNeg) &&& (255 : Int32)) &&& (63 : Int32))) <<< ((6 : Int32) &&& 31)) ||| (((f (p1 + (3 : Int32)).toNatClampNeg) &&& (255 : Int32)) &&& (63 : Int32)))), .val (.int (65536 : Int32)), .val (.int ((f (p1 + (1 : Int32)).toNatClampNeg) &&& (255 : Int32))), .val (.int ((f (p1 + (3 : Int32)).toNatClampNeg) &&& (255 : Int32)))] [])
                        refine Go.iconst X0 hx (0 : Int32) (hb hby d5_262) rfl ?_
                        refine Go.retI X0 hx hret hlk (hb hby d5_263) (by decide) (by decide) ?_
                        exact ⟨by unfold own_seq; rw [if_neg hc13_2, if_neg hc26_3, if_neg hc54_12, if_pos hc82_23, if_neg hc108_24, if_pos hc133_26, if_pos hc177_28, if_pos hc221_30, if_neg hc243_31, if_neg hc252_32, if_neg hc259_34] <;> rfl, N0, e0⟩
                · skip
                  refine Go.icmpNo X0 hx (hb hby d5_221) (feq hc221_30).1 ?_
                  show Go p_ e_ below _ _ s₁ (mkF m_ 224 #[.val (.ref a), .val (.int p1), .val (.int p2), .val (.int ((f p1.toNatClampNeg) &&& (255 : Int32))), .val (.int (4 : Int32)), .val (.int (((((((f p1.toNatClampNeg) &&& (255 : Int32)) &&& (7 : Int32)) <<< ((6 : Int32) &&& 31)) ||| (((f (p1 + (1 : Int32)).toNatClampNeg) &&& (255 : Int32)) &&& (63 : Int32))) <<< ((6 : Int32) &&& 31)) ||| (((f (p1 + (2 : Int32)).toNatClampNeg) &&& (255 : Int32)) &&& (63 : Int32)))), .val (.int (65536 : Int32)), .val (.int ((f (p1 + (1 : Int32)).toNatClampNeg) &&& (255 : Int32))), .val (.int ((f (p1 + (3 : Int32)).toNatClampNeg) &&& (255 : Int32)))] [])
                  refine Go.iconst X0 hx (0 : Int32) (hb hby d5_224) rfl ?_
                  refine Go.retI X0 hx hret hlk (hb hby d5_225) (by decide) (by decide) ?_
                  exact ⟨by unfold own_seq; rw [if_neg hc13_2, if_neg hc26_3, if_neg hc54_12, if_pos hc82_23, if_neg hc108_24, if_pos hc133_26, if_pos hc177_28, if_neg hc221_30] <;> rfl, N0, e0⟩
              · skip
                refine Go.icmpNo X0 hx (hb hby d5_177) (feq hc177_28).1 ?_
                show Go p_ e_ below _ _ s₁ (mkF m_ 180 #[.val (.ref a), .val (.int p1), .val (.int p2), .val (.int ((f p1.toNatClampNeg) &&& (255 : Int32))), .val (.int (4 : Int32)), .val (.int (((((f p1.toNatClampNeg) &&& (255 : Int32)) &&& (7 : Int32)) <<< ((6 : Int32) &&& 31)) ||| (((f (p1 + (1 : Int32)).toNatClampNeg) &&& (255 : Int32)) &&& (63 : Int32)))), .val (.int (65536 : Int32)), .val (.int ((f (p1 + (1 : Int32)).toNatClampNeg) &&& (255 : Int32))), .val (.int ((f (p1 + (2 : Int32)).toNatClampNeg) &&& (255 : Int32)))] [])
                refine Go.iconst X0 hx (0 : Int32) (hb hby d5_180) rfl ?_
                refine Go.retI X0 hx hret hlk (hb hby d5_181) (by decide) (by decide) ?_
                exact ⟨by unfold own_seq; rw [if_neg hc13_2, if_neg hc26_3, if_neg hc54_12, if_pos hc82_23, if_neg hc108_24, if_pos hc133_26, if_neg hc177_28] <;> rfl, N0, e0⟩
            · skip
              refine Go.icmpNo X0 hx (hb hby d5_133) (feq hc133_26).1 ?_
              show Go p_ e_ below _ _ s₁ (mkF m_ 136 #[.val (.ref a), .val (.int p1), .val (.int p2), .val (.int ((f p1.toNatClampNeg) &&& (255 : Int32))), .val (.int (4 : Int32)), .val (.int (((f p1.toNatClampNeg) &&& (255 : Int32)) &&& (7 : Int32))), .val (.int (65536 : Int32)), .val (.int ((f (p1 + (1 : Int32)).toNatClampNeg) &&& (255 : Int32))), .unset] [])
              refine Go.iconst X0 hx (0 : Int32) (hb hby d5_136) rfl ?_
              refine Go.retI X0 hx hret hlk (hb hby d5_137) (by decide) (by decide) ?_
              exact ⟨by unfold own_seq; rw [if_neg hc13_2, if_neg hc26_3, if_neg hc54_12, if_pos hc82_23, if_neg hc108_24, if_neg hc133_26] <;> rfl, N0, e0⟩
        · skip
          refine Go.icmpYes X0 hx (pc' := 101) (hb hby d5_82) (feq hc82_23).2 (by decide) (by decide) ?_
          show Go p_ e_ below _ _ s₁ (mkF m_ 101 #[.val (.ref a), .val (.int p1), .val (.int p2), .val (.int ((f p1.toNatClampNeg) &&& (255 : Int32))), .unset, .unset, .unset, .unset, .unset] [])
          refine Go.iconst X0 hx (0 : Int32) (hb hby d5_101) rfl ?_
          refine Go.retI X0 hx hret hlk (hb hby d5_102) (by decide) (by decide) ?_
          exact ⟨by unfold own_seq; rw [if_neg hc13_2, if_neg hc26_3, if_neg hc54_12, if_neg hc82_23] <;> rfl, N0, e0⟩
def own_nst (f : Nat → Int32) (t : Int32) (p2 : Int32) : Int32 := (if ((f t.toNatClampNeg) &&& (255 : Int32)) < (128 : Int32) then (1 : Int32) else (if ((f t.toNatClampNeg) &&& (255 : Int32)) < (194 : Int32) then (if ((f t.toNatClampNeg) &&& (255 : Int32)) < (224 : Int32) then (if ((f t.toNatClampNeg) &&& (255 : Int32)) < (240 : Int32) then (0 : Int32) else (if (244 : Int32) < ((f t.toNatClampNeg) &&& (255 : Int32)) then (0 : Int32) else (if p2 < (t + (4 : Int32)) then (0 : Int32) else (if ((f (t + (1 : Int32)).toNatClampNeg) &&& (255 : Int32)) < (if ((f t.toNatClampNeg) &&& (255 : Int32)) = (240 : Int32) then (144 : Int32) else (128 : Int32)) then (0 : Int32) else (if (if ((f t.toNatClampNeg) &&& (255 : Int32)) = (244 : Int32) then (143 : Int32) else (191 : Int32)) < ((f (t + (1 : Int32)).toNatClampNeg) &&& (255 : Int32)) then (0 : Int32) else (if ((f (t + (2 : Int32)).toNatClampNeg) &&& (192 : Int32)) = (128 : Int32) then (if ((f (t + (3 : Int32)).toNatClampNeg) &&& (192 : Int32)) = (128 : Int32) then (4 : Int32) else (0 : Int32)) else (0 : Int32))))))) else (if (239 : Int32) < ((f t.toNatClampNeg) &&& (255 : Int32)) then (if ((f t.toNatClampNeg) &&& (255 : Int32)) < (240 : Int32) then (0 : Int32) else (if (244 : Int32) < ((f t.toNatClampNeg) &&& (255 : Int32)) then (0 : Int32) else (if p2 < (t + (4 : Int32)) then (0 : Int32) else (if ((f (t + (1 : Int32)).toNatClampNeg) &&& (255 : Int32)) < (if ((f t.toNatClampNeg) &&& (255 : Int32)) = (240 : Int32) then (144 : Int32) else (128 : Int32)) then (0 : Int32) else (if (if ((f t.toNatClampNeg) &&& (255 : Int32)) = (244 : Int32) then (143 : Int32) else (191 : Int32)) < ((f (t + (1 : Int32)).toNatClampNeg) &&& (255 : Int32)) then (0 : Int32) else (if ((f (t + (2 : Int32)).toNatClampNeg) &&& (192 : Int32)) = (128 : Int32) then (if ((f (t + (3 : Int32)).toNatClampNeg) &&& (192 : Int32)) = (128 : Int32) then (4 : Int32) else (0 : Int32)) else (0 : Int32))))))) else (if p2 < (t + (3 : Int32)) then (0 : Int32) else (if ((f (t + (1 : Int32)).toNatClampNeg) &&& (255 : Int32)) < (if ((f t.toNatClampNeg) &&& (255 : Int32)) = (224 : Int32) then (160 : Int32) else (128 : Int32)) then (0 : Int32) else (if (if ((f t.toNatClampNeg) &&& (255 : Int32)) = (237 : Int32) then (159 : Int32) else (191 : Int32)) < ((f (t + (1 : Int32)).toNatClampNeg) &&& (255 : Int32)) then (0 : Int32) else (if ((f (t + (2 : Int32)).toNatClampNeg) &&& (192 : Int32)) = (128 : Int32) then (3 : Int32) else (0 : Int32))))))) else (if (223 : Int32) < ((f t.toNatClampNeg) &&& (255 : Int32)) then (if ((f t.toNatClampNeg) &&& (255 : Int32)) < (224 : Int32) then (if ((f t.toNatClampNeg) &&& (255 : Int32)) < (240 : Int32) then (0 : Int32) else (if (244 : Int32) < ((f t.toNatClampNeg) &&& (255 : Int32)) then (0 : Int32) else (if p2 < (t + (4 : Int32)) then (0 : Int32) else (if ((f (t + (1 : Int32)).toNatClampNeg) &&& (255 : Int32)) < (if ((f t.toNatClampNeg) &&& (255 : Int32)) = (240 : Int32) then (144 : Int32) else (128 : Int32)) then (0 : Int32) else (if (if ((f t.toNatClampNeg) &&& (255 : Int32)) = (244 : Int32) then (143 : Int32) else (191 : Int32)) < ((f (t + (1 : Int32)).toNatClampNeg) &&& (255 : Int32)) then (0 : Int32) else (if ((f (t + (2 : Int32)).toNatClampNeg) &&& (192 : Int32)) = (128 : Int32) then (if ((f (t + (3 : Int32)).toNatClampNeg) &&& (192 : Int32)) = (128 : Int32) then (4 : Int32) else (0 : Int32)) else (0 : Int32))))))) else (if (239 : Int32) < ((f t.toNatClampNeg) &&& (255 : Int32)) then (if ((f t.toNatClampNeg) &&& (255 : Int32)) < (240 : Int32) then (0 : Int32) else (if (244 : Int32) < ((f t.toNatClampNeg) &&& (255 : Int32)) then (0 : Int32) else (if p2 < (t + (4 : Int32)) then (0 : Int32) else (if ((f (t + (1 : Int32)).toNatClampNeg) &&& (255 : Int32)) < (if ((f t.toNatClampNeg) &&& (255 : Int32)) = (240 : Int32) then (144 : Int32) else (128 : Int32)) then (0 : Int32) else (if (if ((f t.toNatClampNeg) &&& (255 : Int32)) = (244 : Int32) then (143 : Int32) else (191 : Int32)) < ((f (t + (1 : Int32)).toNatClampNeg) &&& (255 : Int32)) then (0 : Int32) else (if ((f (t + (2 : Int32)).toNatClampNeg) &&& (192 : Int32)) = (128 : Int32) then (if ((f (t + (3 : Int32)).toNatClampNeg) &&& (192 : Int32)) = (128 : Int32) then (4 : Int32) else (0 : Int32)) else (0 : Int32))))))) else (if p2 < (t + (3 : Int32)) then (0 : Int32) else (if ((f (t + (1 : Int32)).toNatClampNeg) &&& (255 : Int32)) < (if ((f t.toNatClampNeg) &&& (255 : Int32)) = (224 : Int32) then (160 : Int32) else (128 : Int32)) then (0 : Int32) else (if (if ((f t.toNatClampNeg) &&& (255 : Int32)) = (237 : Int32) then (159 : Int32) else (191 : Int32)) < ((f (t + (1 : Int32)).toNatClampNeg) &&& (255 : Int32)) then (0 : Int32) else (if ((f (t + (2 : Int32)).toNatClampNeg) &&& (192 : Int32)) = (128 : Int32) then (3 : Int32) else (0 : Int32))))))) else (if p2 < (t + (2 : Int32)) then (0 : Int32) else (if ((f (t + (1 : Int32)).toNatClampNeg) &&& (255 : Int32)) < (128 : Int32) then (0 : Int32) else (if (191 : Int32) < ((f (t + (1 : Int32)).toNatClampNeg) &&& (255 : Int32)) then (0 : Int32) else (2 : Int32)))))))
theorem own_lit (k : Int32) (n : Int) (h : k.toInt = n) : k.toInt = n := h
theorem own_u8 (x : Int32) (h0 : 0 ≤ x.toInt) (h1 : x.toInt < 256) : ∃ k : Fin 256, x = Int32.ofNat k.val := by
  refine ⟨⟨x.toInt.toNat, by omega⟩, ?_⟩
  rw [← Int32.toInt_inj, Int32.toInt_ofNat_small (by show x.toInt.toNat < 2147483648; omega)]
  show x.toInt = ((x.toInt.toNat : Nat) : Int)
  omega
theorem own_m1 (x : Int32) (h0 : 0 ≤ x.toInt) (h1 : x.toInt < 256) : (x &&& (128 : Int32) = (0 : Int32) ↔ x.toInt < 128) ∧ (x &&& (224 : Int32) = (192 : Int32) ↔ 192 ≤ x.toInt ∧ x.toInt < 224) ∧ (x &&& (240 : Int32) = (224 : Int32) ↔ 224 ≤ x.toInt ∧ x.toInt < 240) ∧ (x &&& (248 : Int32) = (240 : Int32) ↔ 240 ≤ x.toInt ∧ x.toInt < 248) ∧ (x &&& (192 : Int32) = (128 : Int32) ↔ 128 ≤ x.toInt ∧ x.toInt < 192) := by
  obtain ⟨k, rfl⟩ := own_u8 x h0 h1
  clear h0 h1
  revert k
  decide +kernel
theorem own_b8 (y : Int32) : 0 ≤ (y &&& (255 : Int32)).toInt ∧ (y &&& (255 : Int32)).toInt < 256 ∧ (y &&& (192 : Int32)) = ((y &&& (255 : Int32)) &&& (192 : Int32)) := by
  have h1 : (y &&& 255).toInt = y.toInt % (2 ^ 8 : Nat) := c_mask y 255 8 (by decide) (by decide)
  refine ⟨by omega, by omega, ?_⟩
  rw [Int32.and_assoc]
  rfl
/-- a code point's next six bits -/
theorem own_cp (a c : Int32) (ha : 0 ≤ a.toInt) (hb : a.toInt < 32768) (h0 : 0 ≤ c.toInt) (h1 : c.toInt < 256) : ((a <<< ((6 : Int32) &&& 31)) ||| (c &&& (63 : Int32))).toInt = a.toInt * 64 + c.toInt % 64 := by
  have m1 : (c &&& 63).toInt = c.toInt % (2 ^ 6 : Nat) := c_mask c 63 6 (by decide) (by decide)
  have s1 := c_ishl a 6 6 (by decide)
  have r1 := rng32 (a <<< ((6 : Int32) &&& 31))
  have s2 : (a <<< ((6 : Int32) &&& 31)).toInt = a.toInt * 64 := by
    have : ((2 ^ 6 : Nat) : Int) = 64 := rfl
    rw [this] at s1
    omega
  have o1 := c_or (a <<< ((6 : Int32) &&& 31)) (c &&& 63) 6 (by decide) 64 (by decide) (by omega) (by omega) (by omega)
  have r2 := rng32 ((a <<< ((6 : Int32) &&& 31)) ||| (c &&& (63 : Int32)))
  omega
set_option maxHeartbeats 40000000 in
theorem own_same (f : Nat → Int32) (t q : Int32) : own_nst f t q = own_seq f t q := by
  unfold own_nst own_seq
  obtain ⟨x0, x1, -⟩ := own_b8 (f t.toNatClampNeg)
  obtain ⟨a0, a1, -⟩ := own_b8 (f (t + (1 : Int32)).toNatClampNeg)
  obtain ⟨b0, b1, b2⟩ := own_b8 (f (t + (2 : Int32)).toNatClampNeg)
  obtain ⟨c0, c1, c2⟩ := own_b8 (f (t + (3 : Int32)).toNatClampNeg)
  rw [b2, c2]
  clear b2 c2
  generalize f t.toNatClampNeg &&& (255 : Int32) = x at *
  generalize f (t + (1 : Int32)).toNatClampNeg &&& (255 : Int32) = a at *
  generalize f (t + (2 : Int32)).toNatClampNeg &&& (255 : Int32) = b at *
  generalize f (t + (3 : Int32)).toNatClampNeg &&& (255 : Int32) = c at *
  obtain ⟨mx1, mx2, mx3, mx4, -⟩ := own_m1 x x0 x1
  obtain ⟨-, -, -, -, ma⟩ := own_m1 a a0 a1
  obtain ⟨-, -, -, -, mb⟩ := own_m1 b b0 b1
  obtain ⟨-, -, -, -, mc⟩ := own_m1 c c0 c1
  have q31 : (x &&& (31 : Int32)).toInt = x.toInt % 32 := c_mask x 31 5 (by decide) (by decide)
  have q15 : (x &&& (15 : Int32)).toInt = x.toInt % 16 := c_mask x 15 4 (by decide) (by decide)
  have q7 : (x &&& (7 : Int32)).toInt = x.toInt % 8 := c_mask x 7 3 (by decide) (by decide)
  have e2 := own_cp (x &&& 31) a (by omega) (by omega) a0 a1
  have e3 := own_cp (x &&& 15) a (by omega) (by omega) a0 a1
  have e3b := own_cp _ b (by rw [e3]; omega) (by rw [e3]; omega) b0 b1
  have e4 := own_cp (x &&& 7) a (by omega) (by omega) a0 a1
  have e4b := own_cp _ b (by rw [e4]; omega) (by rw [e4]; omega) b0 b1
  have e4c := own_cp _ c (by rw [e4b, e4]; omega) (by rw [e4b, e4]; omega) c0 c1
  rw [e3, q15] at e3b
  rw [e4, q7] at e4b
  rw [e4b] at e4c
  rw [q31] at e2
  have k0 : (0 : Int32).toInt = 0 := rfl
  have k128 : (128 : Int32).toInt = 128 := rfl
  have k143 : (143 : Int32).toInt = 143 := rfl
  have k144 : (144 : Int32).toInt = 144 := rfl
  have k159 : (159 : Int32).toInt = 159 := rfl
  have k160 : (160 : Int32).toInt = 160 := rfl
  have k191 : (191 : Int32).toInt = 191 := rfl
  have k192 : (192 : Int32).toInt = 192 := rfl
  have k194 : (194 : Int32).toInt = 194 := rfl
  have k223 : (223 : Int32).toInt = 223 := rfl
  have k224 : (224 : Int32).toInt = 224 := rfl
  have k237 : (237 : Int32).toInt = 237 := rfl
  have k239 : (239 : Int32).toInt = 239 := rfl
  have k240 : (240 : Int32).toInt = 240 := rfl
  have k244 : (244 : Int32).toInt = 244 := rfl
  have k2048 : (2048 : Int32).toInt = 2048 := rfl
  have k55296 : (55296 : Int32).toInt = 55296 := rfl
  have k57343 : (57343 : Int32).toInt = 57343 := rfl
  have k65536 : (65536 : Int32).toInt = 65536 := rfl
  have k1114111 : (1114111 : Int32).toInt = 1114111 := rfl
  have y224 : (x = (224 : Int32)) = (x.toInt = 224) := by rw [← Int32.toInt_inj]; rfl
  have y237 : (x = (237 : Int32)) = (x.toInt = 237) := by rw [← Int32.toInt_inj]; rfl
  have y240 : (x = (240 : Int32)) = (x.toInt = 240) := by rw [← Int32.toInt_inj]; rfl
  have y244 : (x = (244 : Int32)) = (x.toInt = 244) := by rw [← Int32.toInt_inj]; rfl
  simp only [mx1, mx2, mx3, mx4, ma, mb, mc]
  simp only [Int32.lt_iff_toInt_lt, y224, y237, y240, y244, e2, e3b, e4c, k0, k128, k143, k144, k159, k160, k191, k192, k194, k223, k224, k237, k239, k240, k244, k2048, k55296, k57343, k65536, k1114111]
  clear mx1 mx2 mx3 mx4 ma mb mc e2 e3 e3b e4 e4b e4c q31 q15 q7 y224 y237 y240 y244 k0 k192 k194 k223 k224 k237 k239 k240 k244 k2048 k55296 k57343 k65536 k1114111
  have hcls : (0 ≤ x.toInt ∧ x.toInt < 128) ∨ (128 ≤ x.toInt ∧ x.toInt < 192) ∨ (192 ≤ x.toInt ∧ x.toInt < 194) ∨ (194 ≤ x.toInt ∧ x.toInt < 224) ∨ (224 ≤ x.toInt ∧ x.toInt < 240) ∨ (240 ≤ x.toInt ∧ x.toInt < 245) ∨ (245 ≤ x.toInt ∧ x.toInt < 248) ∨ (248 ≤ x.toInt ∧ x.toInt < 256) := by omega
  rcases hcls with ⟨u, v⟩ | ⟨u, v⟩ | ⟨u, v⟩ | ⟨u, v⟩ | ⟨u, v⟩ | ⟨u, v⟩ | ⟨u, v⟩ | ⟨u, v⟩
  · skip
    have d0 : x.toInt < 128 := by omega
    have d1 : x.toInt < 194 := by omega
    have d2 : x.toInt < 224 := by omega
    have d3 : x.toInt < 240 := by omega
    have d4 : ¬ (244 < x.toInt) := by omega
    have d5 : ¬ (223 < x.toInt) := by omega
    have d6 : ¬ (239 < x.toInt) := by omega
    have d7 : ¬ (192 ≤ x.toInt) := by omega
    have d8 : ¬ (224 ≤ x.toInt) := by omega
    have d9 : ¬ (240 ≤ x.toInt) := by omega
    have d10 : x.toInt < 248 := by omega
    simp only [d0, d1, d2, d3, d4, d5, d6, d7, d8, d9, d10, if_true, if_false, and_true, true_and, and_false, false_and, and_self]
  · skip
    have d0 : ¬ (x.toInt < 128) := by omega
    have d1 : x.toInt < 194 := by omega
    have d2 : x.toInt < 224 := by omega
    have d3 : x.toInt < 240 := by omega
    have d4 : ¬ (244 < x.toInt) := by omega
    have d5 : ¬ (223 < x.toInt) := by omega
    have d6 : ¬ (239 < x.toInt) := by omega
    have d7 : ¬ (192 ≤ x.toInt) := by omega
    have d8 : ¬ (224 ≤ x.toInt) := by omega
    have d9 : ¬ (240 ≤ x.toInt) := by omega
    have d10 : x.toInt < 248 := by omega
    simp only [d0, d1, d2, d3, d4, d5, d6, d7, d8, d9, d10, if_true, if_false, and_true, true_and, and_false, false_and, and_self]
  · skip
    have d0 : ¬ (x.toInt < 128) := by omega
    have d1 : x.toInt < 194 := by omega
    have d2 : x.toInt < 224 := by omega
    have d3 : x.toInt < 240 := by omega
    have d4 : ¬ (244 < x.toInt) := by omega
    have d5 : ¬ (223 < x.toInt) := by omega
    have d6 : ¬ (239 < x.toInt) := by omega
    have d7 : 192 ≤ x.toInt := by omega
    have d8 : ¬ (224 ≤ x.toInt) := by omega
    have d9 : ¬ (240 ≤ x.toInt) := by omega
    have d10 : x.toInt < 248 := by omega
    simp only [d0, d1, d2, d3, d4, d5, d6, d7, d8, d9, d10, if_true, if_false, and_true, true_and, and_false, false_and, and_self]
    repeat' split
    all_goals first | rfl | (exfalso; omega)
  · skip
    have d0 : ¬ (x.toInt < 128) := by omega
    have d1 : ¬ (x.toInt < 194) := by omega
    have d2 : x.toInt < 224 := by omega
    have d3 : x.toInt < 240 := by omega
    have d4 : ¬ (244 < x.toInt) := by omega
    have d5 : ¬ (223 < x.toInt) := by omega
    have d6 : ¬ (239 < x.toInt) := by omega
    have d7 : 192 ≤ x.toInt := by omega
    have d8 : ¬ (224 ≤ x.toInt) := by omega
    have d9 : ¬ (240 ≤ x.toInt) := by omega
    have d10 : x.toInt < 248 := by omega
    simp only [d0, d1, d2, d3, d4, d5, d6, d7, d8, d9, d10, if_true, if_false, and_true, true_and, and_false, false_and, and_self]
    repeat' split
    all_goals first | rfl | (exfalso; omega)
  · skip
    have d0 : ¬ (x.toInt < 128) := by omega
    have d1 : ¬ (x.toInt < 194) := by omega
    have d2 : ¬ (x.toInt < 224) := by omega
    have d3 : x.toInt < 240 := by omega
    have d4 : ¬ (244 < x.toInt) := by omega
    have d5 : 223 < x.toInt := by omega
    have d6 : ¬ (239 < x.toInt) := by omega
    have d7 : 192 ≤ x.toInt := by omega
    have d8 : 224 ≤ x.toInt := by omega
    have d9 : ¬ (240 ≤ x.toInt) := by omega
    have d10 : x.toInt < 248 := by omega
    simp only [d0, d1, d2, d3, d4, d5, d6, d7, d8, d9, d10, if_true, if_false, and_true, true_and, and_false, false_and, and_self]
    repeat' split
    all_goals first | rfl | (exfalso; omega)
  · skip
    have d0 : ¬ (x.toInt < 128) := by omega
    have d1 : ¬ (x.toInt < 194) := by omega
    have d2 : ¬ (x.toInt < 224) := by omega
    have d3 : ¬ (x.toInt < 240) := by omega
    have d4 : ¬ (244 < x.toInt) := by omega
    have d5 : 223 < x.toInt := by omega
    have d6 : 239 < x.toInt := by omega
    have d7 : 192 ≤ x.toInt := by omega
    have d8 : 224 ≤ x.toInt := by omega
    have d9 : 240 ≤ x.toInt := by omega
    have d10 : x.toInt < 248 := by omega
    simp only [d0, d1, d2, d3, d4, d5, d6, d7, d8, d9, d10, if_true, if_false, and_true, true_and, and_false, false_and, and_self]
    repeat' split
    all_goals first | rfl | (exfalso; omega)
  · skip
    have d0 : ¬ (x.toInt < 128) := by omega
    have d1 : ¬ (x.toInt < 194) := by omega
    have d2 : ¬ (x.toInt < 224) := by omega
    have d3 : ¬ (x.toInt < 240) := by omega
    have d4 : 244 < x.toInt := by omega
    have d5 : 223 < x.toInt := by omega
    have d6 : 239 < x.toInt := by omega
    have d7 : 192 ≤ x.toInt := by omega
    have d8 : 224 ≤ x.toInt := by omega
    have d9 : 240 ≤ x.toInt := by omega
    have d10 : x.toInt < 248 := by omega
    simp only [d0, d1, d2, d3, d4, d5, d6, d7, d8, d9, d10, if_true, if_false, and_true, true_and, and_false, false_and, and_self]
    repeat' split
    all_goals first | rfl | (exfalso; omega)
  · skip
    have d0 : ¬ (x.toInt < 128) := by omega
    have d1 : ¬ (x.toInt < 194) := by omega
    have d2 : ¬ (x.toInt < 224) := by omega
    have d3 : ¬ (x.toInt < 240) := by omega
    have d4 : 244 < x.toInt := by omega
    have d5 : 223 < x.toInt := by omega
    have d6 : 239 < x.toInt := by omega
    have d7 : 192 ≤ x.toInt := by omega
    have d8 : 224 ≤ x.toInt := by omega
    have d9 : 240 ≤ x.toInt := by omega
    have d10 : ¬ (x.toInt < 248) := by omega
    simp only [d0, d1, d2, d3, d4, d5, d6, d7, d8, d9, d10, if_true, if_false, and_true, true_and, and_false, false_and, and_self]
def own_P (t q : Int32) (r : Int32) : Prop := r = 0 ∨ r = 1 ∨ (r = 2 ∧ ¬ q < t + 2) ∨ (r = 3 ∧ ¬ q < t + 3) ∨ (r = 4 ∧ ¬ q < t + 4)
theorem own_ite {c : Prop} [Decidable c] {a b : Int32} {P : Int32 → Prop} (h1 : c → P a) (h2 : ¬ c → P b) : P (if c then a else b) := by
  by_cases h : c
  · rw [if_pos h]; exact h1 h
  · rw [if_neg h]; exact h2 h
set_option maxHeartbeats 40000000 in
theorem own_seq_bd (f : Nat → Int32) (t q : Int32) (h0 : 0 ≤ t.toInt) (h1 : t.toInt < q.toInt) (h2 : q.toInt ≤ 6) (h : ¬ own_seq f t q = 0) : 1 ≤ (own_seq f t q).toInt ∧ (t + own_seq f t q).toInt = t.toInt + (own_seq f t q).toInt ∧ t.toInt + (own_seq f t q).toInt ≤ q.toInt := by
  have key : own_seq f t q = 0 ∨ own_seq f t q = 1 ∨ (own_seq f t q = 2 ∧ ¬ q < t + 2) ∨ (own_seq f t q = 3 ∧ ¬ q < t + 3) ∨ (own_seq f t q = 4 ∧ ¬ q < t + 4) := by
    show own_P t q (own_seq f t q)
    unfold own_seq
    repeat' (refine own_ite (P := own_P t q) (fun _ => ?_) (fun _ => ?_))
    all_goals first | exact Or.inl rfl | exact Or.inr (Or.inl rfl) | exact Or.inr (Or.inr (Or.inl ⟨rfl, by assumption⟩)) | exact Or.inr (Or.inr (Or.inr (Or.inl ⟨rfl, by assumption⟩))) | exact Or.inr (Or.inr (Or.inr (Or.inr ⟨rfl, by assumption⟩)))
  have c1 := c_iadd t 1
  have c2 := c_iadd t 2
  have c3 := c_iadd t 3
  have c4 := c_iadd t 4
  have k1 : (1 : Int32).toInt = 1 := rfl
  have k2 : (2 : Int32).toInt = 2 := rfl
  have k3 : (3 : Int32).toInt = 3 := rfl
  have k4 : (4 : Int32).toInt = 4 := rfl
  have r1 := rng32 (t + 1)
  have r2 := rng32 (t + 2)
  have r3 := rng32 (t + 3)
  have r4 := rng32 (t + 4)
  simp only [Int32.lt_iff_toInt_lt] at key
  rcases key with e | e | ⟨e, g⟩ | ⟨e, g⟩ | ⟨e, g⟩
  · exact absurd e h
  all_goals rw [e]; omega
def own_ref (f : Nat → Int32) (q : Int32) : Nat → Int32 → Int32
  | 0, _ => -1
  | n + 1, t => if t < q then (if own_seq f t q = 0 then t else own_ref f q n (t + own_seq f t q)) else own_ref f q n t
theorem own_ref_no (f : Nat → Int32) (q : Int32) (n : Nat) (t : Int32) (h : ¬ t < q) : own_ref f q (n + 1) t = own_ref f q n t := by rw [own_ref, if_neg h]
theorem own_ref_stop (f : Nat → Int32) (q : Int32) (n : Nat) (t : Int32) (h : t < q) (h2 : own_seq f t q = 0) : own_ref f q (n + 1) t = t := by rw [own_ref, if_pos h, if_pos h2]
theorem own_ref_go (f : Nat → Int32) (q : Int32) (n : Nat) (t : Int32) (h : t < q) (h2 : ¬ own_seq f t q = 0) : own_ref f q (n + 1) t = own_ref f q n (t + own_seq f t q) := by rw [own_ref, if_pos h, if_neg h2]
theorem own_ref_out (f : Nat → Int32) (q : Int32) (n : Nat) (t : Int32) (h : ¬ t < q) : own_ref f q n t = -1 := by
  induction n with
  | zero => rfl
  | succ n ih => rw [own_ref_no _ _ _ _ h, ih]
theorem pd_oABIIcI : parseMethodDescriptor "([BII)I" = some ⟨[(.array .byte), .int, .int], some .int⟩ := by decide +kernel
theorem d4_0 : decode method_4_code 0 = .ok (.iload_n 1, 1) := by decide +kernel
theorem d4_1 : decode method_4_code 1 = .ok (.istore_n 3, 1) := by decide +kernel
theorem d4_2 : decode method_4_code 2 = .ok (.iload_n 3, 1) := by decide +kernel
theorem d4_3 : decode method_4_code 3 = .ok (.iload_n 2, 1) := by decide +kernel
theorem d4_4 : decode method_4_code 4 = .ok (.if_icmp .ge 23, 3) := by decide +kernel
theorem d4_7 : decode method_4_code 7 = .ok (.aload_n 0, 1) := by decide +kernel
theorem d4_8 : decode method_4_code 8 = .ok (.iload_n 3, 1) := by decide +kernel
theorem d4_9 : decode method_4_code 9 = .ok (.iload_n 2, 1) := by decide +kernel
theorem d4_10 : decode method_4_code 10 = .ok (.invokestatic 32, 3) := by decide +kernel
theorem d4_13 : decode method_4_code 13 = .ok (.istore 4, 2) := by decide +kernel
theorem d4_15 : decode method_4_code 15 = .ok (.iload 4, 2) := by decide +kernel
theorem d4_17 : decode method_4_code 17 = .ok (.ifCond .ne 5, 3) := by decide +kernel
theorem d4_20 : decode method_4_code 20 = .ok (.iload_n 3, 1) := by decide +kernel
theorem d4_21 : decode method_4_code 21 = .ok (.ireturn, 1) := by decide +kernel
theorem d4_22 : decode method_4_code 22 = .ok (.iload_n 3, 1) := by decide +kernel
theorem d4_23 : decode method_4_code 23 = .ok (.iload 4, 2) := by decide +kernel
theorem d4_25 : decode method_4_code 25 = .ok (.iadd, 1) := by decide +kernel
theorem d4_26 : decode method_4_code 26 = .ok (.istore_n 3, 1) := by decide +kernel
theorem d4_27 : decode method_4_code 27 = .ok (.iload_n 3, 1) := by decide +kernel
theorem d4_28 : decode method_4_code 28 = .ok (.iload_n 2, 1) := by decide +kernel
theorem d4_29 : decode method_4_code 29 = .ok (.if_icmp .ge 23, 3) := by decide +kernel
theorem d4_32 : decode method_4_code 32 = .ok (.aload_n 0, 1) := by decide +kernel
theorem d4_33 : decode method_4_code 33 = .ok (.iload_n 3, 1) := by decide +kernel
theorem d4_34 : decode method_4_code 34 = .ok (.iload_n 2, 1) := by decide +kernel
theorem d4_35 : decode method_4_code 35 = .ok (.invokestatic 32, 3) := by decide +kernel
theorem d4_38 : decode method_4_code 38 = .ok (.istore 4, 2) := by decide +kernel
theorem d4_40 : decode method_4_code 40 = .ok (.iload 4, 2) := by decide +kernel
theorem d4_42 : decode method_4_code 42 = .ok (.ifCond .ne 5, 3) := by decide +kernel
theorem d4_45 : decode method_4_code 45 = .ok (.iload_n 3, 1) := by decide +kernel
theorem d4_46 : decode method_4_code 46 = .ok (.ireturn, 1) := by decide +kernel
theorem d4_47 : decode method_4_code 47 = .ok (.iload_n 3, 1) := by decide +kernel
theorem d4_48 : decode method_4_code 48 = .ok (.iload 4, 2) := by decide +kernel
theorem d4_50 : decode method_4_code 50 = .ok (.iadd, 1) := by decide +kernel
theorem d4_51 : decode method_4_code 51 = .ok (.istore_n 3, 1) := by decide +kernel
theorem d4_52 : decode method_4_code 52 = .ok (.iload_n 3, 1) := by decide +kernel
theorem d4_53 : decode method_4_code 53 = .ok (.iload_n 2, 1) := by decide +kernel
theorem d4_54 : decode method_4_code 54 = .ok (.if_icmp .ge 23, 3) := by decide +kernel
theorem d4_57 : decode method_4_code 57 = .ok (.aload_n 0, 1) := by decide +kernel
theorem d4_58 : decode method_4_code 58 = .ok (.iload_n 3, 1) := by decide +kernel
theorem d4_59 : decode method_4_code 59 = .ok (.iload_n 2, 1) := by decide +kernel
theorem d4_60 : decode method_4_code 60 = .ok (.invokestatic 32, 3) := by decide +kernel
theorem d4_63 : decode method_4_code 63 = .ok (.istore 4, 2) := by decide +kernel
theorem d4_65 : decode method_4_code 65 = .ok (.iload 4, 2) := by decide +kernel
theorem d4_67 : decode method_4_code 67 = .ok (.ifCond .ne 5, 3) := by decide +kernel
theorem d4_70 : decode method_4_code 70 = .ok (.iload_n 3, 1) := by decide +kernel
theorem d4_71 : decode method_4_code 71 = .ok (.ireturn, 1) := by decide +kernel
theorem d4_72 : decode method_4_code 72 = .ok (.iload_n 3, 1) := by decide +kernel
theorem d4_73 : decode method_4_code 73 = .ok (.iload 4, 2) := by decide +kernel
theorem d4_75 : decode method_4_code 75 = .ok (.iadd, 1) := by decide +kernel
theorem d4_76 : decode method_4_code 76 = .ok (.istore_n 3, 1) := by decide +kernel
theorem d4_77 : decode method_4_code 77 = .ok (.iload_n 3, 1) := by decide +kernel
theorem d4_78 : decode method_4_code 78 = .ok (.iload_n 2, 1) := by decide +kernel
theorem d4_79 : decode method_4_code 79 = .ok (.if_icmp .ge 23, 3) := by decide +kernel
theorem d4_82 : decode method_4_code 82 = .ok (.aload_n 0, 1) := by decide +kernel
theorem d4_83 : decode method_4_code 83 = .ok (.iload_n 3, 1) := by decide +kernel
theorem d4_84 : decode method_4_code 84 = .ok (.iload_n 2, 1) := by decide +kernel
theorem d4_85 : decode method_4_code 85 = .ok (.invokestatic 32, 3) := by decide +kernel
theorem d4_88 : decode method_4_code 88 = .ok (.istore 4, 2) := by decide +kernel
theorem d4_90 : decode method_4_code 90 = .ok (.iload 4, 2) := by decide +kernel
theorem d4_92 : decode method_4_code 92 = .ok (.ifCond .ne 5, 3) := by decide +kernel
theorem d4_95 : decode method_4_code 95 = .ok (.iload_n 3, 1) := by decide +kernel
theorem d4_96 : decode method_4_code 96 = .ok (.ireturn, 1) := by decide +kernel
theorem d4_97 : decode method_4_code 97 = .ok (.iload_n 3, 1) := by decide +kernel
theorem d4_98 : decode method_4_code 98 = .ok (.iload 4, 2) := by decide +kernel
theorem d4_100 : decode method_4_code 100 = .ok (.iadd, 1) := by decide +kernel
theorem d4_101 : decode method_4_code 101 = .ok (.istore_n 3, 1) := by decide +kernel
theorem d4_102 : decode method_4_code 102 = .ok (.iload_n 3, 1) := by decide +kernel
theorem d4_103 : decode method_4_code 103 = .ok (.iload_n 2, 1) := by decide +kernel
theorem d4_104 : decode method_4_code 104 = .ok (.if_icmp .ge 23, 3) := by decide +kernel
theorem d4_107 : decode method_4_code 107 = .ok (.aload_n 0, 1) := by decide +kernel
theorem d4_108 : decode method_4_code 108 = .ok (.iload_n 3, 1) := by decide +kernel
theorem d4_109 : decode method_4_code 109 = .ok (.iload_n 2, 1) := by decide +kernel
theorem d4_110 : decode method_4_code 110 = .ok (.invokestatic 32, 3) := by decide +kernel
theorem d4_113 : decode method_4_code 113 = .ok (.istore 4, 2) := by decide +kernel
theorem d4_115 : decode method_4_code 115 = .ok (.iload 4, 2) := by decide +kernel
theorem d4_117 : decode method_4_code 117 = .ok (.ifCond .ne 5, 3) := by decide +kernel
theorem d4_120 : decode method_4_code 120 = .ok (.iload_n 3, 1) := by decide +kernel
theorem d4_121 : decode method_4_code 121 = .ok (.ireturn, 1) := by decide +kernel
theorem d4_122 : decode method_4_code 122 = .ok (.iload_n 3, 1) := by decide +kernel
theorem d4_123 : decode method_4_code 123 = .ok (.iload 4, 2) := by decide +kernel
theorem d4_125 : decode method_4_code 125 = .ok (.iadd, 1) := by decide +kernel
theorem d4_126 : decode method_4_code 126 = .ok (.istore_n 3, 1) := by decide +kernel
theorem d4_127 : decode method_4_code 127 = .ok (.iload_n 3, 1) := by decide +kernel
theorem d4_128 : decode method_4_code 128 = .ok (.iload_n 2, 1) := by decide +kernel
theorem d4_129 : decode method_4_code 129 = .ok (.if_icmp .ge 23, 3) := by decide +kernel
theorem d4_132 : decode method_4_code 132 = .ok (.aload_n 0, 1) := by decide +kernel
theorem d4_133 : decode method_4_code 133 = .ok (.iload_n 3, 1) := by decide +kernel
theorem d4_134 : decode method_4_code 134 = .ok (.iload_n 2, 1) := by decide +kernel
theorem d4_135 : decode method_4_code 135 = .ok (.invokestatic 32, 3) := by decide +kernel
theorem d4_138 : decode method_4_code 138 = .ok (.istore 4, 2) := by decide +kernel
theorem d4_140 : decode method_4_code 140 = .ok (.iload 4, 2) := by decide +kernel
theorem d4_142 : decode method_4_code 142 = .ok (.ifCond .ne 5, 3) := by decide +kernel
theorem d4_145 : decode method_4_code 145 = .ok (.iload_n 3, 1) := by decide +kernel
theorem d4_146 : decode method_4_code 146 = .ok (.ireturn, 1) := by decide +kernel
theorem d4_147 : decode method_4_code 147 = .ok (.iload_n 3, 1) := by decide +kernel
theorem d4_148 : decode method_4_code 148 = .ok (.iload 4, 2) := by decide +kernel
theorem d4_150 : decode method_4_code 150 = .ok (.iadd, 1) := by decide +kernel
theorem d4_151 : decode method_4_code 151 = .ok (.istore_n 3, 1) := by decide +kernel
theorem d4_152 : decode method_4_code 152 = .ok (.iconst (-1), 1) := by decide +kernel
theorem d4_153 : decode method_4_code 153 = .ok (.ireturn, 1) := by decide +kernel
theorem pn_4 : plainName "com/example/gatefield/gatefield/model/RecordsNotUtf8PinLaw" = true := by first | (simp [plainName, overriddenIn]; done) | decide +kernel
theorem ef_rm4 (m_ : MethodId) (a : Addr) (p1 : Int32) (p2 : Int32) : entryFrame m_ #[(.ref a), (.int p1), (.int p2)] 5 = mkF m_ 0 #[.val (.ref a), .val (.int p1), .val (.int p2), .unset, .unset] [] := by first | (simp [entryFrame, mkF, argsToLocals, Value.category]; done) | rfl
def Q4 (Z : State) (a : Addr) (p1 : Int32) (p2 : Int32) (cl : Cell) (f : Nat → Int32) (h0 : Heap) (n0 : Nat) (v : Option Value) (h : Heap) (L : List Loc) : Prop := v = some (.int (own_ref f p2 6 p1)) ∧ Fr n0 L ∧ h = h0
set_option maxRecDepth 65536 in
set_option maxHeartbeats 40000000 in
theorem rm4 (l : Launch) (Z : State) (a0 : Array Value) (hw : ∀ d ∈ tables_1, d.before a0 Z = true) (ws : List Jvm.Cond) (a : Addr) (p1 : Int32) (p2 : Int32) (cl : Cell) (f : Nat → Int32) (h0 : Heap) (n0 : Nat) (Z0 : n0 ≤ h0.size) (Ar : Arr Z h0 a cl .byte) (Sz : cl.slots.size = 6) (El : ∀ k, k < 6 → cl.slots[k]? = some (.int (f k))) (hs_ : 0 ≤ p1.toInt) (hse : p1.toInt ≤ p2.toInt) (he : p2.toInt ≤ 6) :
    MetFree l (⟨"com/example/gatefield/gatefield/model/RecordsNotUtf8PinLaw", "ref", "([BII)I"⟩ : MethodName) (head1 (Jvm.Cond.code (⟨"com/example/gatefield/gatefield/model/RecordsNotUtf8PinLaw", "ref", "([BII)I"⟩ : MethodName) method_4_code 5 (some .int) :: ws) ({ frames := 1, cells := 0, slots := 0, locals := 20 } : Room)) (fun a_ U_ => a_ = #[(.ref a), (.int p1), (.int p2)] ∧ Z.Warmed39 U_.vm ∧ U_.heap = h0) (fun _ _ _ _ _ => True) (fun _ U_ o_ V_ => ∃ v_ L_, o_ = .returned v_ ∧ Q4 Z a p1 p2 cl f h0 n0 v_ V_.heap L_ ∧ FrameEnd U_ o_ V_ L_ ({ frames := 1, cells := 0, slots := 0, locals := 20 } : Room).cells ({ frames := 1, cells := 0, slots := 0, locals := 20 } : Room).slots) := by
  refine metOf (Q := Q4 Z a p1 p2 cl f h0 n0) (plainFor_of_name pn_4) ?_
  intro p_ e_ s_ m_ below meth c_ s₁ X0 hx hby hml hret hlk hZ hown hnm e0
  rw [ef_rm4]
  have N0 := Fr.nil n0
  have H0 : own_ref f p2 6 p1 = own_ref f p2 6 p1 ∧ 0 ≤ p1.toInt ∧ p1.toInt ≤ p2.toInt := ⟨rfl, hs_, hse⟩
  show Go p_ e_ below _ _ s₁ (mkF m_ 0 #[.val (.ref a), .val (.int p1), .val (.int p2), .unset, .unset] [])
  refine Go.iloadN X0 hx (hb hby d4_0) rfl ?_
  refine Go.istoreN X0 hx (l' := #[.val (.ref a), .val (.int p1), .val (.int p2), .val (.int p1), .unset]) (hb hby d4_1) rfl ?_
  have j1 : ∀ (T2 : State) (l2 : List Loc) (t1 : Int32) (s1 : Slot), Stand p_ l e_ ({ frames := 1, cells := 0, slots := 0, locals := 20 } : Room) s_ m_ #[(.ref a), (.int p1), (.int p2)] below meth c_ T2 l2 0 0 → Fr n0 l2 → T2.heap = h0 → One s1 → (own_ref f p2 6 p1 = own_ref f p2 5 t1 ∧ 0 ≤ t1.toInt ∧ t1.toInt ≤ p2.toInt) → Go p_ e_ below (FE s_ ({ frames := 1, cells := 0, slots := 0, locals := 20 } : Room).cells ({ frames := 1, cells := 0, slots := 0, locals := 20 } : Room).slots) (Q4 Z a p1 p2 cl f h0 n0) T2 (mkF m_ 27 #[.val (.ref a), .val (.int p1), .val (.int p2), .val (.int t1), s1] []) := by
    intro T2 l2 t1 s1 X2 N2 e2 o_s1 h_j1_0
    have j3 : ∀ (T4 : State) (l4 : List Loc) (t2 : Int32) (s2 : Slot), Stand p_ l e_ ({ frames := 1, cells := 0, slots := 0, locals := 20 } : Room) s_ m_ #[(.ref a), (.int p1), (.int p2)] below meth c_ T4 l4 0 0 → Fr n0 l4 → T4.heap = h0 → One s2 → (own_ref f p2 6 p1 = own_ref f p2 4 t2 ∧ 0 ≤ t2.toInt ∧ t2.toInt ≤ p2.toInt) → Go p_ e_ below (FE s_ ({ frames := 1, cells := 0, slots := 0, locals := 20 } : Room).cells ({ frames := 1, cells := 0, slots := 0, locals := 20 } : Room).slots) (Q4 Z a p1 p2 cl f h0 n0) T4 (mkF m_ 52 #[.val (.ref a), .val (.int p1), .val (.int p2), .val (.int t2), s2] []) := by
      intro T4 l4 t2 s2 X4 N4 e4 o_s2 h_j3_0
      have j5 : ∀ (T6 : State) (l6 : List Loc) (t3 : Int32) (s3 : Slot), Stand p_ l e_ ({ frames := 1, cells := 0, slots := 0, locals := 20 } : Room) s_ m_ #[(.ref a), (.int p1), (.int p2)] below meth c_ T6 l6 0 0 → Fr n0 l6 → T6.heap = h0 → One s3 → (own_ref f p2 6 p1 = own_ref f p2 3 t3 ∧ 0 ≤ t3.toInt ∧ t3.toInt ≤ p2.toInt) → Go p_ e_ below (FE s_ ({ frames := 1, cells := 0, slots := 0, locals := 20 } : Room).cells ({ frames := 1, cells := 0, slots := 0, locals := 20 } : Room).slots) (Q4 Z a p1 p2 cl f h0 n0) T6 (mkF m_ 77 #[.val (.ref a), .val (.int p1), .val (.int p2), .val (.int t3), s3] []) := by
        intro T6 l6 t3 s3 X6 N6 e6 o_s3 h_j5_0
        have j7 : ∀ (T8 : State) (l8 : List Loc) (t4 : Int32) (s4 : Slot), Stand p_ l e_ ({ frames := 1, cells := 0, slots := 0, locals := 20 } : Room) s_ m_ #[(.ref a), (.int p1), (.int p2)] below meth c_ T8 l8 0 0 → Fr n0 l8 → T8.heap = h0 → One s4 → (own_ref f p2 6 p1 = own_ref f p2 2 t4 ∧ 0 ≤ t4.toInt ∧ t4.toInt ≤ p2.toInt) → Go p_ e_ below (FE s_ ({ frames := 1, cells := 0, slots := 0, locals := 20 } : Room).cells ({ frames := 1, cells := 0, slots := 0, locals := 20 } : Room).slots) (Q4 Z a p1 p2 cl f h0 n0) T8 (mkF m_ 102 #[.val (.ref a), .val (.int p1), .val (.int p2), .val (.int t4), s4] []) := by
          intro T8 l8 t4 s4 X8 N8 e8 o_s4 h_j7_0
          have j9 : ∀ (T10 : State) (l10 : List Loc) (t5 : Int32) (s5 : Slot), Stand p_ l e_ ({ frames := 1, cells := 0, slots := 0, locals := 20 } : Room) s_ m_ #[(.ref a), (.int p1), (.int p2)] below meth c_ T10 l10 0 0 → Fr n0 l10 → T10.heap = h0 → One s5 → (own_ref f p2 6 p1 = own_ref f p2 1 t5 ∧ 0 ≤ t5.toInt ∧ t5.toInt ≤ p2.toInt) → Go p_ e_ below (FE s_ ({ frames := 1, cells := 0, slots := 0, locals := 20 } : Room).cells ({ frames := 1, cells := 0, slots := 0, locals := 20 } : Room).slots) (Q4 Z a p1 p2 cl f h0 n0) T10 (mkF m_ 127 #[.val (.ref a), .val (.int p1), .val (.int p2), .val (.int t5), s5] []) := by
            intro T10 l10 t5 s5 X10 N10 e10 o_s5 h_j9_0
            have j11 : ∀ (T12 : State) (l12 : List Loc) (t6 : Int32) (s6 : Slot), Stand p_ l e_ ({ frames := 1, cells := 0, slots := 0, locals := 20 } : Room) s_ m_ #[(.ref a), (.int p1), (.int p2)] below meth c_ T12 l12 0 0 → Fr n0 l12 → T12.heap = h0 → One s6 → (own_ref f p2 6 p1 = own_ref f p2 0 t6 ∧ 0 ≤ t6.toInt ∧ t6.toInt ≤ p2.toInt) → Go p_ e_ below (FE s_ ({ frames := 1, cells := 0, slots := 0, locals := 20 } : Room).cells ({ frames := 1, cells := 0, slots := 0, locals := 20 } : Room).slots) (Q4 Z a p1 p2 cl f h0 n0) T12 (mkF m_ 152 #[.val (.ref a), .val (.int p1), .val (.int p2), .val (.int t6), s6] []) := by
              intro T12 l12 t6 s6 X12 N12 e12 o_s6 h_j11_0
              show Go p_ e_ below _ _ T12 (mkF m_ 152 #[.val (.ref a), .val (.int p1), .val (.int p2), .val (.int t6), s6] [])
              refine Go.iconst X12 hx (-1 : Int32) (hb hby d4_152) rfl ?_
              refine Go.retI X12 hx hret hlk (hb hby d4_153) (by decide) (by decide) ?_
              exact ⟨by rw [h_j11_0.1]; rfl, N12, e12⟩
            show Go p_ e_ below _ _ T10 (mkF m_ 127 #[.val (.ref a), .val (.int p1), .val (.int p2), .val (.int t5), s5] [])
            refine Go.iloadN X10 hx (hb hby d4_127) rfl ?_
            refine Go.iloadN X10 hx (hb hby d4_128) rfl ?_
            by_cases hc129_13 : t5 < p2
            · skip
              refine Go.icmpNo X10 hx (hb hby d4_129) (tlt hc129_13).2.1 ?_
              show Go p_ e_ below _ _ T10 (mkF m_ 132 #[.val (.ref a), .val (.int p1), .val (.int p2), .val (.int t5), s5] [])
              refine Go.aloadN X10 hx (hb hby d4_132) rfl rfl ?_
              refine Go.iloadN X10 hx (hb hby d4_133) rfl ?_
              refine Go.iloadN X10 hx (hb hby d4_134) rfl ?_
              refine Go.callS X10 hx hZ (rm5 l Z a0 hw [] a t5 p2 cl f h0 n0 Z0 Ar Sz El h_j9_0.2.1 (by have := Int32.lt_iff_toInt_lt.mp hc129_13; omega) he) hown (hw _ (List.mem_of_getElem? (i := 17) rfl)) (hw _ (List.mem_of_getElem? (i := 18) rfl)) (hw _ (List.mem_of_getElem? (i := 15) rfl)) (hw _ (List.mem_of_getElem? (i := 19) rfl)) (by decide) e10 (W := 0) (by rw [hml]; rfl) (argsL := [(.ref a), (.int t5), (.int p2)]) (S := []) (Nat.le_of_ble_eq_true rfl) (by decide) (by decide) (by decide) (by decide) pd_oABIIcI rfl rfl (hb hby d4_135) ?_
              rintro _ T14 L14 X14 ⟨rfl, N14q, e14⟩
              have N14 := Fr.app N10 N14q
              show Go p_ e_ below _ _ T14 (mkF m_ 138 #[.val (.ref a), .val (.int p1), .val (.int p2), .val (.int t5), s5] [(.int (own_seq f t5 p2))])
              refine Go.istoreS X14 hx (hb hby d4_138) rfl o_s5 ?_
              refine Go.iload X14 hx (hb hby d4_140) rfl ?_
              by_cases hc142_15 : (own_seq f t5 p2) = (0 : Int32)
              · skip
                refine Go.ifNo X14 hx (hb hby d4_142) ((if0 _ _).trans (teq hc142_15).2) ?_
                show Go p_ e_ below _ _ T14 (mkF m_ 145 #[.val (.ref a), .val (.int p1), .val (.int p2), .val (.int t5), .val (.int (own_seq f t5 p2))] [])
                refine Go.iloadN X14 hx (hb hby d4_145) rfl ?_
                refine Go.retI X14 hx hret hlk (hb hby d4_146) (by decide) (by decide) ?_
                exact ⟨by rw [h_j9_0.1, own_ref_stop _ _ _ _ hc129_13 hc142_15], N14, e14⟩
              · skip
                refine Go.ifYes X14 hx (pc' := 147) (hb hby d4_142) ((if0 _ _).trans (feq hc142_15).2) (by decide) (by decide) ?_
                show Go p_ e_ below _ _ T14 (mkF m_ 147 #[.val (.ref a), .val (.int p1), .val (.int p2), .val (.int t5), .val (.int (own_seq f t5 p2))] [])
                refine Go.iloadN X14 hx (hb hby d4_147) rfl ?_
                refine Go.iload X14 hx (hb hby d4_148) rfl ?_
                refine Go.iadd X14 hx (hb hby d4_150) ?_
                refine Go.istoreN X14 hx (l' := #[.val (.ref a), .val (.int p1), .val (.int p2), .val (.int (t5 + (own_seq f t5 p2))), .val (.int (own_seq f t5 p2))]) (hb hby d4_151) rfl ?_
                show Go p_ e_ below _ _ T14 (mkF m_ 152 #[.val (.ref a), .val (.int p1), .val (.int p2), .val (.int (t5 + (own_seq f t5 p2))), .val (.int (own_seq f t5 p2))] [])
                exact j11 _ _ _ (.val (.int (own_seq f t5 p2))) X14 N14 e14 (One.val rfl) ⟨by rw [h_j9_0.1, own_ref_go _ _ _ _ hc129_13 hc142_15], by have := own_seq_bd _ _ _ h_j9_0.2.1 (Int32.lt_iff_toInt_lt.mp hc129_13) he hc142_15; have := h_j9_0.2; omega, by have := own_seq_bd _ _ _ h_j9_0.2.1 (Int32.lt_iff_toInt_lt.mp hc129_13) he hc142_15; have := h_j9_0.2; omega⟩
            · skip
              refine Go.icmpYes X10 hx (pc' := 152) (hb hby d4_129) (flt hc129_13).2.1 (by decide) (by decide) ?_
              show Go p_ e_ below _ _ T10 (mkF m_ 152 #[.val (.ref a), .val (.int p1), .val (.int p2), .val (.int t5), s5] [])
              exact j11 _ _ _ (s5) X10 N10 e10 o_s5 ⟨by rw [h_j9_0.1, own_ref_no _ _ _ _ hc129_13], h_j9_0.2⟩
          show Go p_ e_ below _ _ T8 (mkF m_ 102 #[.val (.ref a), .val (.int p1), .val (.int p2), .val (.int t4), s4] [])
          refine Go.iloadN X8 hx (hb hby d4_102) rfl ?_
          refine Go.iloadN X8 hx (hb hby d4_103) rfl ?_
          by_cases hc104_16 : t4 < p2
          · skip
            refine Go.icmpNo X8 hx (hb hby d4_104) (tlt hc104_16).2.1 ?_
            show Go p_ e_ below _ _ T8 (mkF m_ 107 #[.val (.ref a), .val (.int p1), .val (.int p2), .val (.int t4), s4] [])
            refine Go.aloadN X8 hx (hb hby d4_107) rfl rfl ?_
            refine Go.iloadN X8 hx (hb hby d4_108) rfl ?_
            refine Go.iloadN X8 hx (hb hby d4_109) rfl ?_
            refine Go.callS X8 hx hZ (rm5 l Z a0 hw [] a t4 p2 cl f h0 n0 Z0 Ar Sz El h_j7_0.2.1 (by have := Int32.lt_iff_toInt_lt.mp hc104_16; omega) he) hown (hw _ (List.mem_of_getElem? (i := 17) rfl)) (hw _ (List.mem_of_getElem? (i := 18) rfl)) (hw _ (List.mem_of_getElem? (i := 15) rfl)) (hw _ (List.mem_of_getElem? (i := 19) rfl)) (by decide) e8 (W := 0) (by rw [hml]; rfl) (argsL := [(.ref a), (.int t4), (.int p2)]) (S := []) (Nat.le_of_ble_eq_true rfl) (by decide) (by decide) (by decide) (by decide) pd_oABIIcI rfl rfl (hb hby d4_110) ?_
            rintro _ T17 L17 X17 ⟨rfl, N17q, e17⟩
            have N17 := Fr.app N8 N17q
            show Go p_ e_ below _ _ T17 (mkF m_ 113 #[.val (.ref a), .val (.int p1), .val (.int p2), .val (.int t4), s4] [(.int (own_seq f t4 p2))])
            refine Go.istoreS X17 hx (hb hby d4_113) rfl o_s4 ?_
            refine Go.iload X17 hx (hb hby d4_115) rfl ?_
            by_cases hc117_18 : (own_seq f t4 p2) = (0 : Int32)
            · skip
              refine Go.ifNo X17 hx (hb hby d4_117) ((if0 _ _).trans (teq hc117_18).2) ?_
              show Go p_ e_ below _ _ T17 (mkF m_ 120 #[.val (.ref a), .val (.int p1), .val (.int p2), .val (.int t4), .val (.int (own_seq f t4 p2))] [])
              refine Go.iloadN X17 hx (hb hby d4_120) rfl ?_
              refine Go.retI X17 hx hret hlk (hb hby d4_121) (by decide) (by decide) ?_
              exact ⟨by rw [h_j7_0.1, own_ref_stop _ _ _ _ hc104_16 hc117_18], N17, e17⟩
            · skip
              refine Go.ifYes X17 hx (pc' := 122) (hb hby d4_117) ((if0 _ _).trans (feq hc117_18).2) (by decide) (by decide) ?_
              show Go p_ e_ below _ _ T17 (mkF m_ 122 #[.val (.ref a), .val (.int p1), .val (.int p2), .val (.int t4), .val (.int (own_seq f t4 p2))] [])
              refine Go.iloadN X17 hx (hb hby d4_122) rfl ?_
              refine Go.iload X17 hx (hb hby d4_123) rfl ?_
              refine Go.iadd X17 hx (hb hby d4_125) ?_
              refine Go.istoreN X17 hx (l' := #[.val (.ref a), .val (.int p1), .val (.int p2), .val (.int (t4 + (own_seq f t4 p2))), .val (.int (own_seq f t4 p2))]) (hb hby d4_126) rfl ?_
              show Go p_ e_ below _ _ T17 (mkF m_ 127 #[.val (.ref a), .val (.int p1), .val (.int p2), .val (.int (t4 + (own_seq f t4 p2))), .val (.int (own_seq f t4 p2))] [])
              exact j9 _ _ _ (.val (.int (own_seq f t4 p2))) X17 N17 e17 (One.val rfl) ⟨by rw [h_j7_0.1, own_ref_go _ _ _ _ hc104_16 hc117_18], by have := own_seq_bd _ _ _ h_j7_0.2.1 (Int32.lt_iff_toInt_lt.mp hc104_16) he hc117_18; have := h_j7_0.2; omega, by have := own_seq_bd _ _ _ h_j7_0.2.1 (Int32.lt_iff_toInt_lt.mp hc104_16) he hc117_18; have := h_j7_0.2; omega⟩
          · skip
            refine Go.icmpYes X8 hx (pc' := 127) (hb hby d4_104) (flt hc104_16).2.1 (by decide) (by decide) ?_
            show Go p_ e_ below _ _ T8 (mkF m_ 127 #[.val (.ref a), .val (.int p1), .val (.int p2), .val (.int t4), s4] [])
            exact j9 _ _ _ (s4) X8 N8 e8 o_s4 ⟨by rw [h_j7_0.1, own_ref_no _ _ _ _ hc104_16], h_j7_0.2⟩
        show Go p_ e_ below _ _ T6 (mkF m_ 77 #[.val (.ref a), .val (.int p1), .val (.int p2), .val (.int t3), s3] [])
        refine Go.iloadN X6 hx (hb hby d4_77) rfl ?_
        refine Go.iloadN X6 hx (hb hby d4_78) rfl ?_
        by_cases hc79_19 : t3 < p2
        · skip
          refine Go.icmpNo X6 hx (hb hby d4_79) (tlt hc79_19).2.1 ?_
          show Go p_ e_ below _ _ T6 (mkF m_ 82 #[.val (.ref a), .val (.int p1), .val (.int p2), .val (.int t3), s3] [])
          refine Go.aloadN X6 hx (hb hby d4_82) rfl rfl ?_
          refine Go.iloadN X6 hx (hb hby d4_83) rfl ?_
          refine Go.iloadN X6 hx (hb hby d4_84) rfl ?_
          refine Go.callS X6 hx hZ (rm5 l Z a0 hw [] a t3 p2 cl f h0 n0 Z0 Ar Sz El h_j5_0.2.1 (by have := Int32.lt_iff_toInt_lt.mp hc79_19; omega) he) hown (hw _ (List.mem_of_getElem? (i := 17) rfl)) (hw _ (List.mem_of_getElem? (i := 18) rfl)) (hw _ (List.mem_of_getElem? (i := 15) rfl)) (hw _ (List.mem_of_getElem? (i := 19) rfl)) (by decide) e6 (W := 0) (by rw [hml]; rfl) (argsL := [(.ref a), (.int t3), (.int p2)]) (S := []) (Nat.le_of_ble_eq_true rfl) (by decide) (by decide) (by decide) (by decide) pd_oABIIcI rfl rfl (hb hby d4_85) ?_
          rintro _ T20 L20 X20 ⟨rfl, N20q, e20⟩
          have N20 := Fr.app N6 N20q
          show Go p_ e_ below _ _ T20 (mkF m_ 88 #[.val (.ref a), .val (.int p1), .val (.int p2), .val (.int t3), s3] [(.int (own_seq f t3 p2))])
          refine Go.istoreS X20 hx (hb hby d4_88) rfl o_s3 ?_
          refine Go.iload X20 hx (hb hby d4_90) rfl ?_
          by_cases hc92_21 : (own_seq f t3 p2) = (0 : Int32)
          · skip
            refine Go.ifNo X20 hx (hb hby d4_92) ((if0 _ _).trans (teq hc92_21).2) ?_
            show Go p_ e_ below _ _ T20 (mkF m_ 95 #[.val (.ref a), .val (.int p1), .val (.int p2), .val (.int t3), .val (.int (own_seq f t3 p2))] [])
            refine Go.iloadN X20 hx (hb hby d4_95) rfl ?_
            refine Go.retI X20 hx hret hlk (hb hby d4_96) (by decide) (by decide) ?_
            exact ⟨by rw [h_j5_0.1, own_ref_stop _ _ _ _ hc79_19 hc92_21], N20, e20⟩
          · skip
            refine Go.ifYes X20 hx (pc' := 97) (hb hby d4_92) ((if0 _ _).trans (feq hc92_21).2) (by decide) (by decide) ?_
            show Go p_ e_ below _ _ T20 (mkF m_ 97 #[.val (.ref a), .val (.int p1), .val (.int p2), .val (.int t3), .val (.int (own_seq f t3 p2))] [])
            refine Go.iloadN X20 hx (hb hby d4_97) rfl ?_
            refine Go.iload X20 hx (hb hby d4_98) rfl ?_
            refine Go.iadd X20 hx (hb hby d4_100) ?_
            refine Go.istoreN X20 hx (l' := #[.val (.ref a), .val (.int p1), .val (.int p2), .val (.int (t3 + (own_seq f t3 p2))), .val (.int (own_seq f t3 p2))]) (hb hby d4_101) rfl ?_
            show Go p_ e_ below _ _ T20 (mkF m_ 102 #[.val (.ref a), .val (.int p1), .val (.int p2), .val (.int (t3 + (own_seq f t3 p2))), .val (.int (own_seq f t3 p2))] [])
            exact j7 _ _ _ (.val (.int (own_seq f t3 p2))) X20 N20 e20 (One.val rfl) ⟨by rw [h_j5_0.1, own_ref_go _ _ _ _ hc79_19 hc92_21], by have := own_seq_bd _ _ _ h_j5_0.2.1 (Int32.lt_iff_toInt_lt.mp hc79_19) he hc92_21; have := h_j5_0.2; omega, by have := own_seq_bd _ _ _ h_j5_0.2.1 (Int32.lt_iff_toInt_lt.mp hc79_19) he hc92_21; have := h_j5_0.2; omega⟩
        · skip
          refine Go.icmpYes X6 hx (pc' := 102) (hb hby d4_79) (flt hc79_19).2.1 (by decide) (by decide) ?_
          show Go p_ e_ below _ _ T6 (mkF m_ 102 #[.val (.ref a), .val (.int p1), .val (.int p2), .val (.int t3), s3] [])
          exact j7 _ _ _ (s3) X6 N6 e6 o_s3 ⟨by rw [h_j5_0.1, own_ref_no _ _ _ _ hc79_19], h_j5_0.2⟩
      show Go p_ e_ below _ _ T4 (mkF m_ 52 #[.val (.ref a), .val (.int p1), .val (.int p2), .val (.int t2), s2] [])
      refine Go.iloadN X4 hx (hb hby d4_52) rfl ?_
      refine Go.iloadN X4 hx (hb hby d4_53) rfl ?_
      by_cases hc54_22 : t2 < p2
      · skip
        refine Go.icmpNo X4 hx (hb hby d4_54) (tlt hc54_22).2.1 ?_
        show Go p_ e_ below _ _ T4 (mkF m_ 57 #[.val (.ref a), .val (.int p1), .val (.int p2), .val (.int t2), s2] [])
        refine Go.aloadN X4 hx (hb hby d4_57) rfl rfl ?_
        refine Go.iloadN X4 hx (hb hby d4_58) rfl ?_
        refine Go.iloadN X4 hx (hb hby d4_59) rfl ?_
        refine Go.callS X4 hx hZ (rm5 l Z a0 hw [] a t2 p2 cl f h0 n0 Z0 Ar Sz El h_j3_0.2.1 (by have := Int32.lt_iff_toInt_lt.mp hc54_22; omega) he) hown (hw _ (List.mem_of_getElem? (i := 17) rfl)) (hw _ (List.mem_of_getElem? (i := 18) rfl)) (hw _ (List.mem_of_getElem? (i := 15) rfl)) (hw _ (List.mem_of_getElem? (i := 19) rfl)) (by decide) e4 (W := 0) (by rw [hml]; rfl) (argsL := [(.ref a), (.int t2), (.int p2)]) (S := []) (Nat.le_of_ble_eq_true rfl) (by decide) (by decide) (by decide) (by decide) pd_oABIIcI rfl rfl (hb hby d4_60) ?_
        rintro _ T23 L23 X23 ⟨rfl, N23q, e23⟩
        have N23 := Fr.app N4 N23q
        show Go p_ e_ below _ _ T23 (mkF m_ 63 #[.val (.ref a), .val (.int p1), .val (.int p2), .val (.int t2), s2] [(.int (own_seq f t2 p2))])
        refine Go.istoreS X23 hx (hb hby d4_63) rfl o_s2 ?_
        refine Go.iload X23 hx (hb hby d4_65) rfl ?_
        by_cases hc67_24 : (own_seq f t2 p2) = (0 : Int32)
        · skip
          refine Go.ifNo X23 hx (hb hby d4_67) ((if0 _ _).trans (teq hc67_24).2) ?_
          show Go p_ e_ below _ _ T23 (mkF m_ 70 #[.val (.ref a), .val (.int p1), .val (.int p2), .val (.int t2), .val (.int (own_seq f t2 p2))] [])
          refine Go.iloadN X23 hx (hb hby d4_70) rfl ?_
          refine Go.retI X23 hx hret hlk (hb hby d4_71) (by decide) (by decide) ?_
          exact ⟨by rw [h_j3_0.1, own_ref_stop _ _ _ _ hc54_22 hc67_24], N23, e23⟩
        · skip
          refine Go.ifYes X23 hx (pc' := 72) (hb hby d4_67) ((if0 _ _).trans (feq hc67_24).2) (by decide) (by decide) ?_
          show Go p_ e_ below _ _ T23 (mkF m_ 72 #[.val (.ref a), .val (.int p1), .val (.int p2), .val (.int t2), .val (.int (own_seq f t2 p2))] [])
          refine Go.iloadN X23 hx (hb hby d4_72) rfl ?_
          refine Go.iload X23 hx (hb hby d4_73) rfl ?_
          refine Go.iadd X23 hx (hb hby d4_75) ?_
          refine Go.istoreN X23 hx (l' := #[.val (.ref a), .val (.int p1), .val (.int p2), .val (.int (t2 + (own_seq f t2 p2))), .val (.int (own_seq f t2 p2))]) (hb hby d4_76) rfl ?_
          show Go p_ e_ below _ _ T23 (mkF m_ 77 #[.val (.ref a), .val (.int p1), .val (.int p2), .val (.int (t2 + (own_seq f t2 p2))), .val (.int (own_seq f t2 p2))] [])
          exact j5 _ _ _ (.val (.int (own_seq f t2 p2))) X23 N23 e23 (One.val rfl) ⟨by rw [h_j3_0.1, own_ref_go _ _ _ _ hc54_22 hc67_24], by have := own_seq_bd _ _ _ h_j3_0.2.1 (Int32.lt_iff_toInt_lt.mp hc54_22) he hc67_24; have := h_j3_0.2; omega, by have := own_seq_bd _ _ _ h_j3_0.2.1 (Int32.lt_iff_toInt_lt.mp hc54_22) he hc67_24; have := h_j3_0.2; omega⟩
      · skip
        refine Go.icmpYes X4 hx (pc' := 77) (hb hby d4_54) (flt hc54_22).2.1 (by decide) (by decide) ?_
        show Go p_ e_ below _ _ T4 (mkF m_ 77 #[.val (.ref a), .val (.int p1), .val (.int p2), .val (.int t2), s2] [])
        exact j5 _ _ _ (s2) X4 N4 e4 o_s2 ⟨by rw [h_j3_0.1, own_ref_no _ _ _ _ hc54_22], h_j3_0.2⟩
    show Go p_ e_ below _ _ T2 (mkF m_ 27 #[.val (.ref a), .val (.int p1), .val (.int p2), .val (.int t1), s1] [])
    refine Go.iloadN X2 hx (hb hby d4_27) rfl ?_
    refine Go.iloadN X2 hx (hb hby d4_28) rfl ?_
    by_cases hc29_25 : t1 < p2
    · skip
      refine Go.icmpNo X2 hx (hb hby d4_29) (tlt hc29_25).2.1 ?_
      show Go p_ e_ below _ _ T2 (mkF m_ 32 #[.val (.ref a), .val (.int p1), .val (.int p2), .val (.int t1), s1] [])
      refine Go.aloadN X2 hx (hb hby d4_32) rfl rfl ?_
      refine Go.iloadN X2 hx (hb hby d4_33) rfl ?_
      refine Go.iloadN X2 hx (hb hby d4_34) rfl ?_
      refine Go.callS X2 hx hZ (rm5 l Z a0 hw [] a t1 p2 cl f h0 n0 Z0 Ar Sz El h_j1_0.2.1 (by have := Int32.lt_iff_toInt_lt.mp hc29_25; omega) he) hown (hw _ (List.mem_of_getElem? (i := 17) rfl)) (hw _ (List.mem_of_getElem? (i := 18) rfl)) (hw _ (List.mem_of_getElem? (i := 15) rfl)) (hw _ (List.mem_of_getElem? (i := 19) rfl)) (by decide) e2 (W := 0) (by rw [hml]; rfl) (argsL := [(.ref a), (.int t1), (.int p2)]) (S := []) (Nat.le_of_ble_eq_true rfl) (by decide) (by decide) (by decide) (by decide) pd_oABIIcI rfl rfl (hb hby d4_35) ?_
      rintro _ T26 L26 X26 ⟨rfl, N26q, e26⟩
      have N26 := Fr.app N2 N26q
      show Go p_ e_ below _ _ T26 (mkF m_ 38 #[.val (.ref a), .val (.int p1), .val (.int p2), .val (.int t1), s1] [(.int (own_seq f t1 p2))])
      refine Go.istoreS X26 hx (hb hby d4_38) rfl o_s1 ?_
      refine Go.iload X26 hx (hb hby d4_40) rfl ?_
      by_cases hc42_27 : (own_seq f t1 p2) = (0 : Int32)
      · skip
        refine Go.ifNo X26 hx (hb hby d4_42) ((if0 _ _).trans (teq hc42_27).2) ?_
        show Go p_ e_ below _ _ T26 (mkF m_ 45 #[.val (.ref a), .val (.int p1), .val (.int p2), .val (.int t1), .val (.int (own_seq f t1 p2))] [])
        refine Go.iloadN X26 hx (hb hby d4_45) rfl ?_
        refine Go.retI X26 hx hret hlk (hb hby d4_46) (by decide) (by decide) ?_
        exact ⟨by rw [h_j1_0.1, own_ref_stop _ _ _ _ hc29_25 hc42_27], N26, e26⟩
      · skip
        refine Go.ifYes X26 hx (pc' := 47) (hb hby d4_42) ((if0 _ _).trans (feq hc42_27).2) (by decide) (by decide) ?_
        show Go p_ e_ below _ _ T26 (mkF m_ 47 #[.val (.ref a), .val (.int p1), .val (.int p2), .val (.int t1), .val (.int (own_seq f t1 p2))] [])
        refine Go.iloadN X26 hx (hb hby d4_47) rfl ?_
        refine Go.iload X26 hx (hb hby d4_48) rfl ?_
        refine Go.iadd X26 hx (hb hby d4_50) ?_
        refine Go.istoreN X26 hx (l' := #[.val (.ref a), .val (.int p1), .val (.int p2), .val (.int (t1 + (own_seq f t1 p2))), .val (.int (own_seq f t1 p2))]) (hb hby d4_51) rfl ?_
        show Go p_ e_ below _ _ T26 (mkF m_ 52 #[.val (.ref a), .val (.int p1), .val (.int p2), .val (.int (t1 + (own_seq f t1 p2))), .val (.int (own_seq f t1 p2))] [])
        exact j3 _ _ _ (.val (.int (own_seq f t1 p2))) X26 N26 e26 (One.val rfl) ⟨by rw [h_j1_0.1, own_ref_go _ _ _ _ hc29_25 hc42_27], by have := own_seq_bd _ _ _ h_j1_0.2.1 (Int32.lt_iff_toInt_lt.mp hc29_25) he hc42_27; have := h_j1_0.2; omega, by have := own_seq_bd _ _ _ h_j1_0.2.1 (Int32.lt_iff_toInt_lt.mp hc29_25) he hc42_27; have := h_j1_0.2; omega⟩
    · skip
      refine Go.icmpYes X2 hx (pc' := 52) (hb hby d4_29) (flt hc29_25).2.1 (by decide) (by decide) ?_
      show Go p_ e_ below _ _ T2 (mkF m_ 52 #[.val (.ref a), .val (.int p1), .val (.int p2), .val (.int t1), s1] [])
      exact j3 _ _ _ (s1) X2 N2 e2 o_s1 ⟨by rw [h_j1_0.1, own_ref_no _ _ _ _ hc29_25], h_j1_0.2⟩
  refine Go.iloadN X0 hx (hb hby d4_2) rfl ?_
  refine Go.iloadN X0 hx (hb hby d4_3) rfl ?_
  by_cases hc4_28 : p1 < p2
  · skip
    refine Go.icmpNo X0 hx (hb hby d4_4) (tlt hc4_28).2.1 ?_
    show Go p_ e_ below _ _ s₁ (mkF m_ 7 #[.val (.ref a), .val (.int p1), .val (.int p2), .val (.int p1), .unset] [])
    refine Go.aloadN X0 hx (hb hby d4_7) rfl rfl ?_
    refine Go.iloadN X0 hx (hb hby d4_8) rfl ?_
    refine Go.iloadN X0 hx (hb hby d4_9) rfl ?_
    refine Go.callS X0 hx hZ (rm5 l Z a0 hw [] a p1 p2 cl f h0 n0 Z0 Ar Sz El H0.2.1 (by have := Int32.lt_iff_toInt_lt.mp hc4_28; omega) he) hown (hw _ (List.mem_of_getElem? (i := 17) rfl)) (hw _ (List.mem_of_getElem? (i := 18) rfl)) (hw _ (List.mem_of_getElem? (i := 15) rfl)) (hw _ (List.mem_of_getElem? (i := 19) rfl)) (by decide) e0 (W := 0) (by rw [hml]; rfl) (argsL := [(.ref a), (.int p1), (.int p2)]) (S := []) (Nat.le_of_ble_eq_true rfl) (by decide) (by decide) (by decide) (by decide) pd_oABIIcI rfl rfl (hb hby d4_10) ?_
    rintro _ T29 L29 X29 ⟨rfl, N29q, e29⟩
    have N29 := Fr.app N0 N29q
    show Go p_ e_ below _ _ T29 (mkF m_ 13 #[.val (.ref a), .val (.int p1), .val (.int p2), .val (.int p1), .unset] [(.int (own_seq f p1 p2))])
    refine Go.istore X29 hx (l' := #[.val (.ref a), .val (.int p1), .val (.int p2), .val (.int p1), .val (.int (own_seq f p1 p2))]) (hb hby d4_13) rfl ?_
    refine Go.iload X29 hx (hb hby d4_15) rfl ?_
    by_cases hc17_30 : (own_seq f p1 p2) = (0 : Int32)
    · skip
      refine Go.ifNo X29 hx (hb hby d4_17) ((if0 _ _).trans (teq hc17_30).2) ?_
      show Go p_ e_ below _ _ T29 (mkF m_ 20 #[.val (.ref a), .val (.int p1), .val (.int p2), .val (.int p1), .val (.int (own_seq f p1 p2))] [])
      refine Go.iloadN X29 hx (hb hby d4_20) rfl ?_
      refine Go.retI X29 hx hret hlk (hb hby d4_21) (by decide) (by decide) ?_
      exact ⟨by rw [H0.1, own_ref_stop _ _ _ _ hc4_28 hc17_30], N29, e29⟩
    · skip
      refine Go.ifYes X29 hx (pc' := 22) (hb hby d4_17) ((if0 _ _).trans (feq hc17_30).2) (by decide) (by decide) ?_
      show Go p_ e_ below _ _ T29 (mkF m_ 22 #[.val (.ref a), .val (.int p1), .val (.int p2), .val (.int p1), .val (.int (own_seq f p1 p2))] [])
      refine Go.iloadN X29 hx (hb hby d4_22) rfl ?_
      refine Go.iload X29 hx (hb hby d4_23) rfl ?_
      refine Go.iadd X29 hx (hb hby d4_25) ?_
      refine Go.istoreN X29 hx (l' := #[.val (.ref a), .val (.int p1), .val (.int p2), .val (.int (p1 + (own_seq f p1 p2))), .val (.int (own_seq f p1 p2))]) (hb hby d4_26) rfl ?_
      show Go p_ e_ below _ _ T29 (mkF m_ 27 #[.val (.ref a), .val (.int p1), .val (.int p2), .val (.int (p1 + (own_seq f p1 p2))), .val (.int (own_seq f p1 p2))] [])
      exact j1 _ _ _ (.val (.int (own_seq f p1 p2))) X29 N29 e29 (One.val rfl) ⟨by rw [H0.1, own_ref_go _ _ _ _ hc4_28 hc17_30], by have := own_seq_bd _ _ _ H0.2.1 (Int32.lt_iff_toInt_lt.mp hc4_28) he hc17_30; have := H0.2; omega, by have := own_seq_bd _ _ _ H0.2.1 (Int32.lt_iff_toInt_lt.mp hc4_28) he hc17_30; have := H0.2; omega⟩
  · skip
    refine Go.icmpYes X0 hx (pc' := 27) (hb hby d4_4) (flt hc4_28).2.1 (by decide) (by decide) ?_
    show Go p_ e_ below _ _ s₁ (mkF m_ 27 #[.val (.ref a), .val (.int p1), .val (.int p2), .val (.int p1), .unset] [])
    exact j1 _ _ _ (.unset) X0 N0 e0 One.u ⟨by rw [H0.1, own_ref_no _ _ _ _ hc4_28], H0.2⟩
theorem d3_0 : decode prog_55_method_26_code 0 = .ok (.iload_n 1, 1) := by decide +kernel
theorem d3_1 : decode prog_55_method_26_code 1 = .ok (.istore_n 3, 1) := by decide +kernel
theorem d3_2 : decode prog_55_method_26_code 2 = .ok (.iload_n 3, 1) := by decide +kernel
theorem d3_3 : decode prog_55_method_26_code 3 = .ok (.iload_n 2, 1) := by decide +kernel
theorem d3_4 : decode prog_55_method_26_code 4 = .ok (.if_icmp .ge 235, 3) := by decide +kernel
theorem d3_7 : decode prog_55_method_26_code 7 = .ok (.aload_n 0, 1) := by decide +kernel
theorem d3_8 : decode prog_55_method_26_code 8 = .ok (.iload_n 3, 1) := by decide +kernel
theorem d3_9 : decode prog_55_method_26_code 9 = .ok (.baload, 1) := by decide +kernel
theorem d3_10 : decode prog_55_method_26_code 10 = .ok (.sipush 255, 3) := by decide +kernel
theorem d3_13 : decode prog_55_method_26_code 13 = .ok (.iand, 1) := by decide +kernel
theorem d3_14 : decode prog_55_method_26_code 14 = .ok (.istore 4, 2) := by decide +kernel
theorem d3_16 : decode prog_55_method_26_code 16 = .ok (.iload 4, 2) := by decide +kernel
theorem d3_18 : decode prog_55_method_26_code 18 = .ok (.sipush 128, 3) := by decide +kernel
theorem d3_21 : decode prog_55_method_26_code 21 = .ok (.if_icmp .ge 9, 3) := by decide +kernel
theorem d3_24 : decode prog_55_method_26_code 24 = .ok (.iinc 3 1, 3) := by decide +kernel
theorem d3_27 : decode prog_55_method_26_code 27 = .ok (.goto (-25), 3) := by decide +kernel
theorem d3_30 : decode prog_55_method_26_code 30 = .ok (.sipush 128, 3) := by decide +kernel
theorem d3_33 : decode prog_55_method_26_code 33 = .ok (.istore 6, 2) := by decide +kernel
theorem d3_35 : decode prog_55_method_26_code 35 = .ok (.sipush 191, 3) := by decide +kernel
theorem d3_38 : decode prog_55_method_26_code 38 = .ok (.istore 7, 2) := by decide +kernel
theorem d3_40 : decode prog_55_method_26_code 40 = .ok (.iload 4, 2) := by decide +kernel
theorem d3_42 : decode prog_55_method_26_code 42 = .ok (.sipush 194, 3) := by decide +kernel
theorem d3_45 : decode prog_55_method_26_code 45 = .ok (.if_icmp .lt 17, 3) := by decide +kernel
theorem d3_48 : decode prog_55_method_26_code 48 = .ok (.iload 4, 2) := by decide +kernel
theorem d3_50 : decode prog_55_method_26_code 50 = .ok (.sipush 223, 3) := by decide +kernel
theorem d3_53 : decode prog_55_method_26_code 53 = .ok (.if_icmp .gt 9, 3) := by decide +kernel
theorem d3_56 : decode prog_55_method_26_code 56 = .ok (.iconst 2, 1) := by decide +kernel
theorem d3_57 : decode prog_55_method_26_code 57 = .ok (.istore 5, 2) := by decide +kernel
theorem d3_59 : decode prog_55_method_26_code 59 = .ok (.goto 101, 3) := by decide +kernel
theorem d3_62 : decode prog_55_method_26_code 62 = .ok (.iload 4, 2) := by decide +kernel
theorem d3_64 : decode prog_55_method_26_code 64 = .ok (.sipush 224, 3) := by decide +kernel
theorem d3_67 : decode prog_55_method_26_code 67 = .ok (.if_icmp .lt 43, 3) := by decide +kernel
theorem d3_70 : decode prog_55_method_26_code 70 = .ok (.iload 4, 2) := by decide +kernel
theorem d3_72 : decode prog_55_method_26_code 72 = .ok (.sipush 239, 3) := by decide +kernel
theorem d3_75 : decode prog_55_method_26_code 75 = .ok (.if_icmp .gt 35, 3) := by decide +kernel
theorem d3_78 : decode prog_55_method_26_code 78 = .ok (.iconst 3, 1) := by decide +kernel
theorem d3_79 : decode prog_55_method_26_code 79 = .ok (.istore 5, 2) := by decide +kernel
theorem d3_81 : decode prog_55_method_26_code 81 = .ok (.iload 4, 2) := by decide +kernel
theorem d3_83 : decode prog_55_method_26_code 83 = .ok (.sipush 224, 3) := by decide +kernel
theorem d3_86 : decode prog_55_method_26_code 86 = .ok (.if_icmp .ne 8, 3) := by decide +kernel
theorem d3_89 : decode prog_55_method_26_code 89 = .ok (.sipush 160, 3) := by decide +kernel
theorem d3_92 : decode prog_55_method_26_code 92 = .ok (.istore 6, 2) := by decide +kernel
theorem d3_94 : decode prog_55_method_26_code 94 = .ok (.iload 4, 2) := by decide +kernel
theorem d3_96 : decode prog_55_method_26_code 96 = .ok (.sipush 237, 3) := by decide +kernel
theorem d3_99 : decode prog_55_method_26_code 99 = .ok (.if_icmp .ne 61, 3) := by decide +kernel
theorem d3_102 : decode prog_55_method_26_code 102 = .ok (.sipush 159, 3) := by decide +kernel
theorem d3_105 : decode prog_55_method_26_code 105 = .ok (.istore 7, 2) := by decide +kernel
theorem d3_107 : decode prog_55_method_26_code 107 = .ok (.goto 53, 3) := by decide +kernel
theorem d3_110 : decode prog_55_method_26_code 110 = .ok (.iload 4, 2) := by decide +kernel
theorem d3_112 : decode prog_55_method_26_code 112 = .ok (.sipush 240, 3) := by decide +kernel
theorem d3_115 : decode prog_55_method_26_code 115 = .ok (.if_icmp .lt 43, 3) := by decide +kernel
theorem d3_118 : decode prog_55_method_26_code 118 = .ok (.iload 4, 2) := by decide +kernel
theorem d3_120 : decode prog_55_method_26_code 120 = .ok (.sipush 244, 3) := by decide +kernel
theorem d3_123 : decode prog_55_method_26_code 123 = .ok (.if_icmp .gt 35, 3) := by decide +kernel
theorem d3_126 : decode prog_55_method_26_code 126 = .ok (.iconst 4, 1) := by decide +kernel
theorem d3_127 : decode prog_55_method_26_code 127 = .ok (.istore 5, 2) := by decide +kernel
theorem d3_129 : decode prog_55_method_26_code 129 = .ok (.iload 4, 2) := by decide +kernel
theorem d3_131 : decode prog_55_method_26_code 131 = .ok (.sipush 240, 3) := by decide +kernel
theorem d3_134 : decode prog_55_method_26_code 134 = .ok (.if_icmp .ne 8, 3) := by decide +kernel
theorem d3_137 : decode prog_55_method_26_code 137 = .ok (.sipush 144, 3) := by decide +kernel
theorem d3_140 : decode prog_55_method_26_code 140 = .ok (.istore 6, 2) := by decide +kernel
theorem d3_142 : decode prog_55_method_26_code 142 = .ok (.iload 4, 2) := by decide +kernel
theorem d3_144 : decode prog_55_method_26_code 144 = .ok (.sipush 244, 3) := by decide +kernel
theorem d3_147 : decode prog_55_method_26_code 147 = .ok (.if_icmp .ne 13, 3) := by decide +kernel
theorem d3_150 : decode prog_55_method_26_code 150 = .ok (.sipush 143, 3) := by decide +kernel
theorem d3_153 : decode prog_55_method_26_code 153 = .ok (.istore 7, 2) := by decide +kernel
theorem d3_155 : decode prog_55_method_26_code 155 = .ok (.goto 5, 3) := by decide +kernel
theorem d3_158 : decode prog_55_method_26_code 158 = .ok (.iload_n 3, 1) := by decide +kernel
theorem d3_159 : decode prog_55_method_26_code 159 = .ok (.ireturn, 1) := by decide +kernel
theorem d3_160 : decode prog_55_method_26_code 160 = .ok (.iload_n 3, 1) := by decide +kernel
theorem d3_161 : decode prog_55_method_26_code 161 = .ok (.iload 5, 2) := by decide +kernel
theorem d3_163 : decode prog_55_method_26_code 163 = .ok (.iadd, 1) := by decide +kernel
theorem d3_164 : decode prog_55_method_26_code 164 = .ok (.iload_n 2, 1) := by decide +kernel
theorem d3_165 : decode prog_55_method_26_code 165 = .ok (.if_icmp .le 5, 3) := by decide +kernel
theorem d3_168 : decode prog_55_method_26_code 168 = .ok (.iload_n 3, 1) := by decide +kernel
theorem d3_169 : decode prog_55_method_26_code 169 = .ok (.ireturn, 1) := by decide +kernel
theorem d3_170 : decode prog_55_method_26_code 170 = .ok (.aload_n 0, 1) := by decide +kernel
theorem d3_171 : decode prog_55_method_26_code 171 = .ok (.iload_n 3, 1) := by decide +kernel
theorem d3_172 : decode prog_55_method_26_code 172 = .ok (.iconst 1, 1) := by decide +kernel
theorem d3_173 : decode prog_55_method_26_code 173 = .ok (.iadd, 1) := by decide +kernel
theorem d3_174 : decode prog_55_method_26_code 174 = .ok (.baload, 1) := by decide +kernel
theorem d3_175 : decode prog_55_method_26_code 175 = .ok (.sipush 255, 3) := by decide +kernel
theorem d3_178 : decode prog_55_method_26_code 178 = .ok (.iand, 1) := by decide +kernel
theorem d3_179 : decode prog_55_method_26_code 179 = .ok (.istore 8, 2) := by decide +kernel
theorem d3_181 : decode prog_55_method_26_code 181 = .ok (.iload 8, 2) := by decide +kernel
theorem d3_183 : decode prog_55_method_26_code 183 = .ok (.iload 6, 2) := by decide +kernel
theorem d3_185 : decode prog_55_method_26_code 185 = .ok (.if_icmp .lt 10, 3) := by decide +kernel
theorem d3_188 : decode prog_55_method_26_code 188 = .ok (.iload 8, 2) := by decide +kernel
theorem d3_190 : decode prog_55_method_26_code 190 = .ok (.iload 7, 2) := by decide +kernel
theorem d3_192 : decode prog_55_method_26_code 192 = .ok (.if_icmp .le 5, 3) := by decide +kernel
theorem d3_195 : decode prog_55_method_26_code 195 = .ok (.iload_n 3, 1) := by decide +kernel
theorem d3_196 : decode prog_55_method_26_code 196 = .ok (.ireturn, 1) := by decide +kernel
theorem d3_197 : decode prog_55_method_26_code 197 = .ok (.iconst 2, 1) := by decide +kernel
theorem d3_198 : decode prog_55_method_26_code 198 = .ok (.istore 9, 2) := by decide +kernel
theorem d3_200 : decode prog_55_method_26_code 200 = .ok (.iload 9, 2) := by decide +kernel
theorem d3_202 : decode prog_55_method_26_code 202 = .ok (.iload 5, 2) := by decide +kernel
theorem d3_204 : decode prog_55_method_26_code 204 = .ok (.if_icmp .ge 27, 3) := by decide +kernel
theorem d3_207 : decode prog_55_method_26_code 207 = .ok (.aload_n 0, 1) := by decide +kernel
theorem d3_208 : decode prog_55_method_26_code 208 = .ok (.iload_n 3, 1) := by decide +kernel
theorem d3_209 : decode prog_55_method_26_code 209 = .ok (.iload 9, 2) := by decide +kernel
theorem d3_211 : decode prog_55_method_26_code 211 = .ok (.iadd, 1) := by decide +kernel
theorem d3_212 : decode prog_55_method_26_code 212 = .ok (.baload, 1) := by decide +kernel
theorem d3_213 : decode prog_55_method_26_code 213 = .ok (.sipush 192, 3) := by decide +kernel
theorem d3_216 : decode prog_55_method_26_code 216 = .ok (.iand, 1) := by decide +kernel
theorem d3_217 : decode prog_55_method_26_code 217 = .ok (.sipush 128, 3) := by decide +kernel
theorem d3_220 : decode prog_55_method_26_code 220 = .ok (.if_icmp .eq 5, 3) := by decide +kernel
theorem d3_223 : decode prog_55_method_26_code 223 = .ok (.iload_n 3, 1) := by decide +kernel
theorem d3_224 : decode prog_55_method_26_code 224 = .ok (.ireturn, 1) := by decide +kernel
theorem d3_225 : decode prog_55_method_26_code 225 = .ok (.iinc 9 1, 3) := by decide +kernel
theorem d3_228 : decode prog_55_method_26_code 228 = .ok (.goto (-28), 3) := by decide +kernel
theorem d3_231 : decode prog_55_method_26_code 231 = .ok (.iload_n 3, 1) := by decide +kernel
theorem d3_232 : decode prog_55_method_26_code 232 = .ok (.iload 5, 2) := by decide +kernel
theorem d3_234 : decode prog_55_method_26_code 234 = .ok (.iadd, 1) := by decide +kernel
theorem d3_235 : decode prog_55_method_26_code 235 = .ok (.istore_n 3, 1) := by decide +kernel
theorem d3_236 : decode prog_55_method_26_code 236 = .ok (.goto (-234), 3) := by decide +kernel
theorem d3_239 : decode prog_55_method_26_code 239 = .ok (.iconst (-1), 1) := by decide +kernel
theorem d3_240 : decode prog_55_method_26_code 240 = .ok (.ireturn, 1) := by decide +kernel
theorem pn_3 : plainName "com/example/gatefield/gatefield/model/Records" = true := by first | (simp [plainName, overriddenIn]; done) | decide +kernel
theorem ef_rm3 (m_ : MethodId) (a : Addr) (p1 : Int32) (p2 : Int32) : entryFrame m_ #[(.ref a), (.int p1), (.int p2)] 10 = mkF m_ 0 #[.val (.ref a), .val (.int p1), .val (.int p2), .unset, .unset, .unset, .unset, .unset, .unset, .unset] [] := by first | (simp [entryFrame, mkF, argsToLocals, Value.category]; done) | rfl
def Q3 (Z : State) (a : Addr) (p1 : Int32) (p2 : Int32) (cl : Cell) (f : Nat → Int32) (h0 : Heap) (n0 : Nat) (v : Option Value) (h : Heap) (L : List Loc) : Prop := v = some (.int (own_ref f p2 6 p1)) ∧ Fr n0 L ∧ h = h0
set_option maxRecDepth 65536 in
set_option maxHeartbeats 40000000 in
theorem rm3 (l : Launch) (Z : State) (a0 : Array Value) (hw : ∀ d ∈ tables_1, d.before a0 Z = true) (ws : List Jvm.Cond) (a : Addr) (p1 : Int32) (p2 : Int32) (cl : Cell) (f : Nat → Int32) (h0 : Heap) (n0 : Nat) (Z0 : n0 ≤ h0.size) (Ar : Arr Z h0 a cl .byte) (Sz : cl.slots.size = 6) (El : ∀ k, k < 6 → cl.slots[k]? = some (.int (f k))) (hs0 : 0 ≤ p1.toInt) (hse : p1.toInt ≤ p2.toInt) (he : p2.toInt ≤ 6) :
    MetFree l (⟨"com/example/gatefield/gatefield/model/Records", "notUtf8", "([BII)I"⟩ : MethodName) (head1 (Jvm.Cond.code (⟨"com/example/gatefield/gatefield/model/Records", "notUtf8", "([BII)I"⟩ : MethodName) prog_55_method_26_code 10 (some .int) :: ws) ({ frames := 0, cells := 0, slots := 0, locals := 0 } : Room)) (fun a_ U_ => a_ = #[(.ref a), (.int p1), (.int p2)] ∧ Z.Warmed39 U_.vm ∧ U_.heap = h0) (fun _ _ _ _ _ => True) (fun _ U_ o_ V_ => ∃ v_ L_, o_ = .returned v_ ∧ Q3 Z a p1 p2 cl f h0 n0 v_ V_.heap L_ ∧ FrameEnd U_ o_ V_ L_ ({ frames := 0, cells := 0, slots := 0, locals := 0 } : Room).cells ({ frames := 0, cells := 0, slots := 0, locals := 0 } : Room).slots) := by
  refine metOf (Q := Q3 Z a p1 p2 cl f h0 n0) (plainFor_of_name pn_3) ?_
  intro p_ e_ s_ m_ below meth c_ s₁ X0 hx hby hml hret hlk hZ hown hnm e0
  rw [ef_rm3]
  have N0 := Fr.nil n0
  show Go p_ e_ below _ _ s₁ (mkF m_ 0 #[.val (.ref a), .val (.int p1), .val (.int p2), .unset, .unset, .unset, .unset, .unset, .unset, .unset] [])
  refine Go.iloadN X0 hx (hb hby d3_0) rfl ?_
  refine Go.istoreN X0 hx (l' := #[.val (.ref a), .val (.int p1), .val (.int p2), .val (.int p1), .unset, .unset, .unset, .unset, .unset, .unset]) (hb hby d3_1) rfl ?_
  have loop : ∀ (n : Nat) (T1 : State) (l1 : List Loc) (t : Int32) (s4 : Slot) (s5 : Slot) (s6 : Slot) (s7 : Slot) (s8 : Slot) (s9 : Slot), Stand p_ l e_ ({ frames := 0, cells := 0, slots := 0, locals := 0 } : Room) s_ m_ #[(.ref a), (.int p1), (.int p2)] below meth c_ T1 l1 0 0 → Fr n0 l1 → T1.heap = h0 → One s4 → One s5 → One s6 → One s7 → One s8 → One s9 → 0 ≤ t.toInt → t.toInt ≤ p2.toInt → p2.toInt - t.toInt ≤ n → own_ref f p2 6 p1 = own_ref f p2 n t → Go p_ e_ below (FE s_ ({ frames := 0, cells := 0, slots := 0, locals := 0 } : Room).cells ({ frames := 0, cells := 0, slots := 0, locals := 0 } : Room).slots) (Q3 Z a p1 p2 cl f h0 n0) T1 (mkF m_ 2 #[.val (.ref a), .val (.int p1), .val (.int p2), .val (.int t), s4, s5, s6, s7, s8, s9] []) := by
    intro n
    induction n with
    | zero =>
      intro T1 l1 t s4 s5 s6 s7 s8 s9 X1 N1 e1 o4 o5 o6 o7 o8 o9 g0 g1 g2 H
      have hout : ¬ t < p2 := by rw [Int32.lt_iff_toInt_lt]; omega
      show Go p_ e_ below _ _ T1 (mkF m_ 2 #[.val (.ref a), .val (.int p1), .val (.int p2), .val (.int t), s4, s5, s6, s7, s8, s9] [])
      refine Go.iloadN X1 hx (hb hby d3_2) rfl ?_
      refine Go.iloadN X1 hx (hb hby d3_3) rfl ?_
      refine Go.icmpYes X1 hx (pc' := 239) (hb hby d3_4) (flt hout).2.1 (by decide) (by decide) ?_
      show Go p_ e_ below _ _ T1 (mkF m_ 239 #[.val (.ref a), .val (.int p1), .val (.int p2), .val (.int t), s4, s5, s6, s7, s8, s9] [])
      refine Go.iconst X1 hx (-1 : Int32) (hb hby d3_239) rfl ?_
      refine Go.retI X1 hx hret hlk (hb hby d3_240) (by decide) (by decide) ?_
      exact ⟨by rw [H]; rfl, N1, e1⟩
    | succ n ih =>
      intro T1 l1 t s4 s5 s6 s7 s8 s9 X1 N1 e1 o4 o5 o6 o7 o8 o9 g0 g1 g2 H
      show Go p_ e_ below _ _ T1 (mkF m_ 2 #[.val (.ref a), .val (.int p1), .val (.int p2), .val (.int t), s4, s5, s6, s7, s8, s9] [])
      refine Go.iloadN X1 hx (hb hby d3_2) rfl ?_
      refine Go.iloadN X1 hx (hb hby d3_3) rfl ?_
      by_cases hc4_1 : t < p2
      · skip
        refine Go.icmpNo X1 hx (hb hby d3_4) (tlt hc4_1).2.1 ?_
        have hlt6 : t.toInt < 6 := by have := Int32.lt_iff_toInt_lt.mp hc4_1; omega
        have hs_ := g0
        show Go p_ e_ below _ _ T1 (mkF m_ 7 #[.val (.ref a), .val (.int p1), .val (.int p2), .val (.int t), s4, s5, s6, s7, s8, s9] [])
        refine Go.aloadN X1 hx (hb hby d3_7) rfl rfl ?_
        refine Go.iloadN X1 hx (hb hby d3_8) rfl ?_
        have hi2 := own_inb Sz (j := t) ⟨hs_, hlt6⟩
        refine Go.baload X1 hx hZ e1 Ar hi2.1 (El _ hi2.2) (hb hby d3_9) ?_
        refine Go.sipush X1 hx (255 : Int32) (hb hby d3_10) rfl ?_
        refine Go.iand X1 hx (hb hby d3_13) ?_
        refine Go.istoreS X1 hx (hb hby d3_14) rfl o4 ?_
        refine Go.iload X1 hx (hb hby d3_16) rfl ?_
        refine Go.sipush X1 hx (128 : Int32) (hb hby d3_18) rfl ?_
        by_cases hc21_3 : ((f t.toNatClampNeg) &&& (255 : Int32)) < (128 : Int32)
        · skip
          refine Go.icmpNo X1 hx (hb hby d3_21) (tlt hc21_3).2.1 ?_
          show Go p_ e_ below _ _ T1 (mkF m_ 24 #[.val (.ref a), .val (.int p1), .val (.int p2), .val (.int t), .val (.int ((f t.toNatClampNeg) &&& (255 : Int32))), s5, s6, s7, s8, s9] [])
          refine Go.iinc X1 hx (l' := #[.val (.ref a), .val (.int p1), .val (.int p2), .val (.int (t + (1 : Int32))), .val (.int ((f t.toNatClampNeg) &&& (255 : Int32))), s5, s6, s7, s8, s9]) (1 : Int32) (hb hby d3_24) rfl rfl rfl ?_
          refine Go.goto X1 hx (pc' := 2) (hb hby d3_27) (by decide) (by decide) ?_
          show Go p_ e_ below _ _ T1 (mkF m_ 2 #[.val (.ref a), .val (.int p1), .val (.int p2), .val (.int (t + (1 : Int32))), .val (.int ((f t.toNatClampNeg) &&& (255 : Int32))), s5, s6, s7, s8, s9] [])
          have hst : own_nst f t p2 = (1 : Int32) := by unfold own_nst; rw [if_pos hc21_3]
          rw [own_same] at hst
          have hnz : ¬ own_seq f t p2 = 0 := by rw [hst]; decide
          have H2 := own_ref_go f p2 n t hc4_1 hnz
          have bd := own_seq_bd f t p2 g0 (Int32.lt_iff_toInt_lt.mp hc4_1) he hnz
          rw [hst] at bd H2
          exact ih _ _ _ (.val (.int ((f t.toNatClampNeg) &&& (255 : Int32)))) (s5) (s6) (s7) (s8) (s9) X1 N1 e1 (One.val rfl) o5 o6 o7 o8 o9 (by omega) (by omega) (by omega) (H.trans H2)
        · skip
          refine Go.icmpYes X1 hx (pc' := 30) (hb hby d3_21) (flt hc21_3).2.1 (by decide) (by decide) ?_
          show Go p_ e_ below _ _ T1 (mkF m_ 30 #[.val (.ref a), .val (.int p1), .val (.int p2), .val (.int t), .val (.int ((f t.toNatClampNeg) &&& (255 : Int32))), s5, s6, s7, s8, s9] [])
          refine Go.sipush X1 hx (128 : Int32) (hb hby d3_30) rfl ?_
          refine Go.istoreS X1 hx (hb hby d3_33) rfl o6 ?_
          refine Go.sipush X1 hx (191 : Int32) (hb hby d3_35) rfl ?_
          refine Go.istoreS X1 hx (hb hby d3_38) rfl o7 ?_
          refine Go.iload X1 hx (hb hby d3_40) rfl ?_
          refine Go.sipush X1 hx (194 : Int32) (hb hby d3_42) rfl ?_
          by_cases hc45_4 : ((f t.toNatClampNeg) &&& (255 : Int32)) < (194 : Int32)
          · skip
            refine Go.icmpYes X1 hx (pc' := 62) (hb hby d3_45) (tlt hc45_4).1 (by decide) (by decide) ?_
            show Go p_ e_ below _ _ T1 (mkF m_ 62 #[.val (.ref a), .val (.int p1), .val (.int p2), .val (.int t), .val (.int ((f t.toNatClampNeg) &&& (255 : Int32))), s5, .val (.int (128 : Int32)), .val (.int (191 : Int32)), s8, s9] [])
            refine Go.iload X1 hx (hb hby d3_62) rfl ?_
            refine Go.sipush X1 hx (224 : Int32) (hb hby d3_64) rfl ?_
            by_cases hc67_5 : ((f t.toNatClampNeg) &&& (255 : Int32)) < (224 : Int32)
            · skip
              refine Go.icmpYes X1 hx (pc' := 110) (hb hby d3_67) (tlt hc67_5).1 (by decide) (by decide) ?_
              show Go p_ e_ below _ _ T1 (mkF m_ 110 #[.val (.ref a), .val (.int p1), .val (.int p2), .val (.int t), .val (.int ((f t.toNatClampNeg) &&& (255 : Int32))), s5, .val (.int (128 : Int32)), .val (.int (191 : Int32)), s8, s9] [])
              refine Go.iload X1 hx (hb hby d3_110) rfl ?_
              refine Go.sipush X1 hx (240 : Int32) (hb hby d3_112) rfl ?_
              by_cases hc115_6 : ((f t.toNatClampNeg) &&& (255 : Int32)) < (240 : Int32)
              · skip
                refine Go.icmpYes X1 hx (pc' := 158) (hb hby d3_115) (tlt hc115_6).1 (by decide) (by decide) ?_
                show Go p_ e_ below _ _ T1 (mkF m_ 158 #[.val (.ref a), .val (.int p1), .val (.int p2), .val (.int t), .val (.int ((f t.toNatClampNeg) &&& (255 : Int32))), s5, .val (.int (128 : Int32)), .val (.int (191 : Int32)), s8, s9] [])
                refine Go.iloadN X1 hx (hb hby d3_158) rfl ?_
                refine Go.retI X1 hx hret hlk (hb hby d3_159) (by decide) (by decide) ?_
                have hst : own_nst f t p2 = (0 : Int32) := by unfold own_nst; rw [if_neg hc21_3, if_pos hc45_4, if_pos hc67_5, if_pos hc115_6]
                rw [own_same] at hst
                exact ⟨by rw [H, own_ref_stop _ _ _ _ hc4_1 hst], N1, e1⟩
              · skip
                refine Go.icmpNo X1 hx (hb hby d3_115) (flt hc115_6).1 ?_
                show Go p_ e_ below _ _ T1 (mkF m_ 118 #[.val (.ref a), .val (.int p1), .val (.int p2), .val (.int t), .val (.int ((f t.toNatClampNeg) &&& (255 : Int32))), s5, .val (.int (128 : Int32)), .val (.int (191 : Int32)), s8, s9] [])
                refine Go.iload X1 hx (hb hby d3_118) rfl ?_
                refine Go.sipush X1 hx (244 : Int32) (hb hby d3_120) rfl ?_
                by_cases hc123_7 : (244 : Int32) < ((f t.toNatClampNeg) &&& (255 : Int32))
                · skip
                  refine Go.icmpYes X1 hx (pc' := 158) (hb hby d3_123) (tlt hc123_7).2.2.1 (by decide) (by decide) ?_
                  show Go p_ e_ below _ _ T1 (mkF m_ 158 #[.val (.ref a), .val (.int p1), .val (.int p2), .val (.int t), .val (.int ((f t.toNatClampNeg) &&& (255 : Int32))), s5, .val (.int (128 : Int32)), .val (.int (191 : Int32)), s8, s9] [])
                  refine Go.iloadN X1 hx (hb hby d3_158) rfl ?_
                  refine Go.retI X1 hx hret hlk (hb hby d3_159) (by decide) (by decide) ?_
                  have hst : own_nst f t p2 = (0 : Int32) := by unfold own_nst; rw [if_neg hc21_3, if_pos hc45_4, if_pos hc67_5, if_neg hc115_6, if_pos hc123_7]
                  rw [own_same] at hst
                  exact ⟨by rw [H, own_ref_stop _ _ _ _ hc4_1 hst], N1, e1⟩
                · skip
                  refine Go.icmpNo X1 hx (hb hby d3_123) (flt hc123_7).2.2.1 ?_
                  show Go p_ e_ below _ _ T1 (mkF m_ 126 #[.val (.ref a), .val (.int p1), .val (.int p2), .val (.int t), .val (.int ((f t.toNatClampNeg) &&& (255 : Int32))), s5, .val (.int (128 : Int32)), .val (.int (191 : Int32)), s8, s9] [])
                  refine Go.iconst X1 hx (4 : Int32) (hb hby d3_126) rfl ?_
                  refine Go.istoreS X1 hx (hb hby d3_127) rfl o5 ?_
                  have j8 : ∀ (T9 : State) (l9 : List Loc) (lo : Int32), Stand p_ l e_ ({ frames := 0, cells := 0, slots := 0, locals := 0 } : Room) s_ m_ #[(.ref a), (.int p1), (.int p2)] below meth c_ T9 l9 0 0 → Fr n0 l9 → T9.heap = h0 → (lo = (if ((f t.toNatClampNeg) &&& (255 : Int32)) = (240 : Int32) then (144 : Int32) else (128 : Int32))) → Go p_ e_ below (FE s_ ({ frames := 0, cells := 0, slots := 0, locals := 0 } : Room).cells ({ frames := 0, cells := 0, slots := 0, locals := 0 } : Room).slots) (Q3 Z a p1 p2 cl f h0 n0) T9 (mkF m_ 142 #[.val (.ref a), .val (.int p1), .val (.int p2), .val (.int t), .val (.int ((f t.toNatClampNeg) &&& (255 : Int32))), .val (.int (4 : Int32)), .val (.int lo), .val (.int (191 : Int32)), s8, s9] []) := by
                    intro T9 l9 lo X9 N9 e9  h_lo
                    have j10 : ∀ (T11 : State) (l11 : List Loc) (hi : Int32), Stand p_ l e_ ({ frames := 0, cells := 0, slots := 0, locals := 0 } : Room) s_ m_ #[(.ref a), (.int p1), (.int p2)] below meth c_ T11 l11 0 0 → Fr n0 l11 → T11.heap = h0 → (hi = (if ((f t.toNatClampNeg) &&& (255 : Int32)) = (244 : Int32) then (143 : Int32) else (191 : Int32))) → Go p_ e_ below (FE s_ ({ frames := 0, cells := 0, slots := 0, locals := 0 } : Room).cells ({ frames := 0, cells := 0, slots := 0, locals := 0 } : Room).slots) (Q3 Z a p1 p2 cl f h0 n0) T11 (mkF m_ 160 #[.val (.ref a), .val (.int p1), .val (.int p2), .val (.int t), .val (.int ((f t.toNatClampNeg) &&& (255 : Int32))), .val (.int (4 : Int32)), .val (.int lo), .val (.int hi), s8, s9] []) := by
                      intro T11 l11 hi X11 N11 e11  h_hi
                      show Go p_ e_ below _ _ T11 (mkF m_ 160 #[.val (.ref a), .val (.int p1), .val (.int p2), .val (.int t), .val (.int ((f t.toNatClampNeg) &&& (255 : Int32))), .val (.int (4 : Int32)), .val (.int lo), .val (.int hi), s8, s9] [])
                      refine Go.iloadN X11 hx (hb hby d3_160) rfl ?_
                      refine Go.iload X11 hx (hb hby d3_161) rfl ?_
                      refine Go.iadd X11 hx (hb hby d3_163) ?_
                      refine Go.iloadN X11 hx (hb hby d3_164) rfl ?_
                      by_cases hc165_12 : p2 < (t + (4 : Int32))
                      · skip
                        refine Go.icmpNo X11 hx (hb hby d3_165) (tlt hc165_12).2.2.2 ?_
                        show Go p_ e_ below _ _ T11 (mkF m_ 168 #[.val (.ref a), .val (.int p1), .val (.int p2), .val (.int t), .val (.int ((f t.toNatClampNeg) &&& (255 : Int32))), .val (.int (4 : Int32)), .val (.int lo), .val (.int hi), s8, s9] [])
                        refine Go.iloadN X11 hx (hb hby d3_168) rfl ?_
                        refine Go.retI X11 hx hret hlk (hb hby d3_169) (by decide) (by decide) ?_
                        have hst : own_nst f t p2 = (0 : Int32) := by subst h_lo h_hi; unfold own_nst; rw [if_neg hc21_3, if_pos hc45_4, if_pos hc67_5, if_neg hc115_6, if_neg hc123_7, if_pos hc165_12]
                        rw [own_same] at hst
                        exact ⟨by rw [H, own_ref_stop _ _ _ _ hc4_1 hst], N11, e11⟩
                      · skip
                        refine Go.icmpYes X11 hx (pc' := 170) (hb hby d3_165) (flt hc165_12).2.2.2 (by decide) (by decide) ?_
                        show Go p_ e_ below _ _ T11 (mkF m_ 170 #[.val (.ref a), .val (.int p1), .val (.int p2), .val (.int t), .val (.int ((f t.toNatClampNeg) &&& (255 : Int32))), .val (.int (4 : Int32)), .val (.int lo), .val (.int hi), s8, s9] [])
                        refine Go.aloadN X11 hx (hb hby d3_170) rfl rfl ?_
                        refine Go.iloadN X11 hx (hb hby d3_171) rfl ?_
                        refine Go.iconst X11 hx (1 : Int32) (hb hby d3_172) rfl ?_
                        refine Go.iadd X11 hx (hb hby d3_173) ?_
                        have hi13 := own_inb Sz (j := (t + (1 : Int32))) (own_at _ _ (4 : Int32) (1 : Int32) hs_ hlt6 he hc165_12 (by decide) (by decide) (by decide))
                        refine Go.baload X11 hx hZ e11 Ar hi13.1 (El _ hi13.2) (hb hby d3_174) ?_
                        refine Go.sipush X11 hx (255 : Int32) (hb hby d3_175) rfl ?_
                        refine Go.iand X11 hx (hb hby d3_178) ?_
                        refine Go.istoreS X11 hx (hb hby d3_179) rfl o8 ?_
                        refine Go.iload X11 hx (hb hby d3_181) rfl ?_
                        refine Go.iload X11 hx (hb hby d3_183) rfl ?_
                        by_cases hc185_14 : ((f (t + (1 : Int32)).toNatClampNeg) &&& (255 : Int32)) < lo
                        · skip
                          refine Go.icmpYes X11 hx (pc' := 195) (hb hby d3_185) (tlt hc185_14).1 (by decide) (by decide) ?_
                          show Go p_ e_ below _ _ T11 (mkF m_ 195 #[.val (.ref a), .val (.int p1), .val (.int p2), .val (.int t), .val (.int ((f t.toNatClampNeg) &&& (255 : Int32))), .val (.int (4 : Int32)), .val (.int lo), .val (.int hi), .val (.int ((f (t + (1 : Int32)).toNatClampNeg) &&& (255 : Int32))), s9] [])
                          refine Go.iloadN X11 hx (hb hby d3_195) rfl ?_
                          refine Go.retI X11 hx hret hlk (hb hby d3_196) (by decide) (by decide) ?_
                          have hst : own_nst f t p2 = (0 : Int32) := by subst h_lo h_hi; unfold own_nst; rw [if_neg hc21_3, if_pos hc45_4, if_pos hc67_5, if_neg hc115_6, if_neg hc123_7, if_neg hc165_12, if_pos hc185_14]
                          rw [own_same] at hst
                          exact ⟨by rw [H, own_ref_stop _ _ _ _ hc4_1 hst], N11, e11⟩
                        · skip
                          refine Go.icmpNo X11 hx (hb hby d3_185) (flt hc185_14).1 ?_
                          show Go p_ e_ below _ _ T11 (mkF m_ 188 #[.val (.ref a), .val (.int p1), .val (.int p2), .val (.int t), .val (.int ((f t.toNatClampNeg) &&& (255 : Int32))), .val (.int (4 : Int32)), .val (.int lo), .val (.int hi), .val (.int ((f (t + (1 : Int32)).toNatClampNeg) &&& (255 : Int32))), s9] [])
                          refine Go.iload X11 hx (hb hby d3_188) rfl ?_
                          refine Go.iload X11 hx (hb hby d3_190) rfl ?_
                          by_cases hc192_15 : hi < ((f (t + (1 : Int32)).toNatClampNeg) &&& (255 : Int32))
                          · skip
                            refine Go.icmpNo X11 hx (hb hby d3_192) (tlt hc192_15).2.2.2 ?_
                            show Go p_ e_ below _ _ T11 (mkF m_ 195 #[.val (.ref a), .val (.int p1), .val (.int p2), .val (.int t), .val (.int ((f t.toNatClampNeg) &&& (255 : Int32))), .val (.int (4 : Int32)), .val (.int lo), .val (.int hi), .val (.int ((f (t + (1 : Int32)).toNatClampNeg) &&& (255 : Int32))), s9] [])
                            refine Go.iloadN X11 hx (hb hby d3_195) rfl ?_
                            refine Go.retI X11 hx hret hlk (hb hby d3_196) (by decide) (by decide) ?_
                            have hst : own_nst f t p2 = (0 : Int32) := by subst h_lo h_hi; unfold own_nst; rw [if_neg hc21_3, if_pos hc45_4, if_pos hc67_5, if_neg hc115_6, if_neg hc123_7, if_neg hc165_12, if_neg hc185_14, if_pos hc192_15]
                            rw [own_same] at hst
                            exact ⟨by rw [H, own_ref_stop _ _ _ _ hc4_1 hst], N11, e11⟩
                          · skip
                            refine Go.icmpYes X11 hx (pc' := 197) (hb hby d3_192) (flt hc192_15).2.2.2 (by decide) (by decide) ?_
                            show Go p_ e_ below _ _ T11 (mkF m_ 197 #[.val (.ref a), .val (.int p1), .val (.int p2), .val (.int t), .val (.int ((f t.toNatClampNeg) &&& (255 : Int32))), .val (.int (4 : Int32)), .val (.int lo), .val (.int hi), .val (.int ((f (t + (1 : Int32)).toNatClampNeg) &&& (255 : Int32))), s9] [])
                            refine Go.iconst X11 hx (2 : Int32) (hb hby d3_197) rfl ?_
                            refine Go.istoreS X11 hx (hb hby d3_198) rfl o9 ?_
                            refine Go.iload X11 hx (hb hby d3_200) rfl ?_
                            refine Go.iload X11 hx (hb hby d3_202) rfl ?_
                            refine Go.icmpNo X11 hx (hb hby d3_204) (tlt (by decide)).2.1 ?_
                            show Go p_ e_ below _ _ T11 (mkF m_ 207 #[.val (.ref a), .val (.int p1), .val (.int p2), .val (.int t), .val (.int ((f t.toNatClampNeg) &&& (255 : Int32))), .val (.int (4 : Int32)), .val (.int lo), .val (.int hi), .val (.int ((f (t + (1 : Int32)).toNatClampNeg) &&& (255 : Int32))), .val (.int (2 : Int32))] [])
                            refine Go.aloadN X11 hx (hb hby d3_207) rfl rfl ?_
                            refine Go.iloadN X11 hx (hb hby d3_208) rfl ?_
                            refine Go.iload X11 hx (hb hby d3_209) rfl ?_
                            refine Go.iadd X11 hx (hb hby d3_211) ?_
                            have hi16 := own_inb Sz (j := (t + (2 : Int32))) (own_at _ _ (4 : Int32) (2 : Int32) hs_ hlt6 he hc165_12 (by decide) (by decide) (by decide))
                            refine Go.baload X11 hx hZ e11 Ar hi16.1 (El _ hi16.2) (hb hby d3_212) ?_
                            refine Go.sipush X11 hx (192 : Int32) (hb hby d3_213) rfl ?_
                            refine Go.iand X11 hx (hb hby d3_216) ?_
                            refine Go.sipush X11 hx (128 : Int32) (hb hby d3_217) rfl ?_
                            by_cases hc220_17 : ((f (t + (2 : Int32)).toNatClampNeg) &&& (192 : Int32)) = (128 : Int32)
                            · skip
                              refine Go.icmpYes X11 hx (pc' := 225) (hb hby d3_220) (teq hc220_17).1 (by decide) (by decide) ?_
                              show Go p_ e_ below _ _ T11 (mkF m_ 225 #[.val (.ref a), .val (.int p1), .val (.int p2), .val (.int t), .val (.int ((f t.toNatClampNeg) &&& (255 : Int32))), .val (.int (4 : Int32)), .val (.int lo), .val (.int hi), .val (.int ((f (t + (1 : Int32)).toNatClampNeg) &&& (255 : Int32))), .val (.int (2 : Int32))] [])
                              refine Go.iincF X11 hx (l' := #[.val (.ref a), .val (.int p1), .val (.int p2), .val (.int t), .val (.int ((f t.toNatClampNeg) &&& (255 : Int32))), .val (.int (4 : Int32)), .val (.int lo), .val (.int hi), .val (.int ((f (t + (1 : Int32)).toNatClampNeg) &&& (255 : Int32))), .val (.int (3 : Int32))]) (1 : Int32) (3 : Int32) (hb hby d3_225) rfl (by decide) rfl rfl ?_
                              refine Go.goto X11 hx (pc' := 200) (hb hby d3_228) (by decide) (by decide) ?_
                              refine Go.iload X11 hx (hb hby d3_200) rfl ?_
                              refine Go.iload X11 hx (hb hby d3_202) rfl ?_
                              refine Go.icmpNo X11 hx (hb hby d3_204) (tlt (by decide)).2.1 ?_
                              show Go p_ e_ below _ _ T11 (mkF m_ 207 #[.val (.ref a), .val (.int p1), .val (.int p2), .val (.int t), .val (.int ((f t.toNatClampNeg) &&& (255 : Int32))), .val (.int (4 : Int32)), .val (.int lo), .val (.int hi), .val (.int ((f (t + (1 : Int32)).toNatClampNeg) &&& (255 : Int32))), .val (.int (3 : Int32))] [])
                              refine Go.aloadN X11 hx (hb hby d3_207) rfl rfl ?_
                              refine Go.iloadN X11 hx (hb hby d3_208) rfl ?_
                              refine Go.iload X11 hx (hb hby d3_209) rfl ?_
                              refine Go.iadd X11 hx (hb hby d3_211) ?_
                              have hi18 := own_inb Sz (j := (t + (3 : Int32))) (own_at _ _ (4 : Int32) (3 : Int32) hs_ hlt6 he hc165_12 (by decide) (by decide) (by decide))
                              refine Go.baload X11 hx hZ e11 Ar hi18.1 (El _ hi18.2) (hb hby d3_212) ?_
                              refine Go.sipush X11 hx (192 : Int32) (hb hby d3_213) rfl ?_
                              refine Go.iand X11 hx (hb hby d3_216) ?_
                              refine Go.sipush X11 hx (128 : Int32) (hb hby d3_217) rfl ?_
                              by_cases hc220_19 : ((f (t + (3 : Int32)).toNatClampNeg) &&& (192 : Int32)) = (128 : Int32)
                              · skip
                                refine Go.icmpYes X11 hx (pc' := 225) (hb hby d3_220) (teq hc220_19).1 (by decide) (by decide) ?_
                                show Go p_ e_ below _ _ T11 (mkF m_ 225 #[.val (.ref a), .val (.int p1), .val (.int p2), .val (.int t), .val (.int ((f t.toNatClampNeg) &&& (255 : Int32))), .val (.int (4 : Int32)), .val (.int lo), .val (.int hi), .val (.int ((f (t + (1 : Int32)).toNatClampNeg) &&& (255 : Int32))), .val (.int (3 : Int32))] [])
                                refine Go.iincF X11 hx (l' := #[.val (.ref a), .val (.int p1), .val (.int p2), .val (.int t), .val (.int ((f t.toNatClampNeg) &&& (255 : Int32))), .val (.int (4 : Int32)), .val (.int lo), .val (.int hi), .val (.int ((f (t + (1 : Int32)).toNatClampNeg) &&& (255 : Int32))), .val (.int (4 : Int32))]) (1 : Int32) (4 : Int32) (hb hby d3_225) rfl (by decide) rfl rfl ?_
                                refine Go.goto X11 hx (pc' := 200) (hb hby d3_228) (by decide) (by decide) ?_
                                refine Go.iload X11 hx (hb hby d3_200) rfl ?_
                                refine Go.iload X11 hx (hb hby d3_202) rfl ?_
                                refine Go.icmpYes X11 hx (pc' := 231) (hb hby d3_204) (flt (by decide)).2.1 (by decide) (by decide) ?_
                                show Go p_ e_ below _ _ T11 (mkF m_ 231 #[.val (.ref a), .val (.int p1), .val (.int p2), .val (.int t), .val (.int ((f t.toNatClampNeg) &&& (255 : Int32))), .val (.int (4 : Int32)), .val (.int lo), .val (.int hi), .val (.int ((f (t + (1 : Int32)).toNatClampNeg) &&& (255 : Int32))), .val (.int (4 : Int32))] [])
                                refine Go.iloadN X11 hx (hb hby d3_231) rfl ?_
                                refine Go.iload X11 hx (hb hby d3_232) rfl ?_
                                refine Go.iadd X11 hx (hb hby d3_234) ?_
                                refine Go.istoreN X11 hx (l' := #[.val (.ref a), .val (.int p1), .val (.int p2), .val (.int (t + (4 : Int32))), .val (.int ((f t.toNatClampNeg) &&& (255 : Int32))), .val (.int (4 : Int32)), .val (.int lo), .val (.int hi), .val (.int ((f (t + (1 : Int32)).toNatClampNeg) &&& (255 : Int32))), .val (.int (4 : Int32))]) (hb hby d3_235) rfl ?_
                                refine Go.goto X11 hx (pc' := 2) (hb hby d3_236) (by decide) (by decide) ?_
                                show Go p_ e_ below _ _ T11 (mkF m_ 2 #[.val (.ref a), .val (.int p1), .val (.int p2), .val (.int (t + (4 : Int32))), .val (.int ((f t.toNatClampNeg) &&& (255 : Int32))), .val (.int (4 : Int32)), .val (.int lo), .val (.int hi), .val (.int ((f (t + (1 : Int32)).toNatClampNeg) &&& (255 : Int32))), .val (.int (4 : Int32))] [])
                                have hst : own_nst f t p2 = (4 : Int32) := by subst h_lo h_hi; unfold own_nst; rw [if_neg hc21_3, if_pos hc45_4, if_pos hc67_5, if_neg hc115_6, if_neg hc123_7, if_neg hc165_12, if_neg hc185_14, if_neg hc192_15, if_pos hc220_17, if_pos hc220_19]
                                rw [own_same] at hst
                                have hnz : ¬ own_seq f t p2 = 0 := by rw [hst]; decide
                                have H2 := own_ref_go f p2 n t hc4_1 hnz
                                have bd := own_seq_bd f t p2 g0 (Int32.lt_iff_toInt_lt.mp hc4_1) he hnz
                                rw [hst] at bd H2
                                exact ih _ _ _ (.val (.int ((f t.toNatClampNeg) &&& (255 : Int32)))) (.val (.int (4 : Int32))) (.val (.int lo)) (.val (.int hi)) (.val (.int ((f (t + (1 : Int32)).toNatClampNeg) &&& (255 : Int32)))) (.val (.int (4 : Int32))) X11 N11 e11 (One.val rfl) (One.val rfl) (One.val rfl) (One.val rfl) (One.val rfl) (One.val rfl) (by omega) (by omega) (by omega) (H.trans H2)
                              · skip
                                refine Go.icmpNo X11 hx (hb hby d3_220) (feq hc220_19).1 ?_
                                show Go p_ e_ below _ _ T11 (mkF m_ 223 #[.val (.ref a), .val (.int p1), .val (.int p2), .val (.int t), .val (.int ((f t.toNatClampNeg) &&& (255 : Int32))), .val (.int (4 : Int32)), .val (.int lo), .val (.int hi), .val (.int ((f (t + (1 : Int32)).toNatClampNeg) &&& (255 : Int32))), .val (.int (3 : Int32))] [])
                                refine Go.iloadN X11 hx (hb hby d3_223) rfl ?_
                                refine Go.retI X11 hx hret hlk (hb hby d3_224) (by decide) (by decide) ?_
                                have hst : own_nst f t p2 = (0 : Int32) := by subst h_lo h_hi; unfold own_nst; rw [if_neg hc21_3, if_pos hc45_4, if_pos hc67_5, if_neg hc115_6, if_neg hc123_7, if_neg hc165_12, if_neg hc185_14, if_neg hc192_15, if_pos hc220_17, if_neg hc220_19]
                                rw [own_same] at hst
                                exact ⟨by rw [H, own_ref_stop _ _ _ _ hc4_1 hst], N11, e11⟩
                            · skip
                              refine Go.icmpNo X11 hx (hb hby d3_220) (feq hc220_17).1 ?_
                              show Go p_ e_ below _ _ T11 (mkF m_ 223 #[.val (.ref a), .val (.int p1), .val (.int p2), .val (.int t), .val (.int ((f t.toNatClampNeg) &&& (255 : Int32))), .val (.int (4 : Int32)), .val (.int lo), .val (.int hi), .val (.int ((f (t + (1 : Int32)).toNatClampNeg) &&& (255 : Int32))), .val (.int (2 : Int32))] [])
                              refine Go.iloadN X11 hx (hb hby d3_223) rfl ?_
                              refine Go.retI X11 hx hret hlk (hb hby d3_224) (by decide) (by decide) ?_
                              have hst : own_nst f t p2 = (0 : Int32) := by subst h_lo h_hi; unfold own_nst; rw [if_neg hc21_3, if_pos hc45_4, if_pos hc67_5, if_neg hc115_6, if_neg hc123_7, if_neg hc165_12, if_neg hc185_14, if_neg hc192_15, if_neg hc220_17]
                              rw [own_same] at hst
                              exact ⟨by rw [H, own_ref_stop _ _ _ _ hc4_1 hst], N11, e11⟩
                    show Go p_ e_ below _ _ T9 (mkF m_ 142 #[.val (.ref a), .val (.int p1), .val (.int p2), .val (.int t), .val (.int ((f t.toNatClampNeg) &&& (255 : Int32))), .val (.int (4 : Int32)), .val (.int lo), .val (.int (191 : Int32)), s8, s9] [])
                    refine Go.iload X9 hx (hb hby d3_142) rfl ?_
                    refine Go.sipush X9 hx (244 : Int32) (hb hby d3_144) rfl ?_
                    by_cases hc147_20 : ((f t.toNatClampNeg) &&& (255 : Int32)) = (244 : Int32)
                    · skip
                      refine Go.icmpNo X9 hx (hb hby d3_147) (teq hc147_20).2 ?_
                      show Go p_ e_ below _ _ T9 (mkF m_ 150 #[.val (.ref a), .val (.int p1), .val (.int p2), .val (.int t), .val (.int ((f t.toNatClampNeg) &&& (255 : Int32))), .val (.int (4 : Int32)), .val (.int lo), .val (.int (191 : Int32)), s8, s9] [])
                      refine Go.sipush X9 hx (143 : Int32) (hb hby d3_150) rfl ?_
                      refine Go.istore X9 hx (l' := #[.val (.ref a), .val (.int p1), .val (.int p2), .val (.int t), .val (.int ((f t.toNatClampNeg) &&& (255 : Int32))), .val (.int (4 : Int32)), .val (.int lo), .val (.int (143 : Int32)), s8, s9]) (hb hby d3_153) rfl ?_
                      refine Go.goto X9 hx (pc' := 160) (hb hby d3_155) (by decide) (by decide) ?_
                      show Go p_ e_ below _ _ T9 (mkF m_ 160 #[.val (.ref a), .val (.int p1), .val (.int p2), .val (.int t), .val (.int ((f t.toNatClampNeg) &&& (255 : Int32))), .val (.int (4 : Int32)), .val (.int lo), .val (.int (143 : Int32)), s8, s9] [])
                      exact j10 _ _ _ X9 N9 e9 (by rw [if_pos hc147_20])
                    · skip
                      refine Go.icmpYes X9 hx (pc' := 160) (hb hby d3_147) (feq hc147_20).2 (by decide) (by decide) ?_
                      show Go p_ e_ below _ _ T9 (mkF m_ 160 #[.val (.ref a), .val (.int p1), .val (.int p2), .val (.int t), .val (.int ((f t.toNatClampNeg) &&& (255 : Int32))), .val (.int (4 : Int32)), .val (.int lo), .val (.int (191 : Int32)), s8, s9] [])
                      exact j10 _ _ _ X9 N9 e9 (by rw [if_neg hc147_20])
                  refine Go.iload X1 hx (hb hby d3_129) rfl ?_
                  refine Go.sipush X1 hx (240 : Int32) (hb hby d3_131) rfl ?_
                  by_cases hc134_21 : ((f t.toNatClampNeg) &&& (255 : Int32)) = (240 : Int32)
                  · skip
                    refine Go.icmpNo X1 hx (hb hby d3_134) (teq hc134_21).2 ?_
                    show Go p_ e_ below _ _ T1 (mkF m_ 137 #[.val (.ref a), .val (.int p1), .val (.int p2), .val (.int t), .val (.int ((f t.toNatClampNeg) &&& (255 : Int32))), .val (.int (4 : Int32)), .val (.int (128 : Int32)), .val (.int (191 : Int32)), s8, s9] [])
                    refine Go.sipush X1 hx (144 : Int32) (hb hby d3_137) rfl ?_
                    refine Go.istore X1 hx (l' := #[.val (.ref a), .val (.int p1), .val (.int p2), .val (.int t), .val (.int ((f t.toNatClampNeg) &&& (255 : Int32))), .val (.int (4 : Int32)), .val (.int (144 : Int32)), .val (.int (191 : Int32)), s8, s9]) (hb hby d3_140) rfl ?_
                    show Go p_ e_ below _ _ T1 (mkF m_ 142 #[.val (.ref a), .val (.int p1), .val (.int p2), .val (.int t), .val (.int ((f t.toNatClampNeg) &&& (255 : Int32))), .val (.int (4 : Int32)), .val (.int (144 : Int32)), .val (.int (191 : Int32)), s8, s9] [])
                    exact j8 _ _ _ X1 N1 e1 (by rw [if_pos hc134_21])
                  · skip
                    refine Go.icmpYes X1 hx (pc' := 142) (hb hby d3_134) (feq hc134_21).2 (by decide) (by decide) ?_
                    show Go p_ e_ below _ _ T1 (mkF m_ 142 #[.val (.ref a), .val (.int p1), .val (.int p2), .val (.int t), .val (.int ((f t.toNatClampNeg) &&& (255 : Int32))), .val (.int (4 : Int32)), .val (.int (128 : Int32)), .val (.int (191 : Int32)), s8, s9] [])
                    exact j8 _ _ _ X1 N1 e1 (by rw [if_neg hc134_21])
            · skip
              refine Go.icmpNo X1 hx (hb hby d3_67) (flt hc67_5).1 ?_
              show Go p_ e_ below _ _ T1 (mkF m_ 70 #[.val (.ref a), .val (.int p1), .val (.int p2), .val (.int t), .val (.int ((f t.toNatClampNeg) &&& (255 : Int32))), s5, .val (.int (128 : Int32)), .val (.int (191 : Int32)), s8, s9] [])
              refine Go.iload X1 hx (hb hby d3_70) rfl ?_
              refine Go.sipush X1 hx (239 : Int32) (hb hby d3_72) rfl ?_
              by_cases hc75_22 : (239 : Int32) < ((f t.toNatClampNeg) &&& (255 : Int32))
              · skip
                refine Go.icmpYes X1 hx (pc' := 110) (hb hby d3_75) (tlt hc75_22).2.2.1 (by decide) (by decide) ?_
                show Go p_ e_ below _ _ T1 (mkF m_ 110 #[.val (.ref a), .val (.int p1), .val (.int p2), .val (.int t), .val (.int ((f t.toNatClampNeg) &&& (255 : Int32))), s5, .val (.int (128 : Int32)), .val (.int (191 : Int32)), s8, s9] [])
                refine Go.iload X1 hx (hb hby d3_110) rfl ?_
                refine Go.sipush X1 hx (240 : Int32) (hb hby d3_112) rfl ?_
                by_cases hc115_23 : ((f t.toNatClampNeg) &&& (255 : Int32)) < (240 : Int32)
                · skip
                  refine Go.icmpYes X1 hx (pc' := 158) (hb hby d3_115) (tlt hc115_23).1 (by decide) (by decide) ?_
                  show Go p_ e_ below _ _ T1 (mkF m_ 158 #[.val (.ref a), .val (.int p1), .val (.int p2), .val (.int t), .val (.int ((f t.toNatClampNeg) &&& (255 : Int32))), s5, .val (.int (128 : Int32)), .val (.int (191 : Int32)), s8, s9] [])
                  refine Go.iloadN X1 hx (hb hby d3_158) rfl ?_
                  refine Go.retI X1 hx hret hlk (hb hby d3_159) (by decide) (by decide) ?_
                  have hst : own_nst f t p2 = (0 : Int32) := by unfold own_nst; rw [if_neg hc21_3, if_pos hc45_4, if_neg hc67_5, if_pos hc75_22, if_pos hc115_23]
                  rw [own_same] at hst
                  exact ⟨by rw [H, own_ref_stop _ _ _ _ hc4_1 hst], N1, e1⟩
                · skip
                  refine Go.icmpNo X1 hx (hb hby d3_115) (flt hc115_23).1 ?_
                  show Go p_ e_ below _ _ T1 (mkF m_ 118 #[.val (.ref a), .val (.int p1), .val (.int p2), .val (.int t), .val (.int ((f t.toNatClampNeg) &&& (255 : Int32))), s5, .val (.int (128 : Int32)), .val (.int (191 : Int32)), s8, s9] [])
                  refine Go.iload X1 hx (hb hby d3_118) rfl ?_
                  refine Go.sipush X1 hx (244 : Int32) (hb hby d3_120) rfl ?_
                  by_cases hc123_24 : (244 : Int32) < ((f t.toNatClampNeg) &&& (255 : Int32))
                  · skip
                    refine Go.icmpYes X1 hx (pc' := 158) (hb hby d3_123) (tlt hc123_24).2.2.1 (by decide) (by decide) ?_
                    show Go p_ e_ below _ _ T1 (mkF m_ 158 #[.val (.ref a), .val (.int p1), .val (.int p2), .val (.int t), .val (.int ((f t.toNatClampNeg) &&& (255 : Int32))), s5, .val (.int (128 : Int32)), .val (.int (191 : Int32)), s8, s9] [])
                    refine Go.iloadN X1 hx (hb hby d3_158) rfl ?_
                    refine Go.retI X1 hx hret hlk (hb hby d3_159) (by decide) (by decide) ?_
                    have hst : own_nst f t p2 = (0 : Int32) := by unfold own_nst; rw [if_neg hc21_3, if_pos hc45_4, if_neg hc67_5, if_pos hc75_22, if_neg hc115_23, if_pos hc123_24]
                    rw [own_same] at hst
                    exact ⟨by rw [H, own_ref_stop _ _ _ _ hc4_1 hst], N1, e1⟩
                  · skip
                    refine Go.icmpNo X1 hx (hb hby d3_123) (flt hc123_24).2.2.1 ?_
                    show Go p_ e_ below _ _ T1 (mkF m_ 126 #[.val (.ref a), .val (.int p1), .val (.int p2), .val (.int t), .val (.int ((f t.toNatClampNeg) &&& (255 : Int32))), s5, .val (.int (128 : Int32)), .val (.int (191 : Int32)), s8, s9] [])
                    refine Go.iconst X1 hx (4 : Int32) (hb hby d3_126) rfl ?_
                    refine Go.istoreS X1 hx (hb hby d3_127) rfl o5 ?_
                    have j25 : ∀ (T26 : State) (l26 : List Loc) (lo : Int32), Stand p_ l e_ ({ frames := 0, cells := 0, slots := 0, locals := 0 } : Room) s_ m_ #[(.ref a), (.int p1), (.int p2)] below meth c_ T26 l26 0 0 → Fr n0 l26 → T26.heap = h0 → (lo = (if ((f t.toNatClampNeg) &&& (255 : Int32)) = (240 : Int32) then (144 : Int32) else (128 : Int32))) → Go p_ e_ below (FE s_ ({ frames := 0, cells := 0, slots := 0, locals := 0 } : Room).cells ({ frames := 0, cells := 0, slots := 0, locals := 0 } : Room).slots) (Q3 Z a p1 p2 cl f h0 n0) T26 (mkF m_ 142 #[.val (.ref a), .val (.int p1), .val (.int p2), .val (.int t), .val (.int ((f t.toNatClampNeg) &&& (255 : Int32))), .val (.int (4 : Int32)), .val (.int lo), .val (.int (191 : Int32)), s8, s9] []) := by
                      intro T26 l26 lo X26 N26 e26  h_lo
                      have j27 : ∀ (T28 : State) (l28 : List Loc) (hi : Int32), Stand p_ l e_ ({ frames := 0, cells := 0, slots := 0, locals := 0 } : Room) s_ m_ #[(.ref a), (.int p1), (.int p2)] below meth c_ T28 l28 0 0 → Fr n0 l28 → T28.heap = h0 → (hi = (if ((f t.toNatClampNeg) &&& (255 : Int32)) = (244 : Int32) then (143 : Int32) else (191 : Int32))) → Go p_ e_ below (FE s_ ({ frames := 0, cells := 0, slots := 0, locals := 0 } : Room).cells ({ frames := 0, cells := 0, slots := 0, locals := 0 } : Room).slots) (Q3 Z a p1 p2 cl f h0 n0) T28 (mkF m_ 160 #[.val (.ref a), .val (.int p1), .val (.int p2), .val (.int t), .val (.int ((f t.toNatClampNeg) &&& (255 : Int32))), .val (.int (4 : Int32)), .val (.int lo), .val (.int hi), s8, s9] []) := by
                        intro T28 l28 hi X28 N28 e28  h_hi
                        show Go p_ e_ below _ _ T28 (mkF m_ 160 #[.val (.ref a), .val (.int p1), .val (.int p2), .val (.int t), .val (.int ((f t.toNatClampNeg) &&& (255 : Int32))), .val (.int (4 : Int32)), .val (.int lo), .val (.int hi), s8, s9] [])
                        refine Go.iloadN X28 hx (hb hby d3_160) rfl ?_
                        refine Go.iload X28 hx (hb hby d3_161) rfl ?_
                        refine Go.iadd X28 hx (hb hby d3_163) ?_
                        refine Go.iloadN X28 hx (hb hby d3_164) rfl ?_
                        by_cases hc165_29 : p2 < (t + (4 : Int32))
                        · skip
                          refine Go.icmpNo X28 hx (hb hby d3_165) (tlt hc165_29).2.2.2 ?_
                          show Go p_ e_ below _ _ T28 (mkF m_ 168 #[.val (.ref a), .val (.int p1), .val (.int p2), .val (.int t), .val (.int ((f t.toNatClampNeg) &&& (255 : Int32))), .val (.int (4 : Int32)), .val (.int lo), .val (.int hi), s8, s9] [])
                          refine Go.iloadN X28 hx (hb hby d3_168) rfl ?_
                          refine Go.retI X28 hx hret hlk (hb hby d3_169) (by decide) (by decide) ?_
                          have hst : own_nst f t p2 = (0 : Int32) := by subst h_lo h_hi; unfold own_nst; rw [if_neg hc21_3, if_pos hc45_4, if_neg hc67_5, if_pos hc75_22, if_neg hc115_23, if_neg hc123_24, if_pos hc165_29]
                          rw [own_same] at hst
                          exact ⟨by rw [H, own_ref_stop _ _ _ _ hc4_1 hst], N28, e28⟩
                        · skip
                          refine Go.icmpYes X28 hx (pc' := 170) (hb hby d3_165) (flt hc165_29).2.2.2 (by decide) (by decide) ?_
                          show Go p_ e_ below _ _ T28 (mkF m_ 170 #[.val (.ref a), .val (.int p1), .val (.int p2), .val (.int t), .val (.int ((f t.toNatClampNeg) &&& (255 : Int32))), .val (.int (4 : Int32)), .val (.int lo), .val (.int hi), s8, s9] [])
                          refine Go.aloadN X28 hx (hb hby d3_170) rfl rfl ?_
                          refine Go.iloadN X28 hx (hb hby d3_171) rfl ?_
                          refine Go.iconst X28 hx (1 : Int32) (hb hby d3_172) rfl ?_
                          refine Go.iadd X28 hx (hb hby d3_173) ?_
                          have hi30 := own_inb Sz (j := (t + (1 : Int32))) (own_at _ _ (4 : Int32) (1 : Int32) hs_ hlt6 he hc165_29 (by decide) (by decide) (by decide))
                          refine Go.baload X28 hx hZ e28 Ar hi30.1 (El _ hi30.2) (hb hby d3_174) ?_
                          refine Go.sipush X28 hx (255 : Int32) (hb hby d3_175) rfl ?_
                          refine Go.iand X28 hx (hb hby d3_178) ?_
                          refine Go.istoreS X28 hx (hb hby d3_179) rfl o8 ?_
                          refine Go.iload X28 hx (hb hby d3_181) rfl ?_
                          refine Go.iload X28 hx (hb hby d3_183) rfl ?_
                          by_cases hc185_31 : ((f (t + (1 : Int32)).toNatClampNeg) &&& (255 : Int32)) < lo
                          · skip
                            refine Go.icmpYes X28 hx (pc' := 195) (hb hby d3_185) (tlt hc185_31).1 (by decide) (by decide) ?_
                            show Go p_ e_ below _ _ T28 (mkF m_ 195 #[.val (.ref a), .val (.int p1), .val (.int p2), .val (.int t), .val (.int ((f t.toNatClampNeg) &&& (255 : Int32))), .val (.int (4 : Int32)), .val (.int lo), .val (.int hi), .val (.int ((f (t + (1 : Int32)).toNatClampNeg) &&& (255 : Int32))), s9] [])
                            refine Go.iloadN X28 hx (hb hby d3_195) rfl ?_
                            refine Go.retI X28 hx hret hlk (hb hby d3_196) (by decide) (by decide) ?_
                            have hst : own_nst f t p2 = (0 : Int32) := by subst h_lo h_hi; unfold own_nst; rw [if_neg hc21_3, if_pos hc45_4, if_neg hc67_5, if_pos hc75_22, if_neg hc115_23, if_neg hc123_24, if_neg hc165_29, if_pos hc185_31]
                            rw [own_same] at hst
                            exact ⟨by rw [H, own_ref_stop _ _ _ _ hc4_1 hst], N28, e28⟩
                          · skip
                            refine Go.icmpNo X28 hx (hb hby d3_185) (flt hc185_31).1 ?_
                            show Go p_ e_ below _ _ T28 (mkF m_ 188 #[.val (.ref a), .val (.int p1), .val (.int p2), .val (.int t), .val (.int ((f t.toNatClampNeg) &&& (255 : Int32))), .val (.int (4 : Int32)), .val (.int lo), .val (.int hi), .val (.int ((f (t + (1 : Int32)).toNatClampNeg) &&& (255 : Int32))), s9] [])
                            refine Go.iload X28 hx (hb hby d3_188) rfl ?_
                            refine Go.iload X28 hx (hb hby d3_190) rfl ?_
                            by_cases hc192_32 : hi < ((f (t + (1 : Int32)).toNatClampNeg) &&& (255 : Int32))
                            · skip
                              refine Go.icmpNo X28 hx (hb hby d3_192) (tlt hc192_32).2.2.2 ?_
                              show Go p_ e_ below _ _ T28 (mkF m_ 195 #[.val (.ref a), .val (.int p1), .val (.int p2), .val (.int t), .val (.int ((f t.toNatClampNeg) &&& (255 : Int32))), .val (.int (4 : Int32)), .val (.int lo), .val (.int hi), .val (.int ((f (t + (1 : Int32)).toNatClampNeg) &&& (255 : Int32))), s9] [])
                              refine Go.iloadN X28 hx (hb hby d3_195) rfl ?_
                              refine Go.retI X28 hx hret hlk (hb hby d3_196) (by decide) (by decide) ?_
                              have hst : own_nst f t p2 = (0 : Int32) := by subst h_lo h_hi; unfold own_nst; rw [if_neg hc21_3, if_pos hc45_4, if_neg hc67_5, if_pos hc75_22, if_neg hc115_23, if_neg hc123_24, if_neg hc165_29, if_neg hc185_31, if_pos hc192_32]
                              rw [own_same] at hst
                              exact ⟨by rw [H, own_ref_stop _ _ _ _ hc4_1 hst], N28, e28⟩
                            · skip
                              refine Go.icmpYes X28 hx (pc' := 197) (hb hby d3_192) (flt hc192_32).2.2.2 (by decide) (by decide) ?_
                              show Go p_ e_ below _ _ T28 (mkF m_ 197 #[.val (.ref a), .val (.int p1), .val (.int p2), .val (.int t), .val (.int ((f t.toNatClampNeg) &&& (255 : Int32))), .val (.int (4 : Int32)), .val (.int lo), .val (.int hi), .val (.int ((f (t + (1 : Int32)).toNatClampNeg) &&& (255 : Int32))), s9] [])
                              refine Go.iconst X28 hx (2 : Int32) (hb hby d3_197) rfl ?_
                              refine Go.istoreS X28 hx (hb hby d3_198) rfl o9 ?_
                              refine Go.iload X28 hx (hb hby d3_200) rfl ?_
                              refine Go.iload X28 hx (hb hby d3_202) rfl ?_
                              refine Go.icmpNo X28 hx (hb hby d3_204) (tlt (by decide)).2.1 ?_
                              show Go p_ e_ below _ _ T28 (mkF m_ 207 #[.val (.ref a), .val (.int p1), .val (.int p2), .val (.int t), .val (.int ((f t.toNatClampNeg) &&& (255 : Int32))), .val (.int (4 : Int32)), .val (.int lo), .val (.int hi), .val (.int ((f (t + (1 : Int32)).toNatClampNeg) &&& (255 : Int32))), .val (.int (2 : Int32))] [])
                              refine Go.aloadN X28 hx (hb hby d3_207) rfl rfl ?_
                              refine Go.iloadN X28 hx (hb hby d3_208) rfl ?_
                              refine Go.iload X28 hx (hb hby d3_209) rfl ?_
                              refine Go.iadd X28 hx (hb hby d3_211) ?_
                              have hi33 := own_inb Sz (j := (t + (2 : Int32))) (own_at _ _ (4 : Int32) (2 : Int32) hs_ hlt6 he hc165_29 (by decide) (by decide) (by decide))
                              refine Go.baload X28 hx hZ e28 Ar hi33.1 (El _ hi33.2) (hb hby d3_212) ?_
                              refine Go.sipush X28 hx (192 : Int32) (hb hby d3_213) rfl ?_
                              refine Go.iand X28 hx (hb hby d3_216) ?_
                              refine Go.sipush X28 hx (128 : Int32) (hb hby d3_217) rfl ?_
                              by_cases hc220_34 : ((f (t + (2 : Int32)).toNatClampNeg) &&& (192 : Int32)) = (128 : Int32)
                              · skip
                                refine Go.icmpYes X28 hx (pc' := 225) (hb hby d3_220) (teq hc220_34).1 (by decide) (by decide) ?_
                                show Go p_ e_ below _ _ T28 (mkF m_ 225 #[.val (.ref a), .val (.int p1), .val (.int p2), .val (.int t), .val (.int ((f t.toNatClampNeg) &&& (255 : Int32))), .val (.int (4 : Int32)), .val (.int lo), .val (.int hi), .val (.int ((f (t + (1 : Int32)).toNatClampNeg) &&& (255 : Int32))), .val (.int (2 : Int32))] [])
                                refine Go.iincF X28 hx (l' := #[.val (.ref a), .val (.int p1), .val (.int p2), .val (.int t), .val (.int ((f t.toNatClampNeg) &&& (255 : Int32))), .val (.int (4 : Int32)), .val (.int lo), .val (.int hi), .val (.int ((f (t + (1 : Int32)).toNatClampNeg) &&& (255 : Int32))), .val (.int (3 : Int32))]) (1 : Int32) (3 : Int32) (hb hby d3_225) rfl (by decide) rfl rfl ?_
                                refine Go.goto X28 hx (pc' := 200) (hb hby d3_228) (by decide) (by decide) ?_
                                refine Go.iload X28 hx (hb hby d3_200) rfl ?_
                                refine Go.iload X28 hx (hb hby d3_202) rfl ?_
                                refine Go.icmpNo X28 hx (hb hby d3_204) (tlt (by decide)).2.1 ?_
                                show Go p_ e_ below _ _ T28 (mkF m_ 207 #[.val (.ref a), .val (.int p1), .val (.int p2), .val (.int t), .val (.int ((f t.toNatClampNeg) &&& (255 : Int32))), .val (.int (4 : Int32)), .val (.int lo), .val (.int hi), .val (.int ((f (t + (1 : Int32)).toNatClampNeg) &&& (255 : Int32))), .val (.int (3 : Int32))] [])
                                refine Go.aloadN X28 hx (hb hby d3_207) rfl rfl ?_
                                refine Go.iloadN X28 hx (hb hby d3_208) rfl ?_
                                refine Go.iload X28 hx (hb hby d3_209) rfl ?_
                                refine Go.iadd X28 hx (hb hby d3_211) ?_
                                have hi35 := own_inb Sz (j := (t + (3 : Int32))) (own_at _ _ (4 : Int32) (3 : Int32) hs_ hlt6 he hc165_29 (by decide) (by decide) (by decide))
                                refine Go.baload X28 hx hZ e28 Ar hi35.1 (El _ hi35.2) (hb hby d3_212) ?_
                                refine Go.sipush X28 hx (192 : Int32) (hb hby d3_213) rfl ?_
                                refine Go.iand X28 hx (hb hby d3_216) ?_
                                refine Go.sipush X28 hx (128 : Int32) (hb hby d3_217) rfl ?_
                                by_cases hc220_36 : ((f (t + (3 : Int32)).toNatClampNeg) &&& (192 : Int32)) = (128 : Int32)
                                · skip
                                  refine Go.icmpYes X28 hx (pc' := 225) (hb hby d3_220) (teq hc220_36).1 (by decide) (by decide) ?_
                                  show Go p_ e_ below _ _ T28 (mkF m_ 225 #[.val (.ref a), .val (.int p1), .val (.int p2), .val (.int t), .val (.int ((f t.toNatClampNeg) &&& (255 : Int32))), .val (.int (4 : Int32)), .val (.int lo), .val (.int hi), .val (.int ((f (t + (1 : Int32)).toNatClampNeg) &&& (255 : Int32))), .val (.int (3 : Int32))] [])
                                  refine Go.iincF X28 hx (l' := #[.val (.ref a), .val (.int p1), .val (.int p2), .val (.int t), .val (.int ((f t.toNatClampNeg) &&& (255 : Int32))), .val (.int (4 : Int32)), .val (.int lo), .val (.int hi), .val (.int ((f (t + (1 : Int32)).toNatClampNeg) &&& (255 : Int32))), .val (.int (4 : Int32))]) (1 : Int32) (4 : Int32) (hb hby d3_225) rfl (by decide) rfl rfl ?_
                                  refine Go.goto X28 hx (pc' := 200) (hb hby d3_228) (by decide) (by decide) ?_
                                  refine Go.iload X28 hx (hb hby d3_200) rfl ?_
                                  refine Go.iload X28 hx (hb hby d3_202) rfl ?_
                                  refine Go.icmpYes X28 hx (pc' := 231) (hb hby d3_204) (flt (by decide)).2.1 (by decide) (by decide) ?_
                                  show Go p_ e_ below _ _ T28 (mkF m_ 231 #[.val (.ref a), .val (.int p1), .val (.int p2), .val (.int t), .val (.int ((f t.toNatClampNeg) &&& (255 : Int32))), .val (.int (4 : Int32)), .val (.int lo), .val (.int hi), .val (.int ((f (t + (1 : Int32)).toNatClampNeg) &&& (255 : Int32))), .val (.int (4 : Int32))] [])
                                  refine Go.iloadN X28 hx (hb hby d3_231) rfl ?_
                                  refine Go.iload X28 hx (hb hby d3_232) rfl ?_
                                  refine Go.iadd X28 hx (hb hby d3_234) ?_
                                  refine Go.istoreN X28 hx (l' := #[.val (.ref a), .val (.int p1), .val (.int p2), .val (.int (t + (4 : Int32))), .val (.int ((f t.toNatClampNeg) &&& (255 : Int32))), .val (.int (4 : Int32)), .val (.int lo), .val (.int hi), .val (.int ((f (t + (1 : Int32)).toNatClampNeg) &&& (255 : Int32))), .val (.int (4 : Int32))]) (hb hby d3_235) rfl ?_
                                  refine Go.goto X28 hx (pc' := 2) (hb hby d3_236) (by decide) (by decide) ?_
                                  show Go p_ e_ below _ _ T28 (mkF m_ 2 #[.val (.ref a), .val (.int p1), .val (.int p2), .val (.int (t + (4 : Int32))), .val (.int ((f t.toNatClampNeg) &&& (255 : Int32))), .val (.int (4 : Int32)), .val (.int lo), .val (.int hi), .val (.int ((f (t + (1 : Int32)).toNatClampNeg) &&& (255 : Int32))), .val (.int (4 : Int32))] [])
                                  have hst : own_nst f t p2 = (4 : Int32) := by subst h_lo h_hi; unfold own_nst; rw [if_neg hc21_3, if_pos hc45_4, if_neg hc67_5, if_pos hc75_22, if_neg hc115_23, if_neg hc123_24, if_neg hc165_29, if_neg hc185_31, if_neg hc192_32, if_pos hc220_34, if_pos hc220_36]
                                  rw [own_same] at hst
                                  have hnz : ¬ own_seq f t p2 = 0 := by rw [hst]; decide
                                  have H2 := own_ref_go f p2 n t hc4_1 hnz
                                  have bd := own_seq_bd f t p2 g0 (Int32.lt_iff_toInt_lt.mp hc4_1) he hnz
                                  rw [hst] at bd H2
                                  exact ih _ _ _ (.val (.int ((f t.toNatClampNeg) &&& (255 : Int32)))) (.val (.int (4 : Int32))) (.val (.int lo)) (.val (.int hi)) (.val (.int ((f (t + (1 : Int32)).toNatClampNeg) &&& (255 : Int32)))) (.val (.int (4 : Int32))) X28 N28 e28 (One.val rfl) (One.val rfl) (One.val rfl) (One.val rfl) (One.val rfl) (One.val rfl) (by omega) (by omega) (by omega) (H.trans H2)
                                · skip
                                  refine Go.icmpNo X28 hx (hb hby d3_220) (feq hc220_36).1 ?_
                                  show Go p_ e_ below _ _ T28 (mkF m_ 223 #[.val (.ref a), .val (.int p1), .val (.int p2), .val (.int t), .val (.int ((f t.toNatClampNeg) &&& (255 : Int32))), .val (.int (4 : Int32)), .val (.int lo), .val (.int hi), .val (.int ((f (t + (1 : Int32)).toNatClampNeg) &&& (255 : Int32))), .val (.int (3 : Int32))] [])
                                  refine Go.iloadN X28 hx (hb hby d3_223) rfl ?_
                                  refine Go.retI X28 hx hret hlk (hb hby d3_224) (by decide) (by decide) ?_
                                  have hst : own_nst f t p2 = (0 : Int32) := by subst h_lo h_hi; unfold own_nst; rw [if_neg hc21_3, if_pos hc45_4, if_neg hc67_5, if_pos hc75_22, if_neg hc115_23, if_neg hc123_24, if_neg hc165_29, if_neg hc185_31, if_neg hc192_32, if_pos hc220_34, if_neg hc220_36]
                                  rw [own_same] at hst
                                  exact ⟨by rw [H, own_ref_stop _ _ _ _ hc4_1 hst], N28, e28⟩
                              · skip
                                refine Go.icmpNo X28 hx (hb hby d3_220) (feq hc220_34).1 ?_
                                show Go p_ e_ below _ _ T28 (mkF m_ 223 #[.val (.ref a), .val (.int p1), .val (.int p2), .val (.int t), .val (.int ((f t.toNatClampNeg) &&& (255 : Int32))), .val (.int (4 : Int32)), .val (.int lo), .val (.int hi), .val (.int ((f (t + (1 : Int32)).toNatClampNeg) &&& (255 : Int32))), .val (.int (2 : Int32))] [])
                                refine Go.iloadN X28 hx (hb hby d3_223) rfl ?_
                                refine Go.retI X28 hx hret hlk (hb hby d3_224) (by decide) (by decide) ?_
                                have hst : own_nst f t p2 = (0 : Int32) := by subst h_lo h_hi; unfold own_nst; rw [if_neg hc21_3, if_pos hc45_4, if_neg hc67_5, if_pos hc75_22, if_neg hc115_23, if_neg hc123_24, if_neg hc165_29, if_neg hc185_31, if_neg hc192_32, if_neg hc220_34]
                                rw [own_same] at hst
                                exact ⟨by rw [H, own_ref_stop _ _ _ _ hc4_1 hst], N28, e28⟩
                      show Go p_ e_ below _ _ T26 (mkF m_ 142 #[.val (.ref a), .val (.int p1), .val (.int p2), .val (.int t), .val (.int ((f t.toNatClampNeg) &&& (255 : Int32))), .val (.int (4 : Int32)), .val (.int lo), .val (.int (191 : Int32)), s8, s9] [])
                      refine Go.iload X26 hx (hb hby d3_142) rfl ?_
                      refine Go.sipush X26 hx (244 : Int32) (hb hby d3_144) rfl ?_
                      by_cases hc147_37 : ((f t.toNatClampNeg) &&& (255 : Int32)) = (244 : Int32)
                      · skip
                        refine Go.icmpNo X26 hx (hb hby d3_147) (teq hc147_37).2 ?_
                        show Go p_ e_ below _ _ T26 (mkF m_ 150 #[.val (.ref a), .val (.int p1), .val (.int p2), .val (.int t), .val (.int ((f t.toNatClampNeg) &&& (255 : Int32))), .val (.int (4 : Int32)), .val (.int lo), .val (.int (191 : Int32)), s8, s9] [])
                        refine Go.sipush X26 hx (143 : Int32) (hb hby d3_150) rfl ?_
                        refine Go.istore X26 hx (l' := #[.val (.ref a), .val (.int p1), .val (.int p2), .val (.int t), .val (.int ((f t.toNatClampNeg) &&& (255 : Int32))), .val (.int (4 : Int32)), .val (.int lo), .val (.int (143 : Int32)), s8, s9]) (hb hby d3_153) rfl ?_
                        refine Go.goto X26 hx (pc' := 160) (hb hby d3_155) (by decide) (by decide) ?_
                        show Go p_ e_ below _ _ T26 (mkF m_ 160 #[.val (.ref a), .val (.int p1), .val (.int p2), .val (.int t), .val (.int ((f t.toNatClampNeg) &&& (255 : Int32))), .val (.int (4 : Int32)), .val (.int lo), .val (.int (143 : Int32)), s8, s9] [])
                        exact j27 _ _ _ X26 N26 e26 (by rw [if_pos hc147_37])
                      · skip
                        refine Go.icmpYes X26 hx (pc' := 160) (hb hby d3_147) (feq hc147_37).2 (by decide) (by decide) ?_
                        show Go p_ e_ below _ _ T26 (mkF m_ 160 #[.val (.ref a), .val (.int p1), .val (.int p2), .val (.int t), .val (.int ((f t.toNatClampNeg) &&& (255 : Int32))), .val (.int (4 : Int32)), .val (.int lo), .val (.int (191 : Int32)), s8, s9] [])
                        exact j27 _ _ _ X26 N26 e26 (by rw [if_neg hc147_37])
                    refine Go.iload X1 hx (hb hby d3_129) rfl ?_
                    refine Go.sipush X1 hx (240 : Int32) (hb hby d3_131) rfl ?_
                    by_cases hc134_38 : ((f t.toNatClampNeg) &&& (255 : Int32)) = (240 : Int32)
                    · skip
                      refine Go.icmpNo X1 hx (hb hby d3_134) (teq hc134_38).2 ?_
                      show Go p_ e_ below _ _ T1 (mkF m_ 137 #[.val (.ref a), .val (.int p1), .val (.int p2), .val (.int t), .val (.int ((f t.toNatClampNeg) &&& (255 : Int32))), .val (.int (4 : Int32)), .val (.int (128 : Int32)), .val (.int (191 : Int32)), s8, s9] [])
                      refine Go.sipush X1 hx (144 : Int32) (hb hby d3_137) rfl ?_
                      refine Go.istore X1 hx (l' := #[.val (.ref a), .val (.int p1), .val (.int p2), .val (.int t), .val (.int ((f t.toNatClampNeg) &&& (255 : Int32))), .val (.int (4 : Int32)), .val (.int (144 : Int32)), .val (.int (191 : Int32)), s8, s9]) (hb hby d3_140) rfl ?_
                      show Go p_ e_ below _ _ T1 (mkF m_ 142 #[.val (.ref a), .val (.int p1), .val (.int p2), .val (.int t), .val (.int ((f t.toNatClampNeg) &&& (255 : Int32))), .val (.int (4 : Int32)), .val (.int (144 : Int32)), .val (.int (191 : Int32)), s8, s9] [])
                      exact j25 _ _ _ X1 N1 e1 (by rw [if_pos hc134_38])
                    · skip
                      refine Go.icmpYes X1 hx (pc' := 142) (hb hby d3_134) (feq hc134_38).2 (by decide) (by decide) ?_
                      show Go p_ e_ below _ _ T1 (mkF m_ 142 #[.val (.ref a), .val (.int p1), .val (.int p2), .val (.int t), .val (.int ((f t.toNatClampNeg) &&& (255 : Int32))), .val (.int (4 : Int32)), .val (.int (128 : Int32)), .val (.int (191 : Int32)), s8, s9] [])
                      exact j25 _ _ _ X1 N1 e1 (by rw [if_neg hc134_38])
              · skip
                refine Go.icmpNo X1 hx (hb hby d3_75) (flt hc75_22).2.2.1 ?_
                show Go p_ e_ below _ _ T1 (mkF m_ 78 #[.val (.ref a), .val (.int p1), .val (.int p2), .val (.int t), .val (.int ((f t.toNatClampNeg) &&& (255 : Int32))), s5, .val (.int (128 : Int32)), .val (.int (191 : Int32)), s8, s9] [])
                refine Go.iconst X1 hx (3 : Int32) (hb hby d3_78) rfl ?_
                refine Go.istoreS X1 hx (hb hby d3_79) rfl o5 ?_
                have j39 : ∀ (T40 : State) (l40 : List Loc) (lo : Int32), Stand p_ l e_ ({ frames := 0, cells := 0, slots := 0, locals := 0 } : Room) s_ m_ #[(.ref a), (.int p1), (.int p2)] below meth c_ T40 l40 0 0 → Fr n0 l40 → T40.heap = h0 → (lo = (if ((f t.toNatClampNeg) &&& (255 : Int32)) = (224 : Int32) then (160 : Int32) else (128 : Int32))) → Go p_ e_ below (FE s_ ({ frames := 0, cells := 0, slots := 0, locals := 0 } : Room).cells ({ frames := 0, cells := 0, slots := 0, locals := 0 } : Room).slots) (Q3 Z a p1 p2 cl f h0 n0) T40 (mkF m_ 94 #[.val (.ref a), .val (.int p1), .val (.int p2), .val (.int t), .val (.int ((f t.toNatClampNeg) &&& (255 : Int32))), .val (.int (3 : Int32)), .val (.int lo), .val (.int (191 : Int32)), s8, s9] []) := by
                  intro T40 l40 lo X40 N40 e40  h_lo
                  have j41 : ∀ (T42 : State) (l42 : List Loc) (hi : Int32), Stand p_ l e_ ({ frames := 0, cells := 0, slots := 0, locals := 0 } : Room) s_ m_ #[(.ref a), (.int p1), (.int p2)] below meth c_ T42 l42 0 0 → Fr n0 l42 → T42.heap = h0 → (hi = (if ((f t.toNatClampNeg) &&& (255 : Int32)) = (237 : Int32) then (159 : Int32) else (191 : Int32))) → Go p_ e_ below (FE s_ ({ frames := 0, cells := 0, slots := 0, locals := 0 } : Room).cells ({ frames := 0, cells := 0, slots := 0, locals := 0 } : Room).slots) (Q3 Z a p1 p2 cl f h0 n0) T42 (mkF m_ 160 #[.val (.ref a), .val (.int p1), .val (.int p2), .val (.int t), .val (.int ((f t.toNatClampNeg) &&& (255 : Int32))), .val (.int (3 : Int32)), .val (.int lo), .val (.int hi), s8, s9] []) := by
                    intro T42 l42 hi X42 N42 e42  h_hi
                    show Go p_ e_ below _ _ T42 (mkF m_ 160 #[.val (.ref a), .val (.int p1), .val (.int p2), .val (.int t), .val (.int ((f t.toNatClampNeg) &&& (255 : Int32))), .val (.int (3 : Int32)), .val (.int lo), .val (.int hi), s8, s9] [])
                    refine Go.iloadN X42 hx (hb hby d3_160) rfl ?_
                    refine Go.iload X42 hx (hb hby d3_161) rfl ?_
                    refine Go.iadd X42 hx (hb hby d3_163) ?_
                    refine Go.iloadN X42 hx (hb hby d3_164) rfl ?_
                    by_cases hc165_43 : p2 < (t + (3 : Int32))
                    · skip
                      refine Go.icmpNo X42 hx (hb hby d3_165) (tlt hc165_43).2.2.2 ?_
                      show Go p_ e_ below _ _ T42 (mkF m_ 168 #[.val (.ref a), .val (.int p1), .val (.int p2), .val (.int t), .val (.int ((f t.toNatClampNeg) &&& (255 : Int32))), .val (.int (3 : Int32)), .val (.int lo), .val (.int hi), s8, s9] [])
                      refine Go.iloadN X42 hx (hb hby d3_168) rfl ?_
                      refine Go.retI X42 hx hret hlk (hb hby d3_169) (by decide) (by decide) ?_
                      have hst : own_nst f t p2 = (0 : Int32) := by subst h_lo h_hi; unfold own_nst; rw [if_neg hc21_3, if_pos hc45_4, if_neg hc67_5, if_neg hc75_22, if_pos hc165_43]
                      rw [own_same] at hst
                      exact ⟨by rw [H, own_ref_stop _ _ _ _ hc4_1 hst], N42, e42⟩
                    · skip
                      refine Go.icmpYes X42 hx (pc' := 170) (hb hby d3_165) (flt hc165_43).2.2.2 (by decide) (by decide) ?_
                      show Go p_ e_ below _ _ T42 (mkF m_ 170 #[.val (.ref a), .val (.int p1), .val (.int p2), .val (.int t), .val (.int ((f t.toNatClampNeg) &&& (255 : Int32))), .val (.int (3 : Int32)), .val (.int lo), .val (.int hi), s8, s9] [])
                      refine Go.aloadN X42 hx (hb hby d3_170) rfl rfl ?_
                      refine Go.iloadN X42 hx (hb hby d3_171) rfl ?_
                      refine Go.iconst X42 hx (1 : Int32) (hb hby d3_172) rfl ?_
                      refine Go.iadd X42 hx (hb hby d3_173) ?_
                      have hi44 := own_inb Sz (j := (t + (1 : Int32))) (own_at _ _ (3 : Int32) (1 : Int32) hs_ hlt6 he hc165_43 (by decide) (by decide) (by decide))
                      refine Go.baload X42 hx hZ e42 Ar hi44.1 (El _ hi44.2) (hb hby d3_174) ?_
                      refine Go.sipush X42 hx (255 : Int32) (hb hby d3_175) rfl ?_
                      refine Go.iand X42 hx (hb hby d3_178) ?_
                      refine Go.istoreS X42 hx (hb hby d3_179) rfl o8 ?_
                      refine Go.iload X42 hx (hb hby d3_181) rfl ?_
                      refine Go.iload X42 hx (hb hby d3_183) rfl ?_
                      by_cases hc185_45 : ((f (t + (1 : Int32)).toNatClampNeg) &&& (255 : Int32)) < lo
                      · skip
                        refine Go.icmpYes X42 hx (pc' := 195) (hb hby d3_185) (tlt hc185_45).1 (by decide) (by decide) ?_
                        show Go p_ e_ below _ _ T42 (mkF m_ 195 #[.val (.ref a), .val (.int p1), .val (.int p2), .val (.int t), .val (.int ((f t.toNatClampNeg) &&& (255 : Int32))), .val (.int (3 : Int32)), .val (.int lo), .val (.int hi), .val (.int ((f (t + (1 : Int32)).toNatClampNeg) &&& (255 : Int32))), s9] [])
                        refine Go.iloadN X42 hx (hb hby d3_195) rfl ?_
                        refine Go.retI X42 hx hret hlk (hb hby d3_196) (by decide) (by decide) ?_
                        have hst : own_nst f t p2 = (0 : Int32) := by subst h_lo h_hi; unfold own_nst; rw [if_neg hc21_3, if_pos hc45_4, if_neg hc67_5, if_neg hc75_22, if_neg hc165_43, if_pos hc185_45]
                        rw [own_same] at hst
                        exact ⟨by rw [H, own_ref_stop _ _ _ _ hc4_1 hst], N42, e42⟩
                      · skip
                        refine Go.icmpNo X42 hx (hb hby d3_185) (flt hc185_45).1 ?_
                        show Go p_ e_ below _ _ T42 (mkF m_ 188 #[.val (.ref a), .val (.int p1), .val (.int p2), .val (.int t), .val (.int ((f t.toNatClampNeg) &&& (255 : Int32))), .val (.int (3 : Int32)), .val (.int lo), .val (.int hi), .val (.int ((f (t + (1 : Int32)).toNatClampNeg) &&& (255 : Int32))), s9] [])
                        refine Go.iload X42 hx (hb hby d3_188) rfl ?_
                        refine Go.iload X42 hx (hb hby d3_190) rfl ?_
                        by_cases hc192_46 : hi < ((f (t + (1 : Int32)).toNatClampNeg) &&& (255 : Int32))
                        · skip
                          refine Go.icmpNo X42 hx (hb hby d3_192) (tlt hc192_46).2.2.2 ?_
                          show Go p_ e_ below _ _ T42 (mkF m_ 195 #[.val (.ref a), .val (.int p1), .val (.int p2), .val (.int t), .val (.int ((f t.toNatClampNeg) &&& (255 : Int32))), .val (.int (3 : Int32)), .val (.int lo), .val (.int hi), .val (.int ((f (t + (1 : Int32)).toNatClampNeg) &&& (255 : Int32))), s9] [])
                          refine Go.iloadN X42 hx (hb hby d3_195) rfl ?_
                          refine Go.retI X42 hx hret hlk (hb hby d3_196) (by decide) (by decide) ?_
                          have hst : own_nst f t p2 = (0 : Int32) := by subst h_lo h_hi; unfold own_nst; rw [if_neg hc21_3, if_pos hc45_4, if_neg hc67_5, if_neg hc75_22, if_neg hc165_43, if_neg hc185_45, if_pos hc192_46]
                          rw [own_same] at hst
                          exact ⟨by rw [H, own_ref_stop _ _ _ _ hc4_1 hst], N42, e42⟩
                        · skip
                          refine Go.icmpYes X42 hx (pc' := 197) (hb hby d3_192) (flt hc192_46).2.2.2 (by decide) (by decide) ?_
                          show Go p_ e_ below _ _ T42 (mkF m_ 197 #[.val (.ref a), .val (.int p1), .val (.int p2), .val (.int t), .val (.int ((f t.toNatClampNeg) &&& (255 : Int32))), .val (.int (3 : Int32)), .val (.int lo), .val (.int hi), .val (.int ((f (t + (1 : Int32)).toNatClampNeg) &&& (255 : Int32))), s9] [])
                          refine Go.iconst X42 hx (2 : Int32) (hb hby d3_197) rfl ?_
                          refine Go.istoreS X42 hx (hb hby d3_198) rfl o9 ?_
                          refine Go.iload X42 hx (hb hby d3_200) rfl ?_
                          refine Go.iload X42 hx (hb hby d3_202) rfl ?_
                          refine Go.icmpNo X42 hx (hb hby d3_204) (tlt (by decide)).2.1 ?_
                          show Go p_ e_ below _ _ T42 (mkF m_ 207 #[.val (.ref a), .val (.int p1), .val (.int p2), .val (.int t), .val (.int ((f t.toNatClampNeg) &&& (255 : Int32))), .val (.int (3 : Int32)), .val (.int lo), .val (.int hi), .val (.int ((f (t + (1 : Int32)).toNatClampNeg) &&& (255 : Int32))), .val (.int (2 : Int32))] [])
                          refine Go.aloadN X42 hx (hb hby d3_207) rfl rfl ?_
                          refine Go.iloadN X42 hx (hb hby d3_208) rfl ?_
                          refine Go.iload X42 hx (hb hby d3_209) rfl ?_
                          refine Go.iadd X42 hx (hb hby d3_211) ?_
                          have hi47 := own_inb Sz (j := (t + (2 : Int32))) (own_at _ _ (3 : Int32) (2 : Int32) hs_ hlt6 he hc165_43 (by decide) (by decide) (by decide))
                          refine Go.baload X42 hx hZ e42 Ar hi47.1 (El _ hi47.2) (hb hby d3_212) ?_
                          refine Go.sipush X42 hx (192 : Int32) (hb hby d3_213) rfl ?_
                          refine Go.iand X42 hx (hb hby d3_216) ?_
                          refine Go.sipush X42 hx (128 : Int32) (hb hby d3_217) rfl ?_
                          by_cases hc220_48 : ((f (t + (2 : Int32)).toNatClampNeg) &&& (192 : Int32)) = (128 : Int32)
                          · skip
                            refine Go.icmpYes X42 hx (pc' := 225) (hb hby d3_220) (teq hc220_48).1 (by decide) (by decide) ?_
                            show Go p_ e_ below _ _ T42 (mkF m_ 225 #[.val (.ref a), .val (.int p1), .val (.int p2), .val (.int t), .val (.int ((f t.toNatClampNeg) &&& (255 : Int32))), .val (.int (3 : Int32)), .val (.int lo), .val (.int hi), .val (.int ((f (t + (1 : Int32)).toNatClampNeg) &&& (255 : Int32))), .val (.int (2 : Int32))] [])
                            refine Go.iincF X42 hx (l' := #[.val (.ref a), .val (.int p1), .val (.int p2), .val (.int t), .val (.int ((f t.toNatClampNeg) &&& (255 : Int32))), .val (.int (3 : Int32)), .val (.int lo), .val (.int hi), .val (.int ((f (t + (1 : Int32)).toNatClampNeg) &&& (255 : Int32))), .val (.int (3 : Int32))]) (1 : Int32) (3 : Int32) (hb hby d3_225) rfl (by decide) rfl rfl ?_
                            refine Go.goto X42 hx (pc' := 200) (hb hby d3_228) (by decide) (by decide) ?_
                            refine Go.iload X42 hx (hb hby d3_200) rfl ?_
                            refine Go.iload X42 hx (hb hby d3_202) rfl ?_
                            refine Go.icmpYes X42 hx (pc' := 231) (hb hby d3_204) (flt (by decide)).2.1 (by decide) (by decide) ?_
                            show Go p_ e_ below _ _ T42 (mkF m_ 231 #[.val (.ref a), .val (.int p1), .val (.int p2), .val (.int t), .val (.int ((f t.toNatClampNeg) &&& (255 : Int32))), .val (.int (3 : Int32)), .val (.int lo), .val (.int hi), .val (.int ((f (t + (1 : Int32)).toNatClampNeg) &&& (255 : Int32))), .val (.int (3 : Int32))] [])
                            refine Go.iloadN X42 hx (hb hby d3_231) rfl ?_
                            refine Go.iload X42 hx (hb hby d3_232) rfl ?_
                            refine Go.iadd X42 hx (hb hby d3_234) ?_
                            refine Go.istoreN X42 hx (l' := #[.val (.ref a), .val (.int p1), .val (.int p2), .val (.int (t + (3 : Int32))), .val (.int ((f t.toNatClampNeg) &&& (255 : Int32))), .val (.int (3 : Int32)), .val (.int lo), .val (.int hi), .val (.int ((f (t + (1 : Int32)).toNatClampNeg) &&& (255 : Int32))), .val (.int (3 : Int32))]) (hb hby d3_235) rfl ?_
                            refine Go.goto X42 hx (pc' := 2) (hb hby d3_236) (by decide) (by decide) ?_
                            show Go p_ e_ below _ _ T42 (mkF m_ 2 #[.val (.ref a), .val (.int p1), .val (.int p2), .val (.int (t + (3 : Int32))), .val (.int ((f t.toNatClampNeg) &&& (255 : Int32))), .val (.int (3 : Int32)), .val (.int lo), .val (.int hi), .val (.int ((f (t + (1 : Int32)).toNatClampNeg) &&& (255 : Int32))), .val (.int (3 : Int32))] [])
                            have hst : own_nst f t p2 = (3 : Int32) := by subst h_lo h_hi; unfold own_nst; rw [if_neg hc21_3, if_pos hc45_4, if_neg hc67_5, if_neg hc75_22, if_neg hc165_43, if_neg hc185_45, if_neg hc192_46, if_pos hc220_48]
                            rw [own_same] at hst
                            have hnz : ¬ own_seq f t p2 = 0 := by rw [hst]; decide
                            have H2 := own_ref_go f p2 n t hc4_1 hnz
                            have bd := own_seq_bd f t p2 g0 (Int32.lt_iff_toInt_lt.mp hc4_1) he hnz
                            rw [hst] at bd H2
                            exact ih _ _ _ (.val (.int ((f t.toNatClampNeg) &&& (255 : Int32)))) (.val (.int (3 : Int32))) (.val (.int lo)) (.val (.int hi)) (.val (.int ((f (t + (1 : Int32)).toNatClampNeg) &&& (255 : Int32)))) (.val (.int (3 : Int32))) X42 N42 e42 (One.val rfl) (One.val rfl) (One.val rfl) (One.val rfl) (One.val rfl) (One.val rfl) (by omega) (by omega) (by omega) (H.trans H2)
                          · skip
                            refine Go.icmpNo X42 hx (hb hby d3_220) (feq hc220_48).1 ?_
                            show Go p_ e_ below _ _ T42 (mkF m_ 223 #[.val (.ref a), .val (.int p1), .val (.int p2), .val (.int t), .val (.int ((f t.toNatClampNeg) &&& (255 : Int32))), .val (.int (3 : Int32)), .val (.int lo), .val (.int hi), .val (.int ((f (t + (1 : Int32)).toNatClampNeg) &&& (255 : Int32))), .val (.int (2 : Int32))] [])
                            refine Go.iloadN X42 hx (hb hby d3_223) rfl ?_
                            refine Go.retI X42 hx hret hlk (hb hby d3_224) (by decide) (by decide) ?_
                            have hst : own_nst f t p2 = (0 : Int32) := by subst h_lo h_hi; unfold own_nst; rw [if_neg hc21_3, if_pos hc45_4, if_neg hc67_5, if_neg hc75_22, if_neg hc165_43, if_neg hc185_45, if_neg hc192_46, if_neg hc220_48]
                            rw [own_same] at hst
                            exact ⟨by rw [H, own_ref_stop _ _ _ _ hc4_1 hst], N42, e42⟩
                  show Go p_ e_ below _ _ T40 (mkF m_ 94 #[.val (.ref a), .val (.int p1), .val (.int p2), .val (.int t), .val (.int ((f t.toNatClampNeg) &&& (255 : Int32))), .val (.int (3 : Int32)), .val (.int lo), .val (.int (191 : Int32)), s8, s9] [])
                  refine Go.iload X40 hx (hb hby d3_94) rfl ?_
                  refine Go.sipush X40 hx (237 : Int32) (hb hby d3_96) rfl ?_
                  by_cases hc99_49 : ((f t.toNatClampNeg) &&& (255 : Int32)) = (237 : Int32)
                  · skip
                    refine Go.icmpNo X40 hx (hb hby d3_99) (teq hc99_49).2 ?_
                    show Go p_ e_ below _ _ T40 (mkF m_ 102 #[.val (.ref a), .val (.int p1), .val (.int p2), .val (.int t), .val (.int ((f t.toNatClampNeg) &&& (255 : Int32))), .val (.int (3 : Int32)), .val (.int lo), .val (.int (191 : Int32)), s8, s9] [])
                    refine Go.sipush X40 hx (159 : Int32) (hb hby d3_102) rfl ?_
                    refine Go.istore X40 hx (l' := #[.val (.ref a), .val (.int p1), .val (.int p2), .val (.int t), .val (.int ((f t.toNatClampNeg) &&& (255 : Int32))), .val (.int (3 : Int32)), .val (.int lo), .val (.int (159 : Int32)), s8, s9]) (hb hby d3_105) rfl ?_
                    refine Go.goto X40 hx (pc' := 160) (hb hby d3_107) (by decide) (by decide) ?_
                    show Go p_ e_ below _ _ T40 (mkF m_ 160 #[.val (.ref a), .val (.int p1), .val (.int p2), .val (.int t), .val (.int ((f t.toNatClampNeg) &&& (255 : Int32))), .val (.int (3 : Int32)), .val (.int lo), .val (.int (159 : Int32)), s8, s9] [])
                    exact j41 _ _ _ X40 N40 e40 (by rw [if_pos hc99_49])
                  · skip
                    refine Go.icmpYes X40 hx (pc' := 160) (hb hby d3_99) (feq hc99_49).2 (by decide) (by decide) ?_
                    show Go p_ e_ below _ _ T40 (mkF m_ 160 #[.val (.ref a), .val (.int p1), .val (.int p2), .val (.int t), .val (.int ((f t.toNatClampNeg) &&& (255 : Int32))), .val (.int (3 : Int32)), .val (.int lo), .val (.int (191 : Int32)), s8, s9] [])
                    exact j41 _ _ _ X40 N40 e40 (by rw [if_neg hc99_49])
                refine Go.iload X1 hx (hb hby d3_81) rfl ?_
                refine Go.sipush X1 hx (224 : Int32) (hb hby d3_83) rfl ?_
                by_cases hc86_50 : ((f t.toNatClampNeg) &&& (255 : Int32)) = (224 : Int32)
                · skip
                  refine Go.icmpNo X1 hx (hb hby d3_86) (teq hc86_50).2 ?_
                  show Go p_ e_ below _ _ T1 (mkF m_ 89 #[.val (.ref a), .val (.int p1), .val (.int p2), .val (.int t), .val (.int ((f t.toNatClampNeg) &&& (255 : Int32))), .val (.int (3 : Int32)), .val (.int (128 : Int32)), .val (.int (191 : Int32)), s8, s9] [])
                  refine Go.sipush X1 hx (160 : Int32) (hb hby d3_89) rfl ?_
                  refine Go.istore X1 hx (l' := #[.val (.ref a), .val (.int p1), .val (.int p2), .val (.int t), .val (.int ((f t.toNatClampNeg) &&& (255 : Int32))), .val (.int (3 : Int32)), .val (.int (160 : Int32)), .val (.int (191 : Int32)), s8, s9]) (hb hby d3_92) rfl ?_
                  show Go p_ e_ below _ _ T1 (mkF m_ 94 #[.val (.ref a), .val (.int p1), .val (.int p2), .val (.int t), .val (.int ((f t.toNatClampNeg) &&& (255 : Int32))), .val (.int (3 : Int32)), .val (.int (160 : Int32)), .val (.int (191 : Int32)), s8, s9] [])
                  exact j39 _ _ _ X1 N1 e1 (by rw [if_pos hc86_50])
                · skip
                  refine Go.icmpYes X1 hx (pc' := 94) (hb hby d3_86) (feq hc86_50).2 (by decide) (by decide) ?_
                  show Go p_ e_ below _ _ T1 (mkF m_ 94 #[.val (.ref a), .val (.int p1), .val (.int p2), .val (.int t), .val (.int ((f t.toNatClampNeg) &&& (255 : Int32))), .val (.int (3 : Int32)), .val (.int (128 : Int32)), .val (.int (191 : Int32)), s8, s9] [])
                  exact j39 _ _ _ X1 N1 e1 (by rw [if_neg hc86_50])
          · skip
            refine Go.icmpNo X1 hx (hb hby d3_45) (flt hc45_4).1 ?_
            show Go p_ e_ below _ _ T1 (mkF m_ 48 #[.val (.ref a), .val (.int p1), .val (.int p2), .val (.int t), .val (.int ((f t.toNatClampNeg) &&& (255 : Int32))), s5, .val (.int (128 : Int32)), .val (.int (191 : Int32)), s8, s9] [])
            refine Go.iload X1 hx (hb hby d3_48) rfl ?_
            refine Go.sipush X1 hx (223 : Int32) (hb hby d3_50) rfl ?_
            by_cases hc53_51 : (223 : Int32) < ((f t.toNatClampNeg) &&& (255 : Int32))
            · skip
              refine Go.icmpYes X1 hx (pc' := 62) (hb hby d3_53) (tlt hc53_51).2.2.1 (by decide) (by decide) ?_
              show Go p_ e_ below _ _ T1 (mkF m_ 62 #[.val (.ref a), .val (.int p1), .val (.int p2), .val (.int t), .val (.int ((f t.toNatClampNeg) &&& (255 : Int32))), s5, .val (.int (128 : Int32)), .val (.int (191 : Int32)), s8, s9] [])
              refine Go.iload X1 hx (hb hby d3_62) rfl ?_
              refine Go.sipush X1 hx (224 : Int32) (hb hby d3_64) rfl ?_
              by_cases hc67_52 : ((f t.toNatClampNeg) &&& (255 : Int32)) < (224 : Int32)
              · skip
                refine Go.icmpYes X1 hx (pc' := 110) (hb hby d3_67) (tlt hc67_52).1 (by decide) (by decide) ?_
                show Go p_ e_ below _ _ T1 (mkF m_ 110 #[.val (.ref a), .val (.int p1), .val (.int p2), .val (.int t), .val (.int ((f t.toNatClampNeg) &&& (255 : Int32))), s5, .val (.int (128 : Int32)), .val (.int (191 : Int32)), s8, s9] [])
                refine Go.iload X1 hx (hb hby d3_110) rfl ?_
                refine Go.sipush X1 hx (240 : Int32) (hb hby d3_112) rfl ?_
                by_cases hc115_53 : ((f t.toNatClampNeg) &&& (255 : Int32)) < (240 : Int32)
                · skip
                  refine Go.icmpYes X1 hx (pc' := 158) (hb hby d3_115) (tlt hc115_53).1 (by decide) (by decide) ?_
                  show Go p_ e_ below _ _ T1 (mkF m_ 158 #[.val (.ref a), .val (.int p1), .val (.int p2), .val (.int t), .val (.int ((f t.toNatClampNeg) &&& (255 : Int32))), s5, .val (.int (128 : Int32)), .val (.int (191 : Int32)), s8, s9] [])
                  refine Go.iloadN X1 hx (hb hby d3_158) rfl ?_
                  refine Go.retI X1 hx hret hlk (hb hby d3_159) (by decide) (by decide) ?_
                  have hst : own_nst f t p2 = (0 : Int32) := by unfold own_nst; rw [if_neg hc21_3, if_neg hc45_4, if_pos hc53_51, if_pos hc67_52, if_pos hc115_53]
                  rw [own_same] at hst
                  exact ⟨by rw [H, own_ref_stop _ _ _ _ hc4_1 hst], N1, e1⟩
                · skip
                  refine Go.icmpNo X1 hx (hb hby d3_115) (flt hc115_53).1 ?_
                  show Go p_ e_ below _ _ T1 (mkF m_ 118 #[.val (.ref a), .val (.int p1), .val (.int p2), .val (.int t), .val (.int ((f t.toNatClampNeg) &&& (255 : Int32))), s5, .val (.int (128 : Int32)), .val (.int (191 : Int32)), s8, s9] [])
                  refine Go.iload X1 hx (hb hby d3_118) rfl ?_
                  refine Go.sipush X1 hx (244 : Int32) (hb hby d3_120) rfl ?_
                  by_cases hc123_54 : (244 : Int32) < ((f t.toNatClampNeg) &&& (255 : Int32))
                  · skip
                    refine Go.icmpYes X1 hx (pc' := 158) (hb hby d3_123) (tlt hc123_54).2.2.1 (by decide) (by decide) ?_
                    show Go p_ e_ below _ _ T1 (mkF m_ 158 #[.val (.ref a), .val (.int p1), .val (.int p2), .val (.int t), .val (.int ((f t.toNatClampNeg) &&& (255 : Int32))), s5, .val (.int (128 : Int32)), .val (.int (191 : Int32)), s8, s9] [])
                    refine Go.iloadN X1 hx (hb hby d3_158) rfl ?_
                    refine Go.retI X1 hx hret hlk (hb hby d3_159) (by decide) (by decide) ?_
                    have hst : own_nst f t p2 = (0 : Int32) := by unfold own_nst; rw [if_neg hc21_3, if_neg hc45_4, if_pos hc53_51, if_pos hc67_52, if_neg hc115_53, if_pos hc123_54]
                    rw [own_same] at hst
                    exact ⟨by rw [H, own_ref_stop _ _ _ _ hc4_1 hst], N1, e1⟩
                  · skip
                    refine Go.icmpNo X1 hx (hb hby d3_123) (flt hc123_54).2.2.1 ?_
                    show Go p_ e_ below _ _ T1 (mkF m_ 126 #[.val (.ref a), .val (.int p1), .val (.int p2), .val (.int t), .val (.int ((f t.toNatClampNeg) &&& (255 : Int32))), s5, .val (.int (128 : Int32)), .val (.int (191 : Int32)), s8, s9] [])
                    refine Go.iconst X1 hx (4 : Int32) (hb hby d3_126) rfl ?_
                    refine Go.istoreS X1 hx (hb hby d3_127) rfl o5 ?_
                    have j55 : ∀ (T56 : State) (l56 : List Loc) (lo : Int32), Stand p_ l e_ ({ frames := 0, cells := 0, slots := 0, locals := 0 } : Room) s_ m_ #[(.ref a), (.int p1), (.int p2)] below meth c_ T56 l56 0 0 → Fr n0 l56 → T56.heap = h0 → (lo = (if ((f t.toNatClampNeg) &&& (255 : Int32)) = (240 : Int32) then (144 : Int32) else (128 : Int32))) → Go p_ e_ below (FE s_ ({ frames := 0, cells := 0, slots := 0, locals := 0 } : Room).cells ({ frames := 0, cells := 0, slots := 0, locals := 0 } : Room).slots) (Q3 Z a p1 p2 cl f h0 n0) T56 (mkF m_ 142 #[.val (.ref a), .val (.int p1), .val (.int p2), .val (.int t), .val (.int ((f t.toNatClampNeg) &&& (255 : Int32))), .val (.int (4 : Int32)), .val (.int lo), .val (.int (191 : Int32)), s8, s9] []) := by
                      intro T56 l56 lo X56 N56 e56  h_lo
                      have j57 : ∀ (T58 : State) (l58 : List Loc) (hi : Int32), Stand p_ l e_ ({ frames := 0, cells := 0, slots := 0, locals := 0 } : Room) s_ m_ #[(.ref a), (.int p1), (.int p2)] below meth c_ T58 l58 0 0 → Fr n0 l58 → T58.heap = h0 → (hi = (if ((f t.toNatClampNeg) &&& (255 : Int32)) = (244 : Int32) then (143 : Int32) else (191 : Int32))) → Go p_ e_ below (FE s_ ({ frames := 0, cells := 0, slots := 0, locals := 0 } : Room).cells ({ frames := 0, cells := 0, slots := 0, locals := 0 } : Room).slots) (Q3 Z a p1 p2 cl f h0 n0) T58 (mkF m_ 160 #[.val (.ref a), .val (.int p1), .val (.int p2), .val (.int t), .val (.int ((f t.toNatClampNeg) &&& (255 : Int32))), .val (.int (4 : Int32)), .val (.int lo), .val (.int hi), s8, s9] []) := by
                        intro T58 l58 hi X58 N58 e58  h_hi
                        show Go p_ e_ below _ _ T58 (mkF m_ 160 #[.val (.ref a), .val (.int p1), .val (.int p2), .val (.int t), .val (.int ((f t.toNatClampNeg) &&& (255 : Int32))), .val (.int (4 : Int32)), .val (.int lo), .val (.int hi), s8, s9] [])
                        refine Go.iloadN X58 hx (hb hby d3_160) rfl ?_
                        refine Go.iload X58 hx (hb hby d3_161) rfl ?_
                        refine Go.iadd X58 hx (hb hby d3_163) ?_
                        refine Go.iloadN X58 hx (hb hby d3_164) rfl ?_
                        by_cases hc165_59 : p2 < (t + (4 : Int32))
                        · skip
                          refine Go.icmpNo X58 hx (hb hby d3_165) (tlt hc165_59).2.2.2 ?_
                          show Go p_ e_ below _ _ T58 (mkF m_ 168 #[.val (.ref a), .val (.int p1), .val (.int p2), .val (.int t), .val (.int ((f t.toNatClampNeg) &&& (255 : Int32))), .val (.int (4 : Int32)), .val (.int lo), .val (.int hi), s8, s9] [])
                          refine Go.iloadN X58 hx (hb hby d3_168) rfl ?_
                          refine Go.retI X58 hx hret hlk (hb hby d3_169) (by decide) (by decide) ?_
                          have hst : own_nst f t p2 = (0 : Int32) := by subst h_lo h_hi; unfold own_nst; rw [if_neg hc21_3, if_neg hc45_4, if_pos hc53_51, if_pos hc67_52, if_neg hc115_53, if_neg hc123_54, if_pos hc165_59]
                          rw [own_same] at hst
                          exact ⟨by rw [H, own_ref_stop _ _ _ _ hc4_1 hst], N58, e58⟩
                        · skip
                          refine Go.icmpYes X58 hx (pc' := 170) (hb hby d3_165) (flt hc165_59).2.2.2 (by decide) (by decide) ?_
                          show Go p_ e_ below _ _ T58 (mkF m_ 170 #[.val (.ref a), .val (.int p1), .val (.int p2), .val (.int t), .val (.int ((f t.toNatClampNeg) &&& (255 : Int32))), .val (.int (4 : Int32)), .val (.int lo), .val (.int hi), s8, s9] [])
                          refine Go.aloadN X58 hx (hb hby d3_170) rfl rfl ?_
                          refine Go.iloadN X58 hx (hb hby d3_171) rfl ?_
                          refine Go.iconst X58 hx (1 : Int32) (hb hby d3_172) rfl ?_
                          refine Go.iadd X58 hx (hb hby d3_173) ?_
                          have hi60 := own_inb Sz (j := (t + (1 : Int32))) (own_at _ _ (4 : Int32) (1 : Int32) hs_ hlt6 he hc165_59 (by decide) (by decide) (by decide))
                          refine Go.baload X58 hx hZ e58 Ar hi60.1 (El _ hi60.2) (hb hby d3_174) ?_
                          refine Go.sipush X58 hx (255 : Int32) (hb hby d3_175) rfl ?_
                          refine Go.iand X58 hx (hb hby d3_178) ?_
                          refine Go.istoreS X58 hx (hb hby d3_179) rfl o8 ?_
                          refine Go.iload X58 hx (hb hby d3_181) rfl ?_
                          refine Go.iload X58 hx (hb hby d3_183) rfl ?_
                          by_cases hc185_61 : ((f (t + (1 : Int32)).toNatClampNeg) &&& (255 : Int32)) < lo
                          · skip
                            refine Go.icmpYes X58 hx (pc' := 195) (hb hby d3_185) (tlt hc185_61).1 (by decide) (by decide) ?_
                            show Go p_ e_ below _ _ T58 (mkF m_ 195 #[.val (.ref a), .val (.int p1), .val (.int p2), .val (.int t), .val (.int ((f t.toNatClampNeg) &&& (255 : Int32))), .val (.int (4 : Int32)), .val (.int lo), .val (.int hi), .val (.int ((f (t + (1 : Int32)).toNatClampNeg) &&& (255 : Int32))), s9] [])
                            refine Go.iloadN X58 hx (hb hby d3_195) rfl ?_
                            refine Go.retI X58 hx hret hlk (hb hby d3_196) (by decide) (by decide) ?_
                            have hst : own_nst f t p2 = (0 : Int32) := by subst h_lo h_hi; unfold own_nst; rw [if_neg hc21_3, if_neg hc45_4, if_pos hc53_51, if_pos hc67_52, if_neg hc115_53, if_neg hc123_54, if_neg hc165_59, if_pos hc185_61]
                            rw [own_same] at hst
                            exact ⟨by rw [H, own_ref_stop _ _ _ _ hc4_1 hst], N58, e58⟩
                          · skip
                            refine Go.icmpNo X58 hx (hb hby d3_185) (flt hc185_61).1 ?_
                            show Go p_ e_ below _ _ T58 (mkF m_ 188 #[.val (.ref a), .val (.int p1), .val (.int p2), .val (.int t), .val (.int ((f t.toNatClampNeg) &&& (255 : Int32))), .val (.int (4 : Int32)), .val (.int lo), .val (.int hi), .val (.int ((f (t + (1 : Int32)).toNatClampNeg) &&& (255 : Int32))), s9] [])
                            refine Go.iload X58 hx (hb hby d3_188) rfl ?_
                            refine Go.iload X58 hx (hb hby d3_190) rfl ?_
                            by_cases hc192_62 : hi < ((f (t + (1 : Int32)).toNatClampNeg) &&& (255 : Int32))
                            · skip
                              refine Go.icmpNo X58 hx (hb hby d3_192) (tlt hc192_62).2.2.2 ?_
                              show Go p_ e_ below _ _ T58 (mkF m_ 195 #[.val (.ref a), .val (.int p1), .val (.int p2), .val (.int t), .val (.int ((f t.toNatClampNeg) &&& (255 : Int32))), .val (.int (4 : Int32)), .val (.int lo), .val (.int hi), .val (.int ((f (t + (1 : Int32)).toNatClampNeg) &&& (255 : Int32))), s9] [])
                              refine Go.iloadN X58 hx (hb hby d3_195) rfl ?_
                              refine Go.retI X58 hx hret hlk (hb hby d3_196) (by decide) (by decide) ?_
                              have hst : own_nst f t p2 = (0 : Int32) := by subst h_lo h_hi; unfold own_nst; rw [if_neg hc21_3, if_neg hc45_4, if_pos hc53_51, if_pos hc67_52, if_neg hc115_53, if_neg hc123_54, if_neg hc165_59, if_neg hc185_61, if_pos hc192_62]
                              rw [own_same] at hst
                              exact ⟨by rw [H, own_ref_stop _ _ _ _ hc4_1 hst], N58, e58⟩
                            · skip
                              refine Go.icmpYes X58 hx (pc' := 197) (hb hby d3_192) (flt hc192_62).2.2.2 (by decide) (by decide) ?_
                              show Go p_ e_ below _ _ T58 (mkF m_ 197 #[.val (.ref a), .val (.int p1), .val (.int p2), .val (.int t), .val (.int ((f t.toNatClampNeg) &&& (255 : Int32))), .val (.int (4 : Int32)), .val (.int lo), .val (.int hi), .val (.int ((f (t + (1 : Int32)).toNatClampNeg) &&& (255 : Int32))), s9] [])
                              refine Go.iconst X58 hx (2 : Int32) (hb hby d3_197) rfl ?_
                              refine Go.istoreS X58 hx (hb hby d3_198) rfl o9 ?_
                              refine Go.iload X58 hx (hb hby d3_200) rfl ?_
                              refine Go.iload X58 hx (hb hby d3_202) rfl ?_
                              refine Go.icmpNo X58 hx (hb hby d3_204) (tlt (by decide)).2.1 ?_
                              show Go p_ e_ below _ _ T58 (mkF m_ 207 #[.val (.ref a), .val (.int p1), .val (.int p2), .val (.int t), .val (.int ((f t.toNatClampNeg) &&& (255 : Int32))), .val (.int (4 : Int32)), .val (.int lo), .val (.int hi), .val (.int ((f (t + (1 : Int32)).toNatClampNeg) &&& (255 : Int32))), .val (.int (2 : Int32))] [])
                              refine Go.aloadN X58 hx (hb hby d3_207) rfl rfl ?_
                              refine Go.iloadN X58 hx (hb hby d3_208) rfl ?_
                              refine Go.iload X58 hx (hb hby d3_209) rfl ?_
                              refine Go.iadd X58 hx (hb hby d3_211) ?_
                              have hi63 := own_inb Sz (j := (t + (2 : Int32))) (own_at _ _ (4 : Int32) (2 : Int32) hs_ hlt6 he hc165_59 (by decide) (by decide) (by decide))
                              refine Go.baload X58 hx hZ e58 Ar hi63.1 (El _ hi63.2) (hb hby d3_212) ?_
                              refine Go.sipush X58 hx (192 : Int32) (hb hby d3_213) rfl ?_
                              refine Go.iand X58 hx (hb hby d3_216) ?_
                              refine Go.sipush X58 hx (128 : Int32) (hb hby d3_217) rfl ?_
                              by_cases hc220_64 : ((f (t + (2 : Int32)).toNatClampNeg) &&& (192 : Int32)) = (128 : Int32)
                              · skip
                                refine Go.icmpYes X58 hx (pc' := 225) (hb hby d3_220) (teq hc220_64).1 (by decide) (by decide) ?_
                                show Go p_ e_ below _ _ T58 (mkF m_ 225 #[.val (.ref a), .val (.int p1), .val (.int p2), .val (.int t), .val (.int ((f t.toNatClampNeg) &&& (255 : Int32))), .val (.int (4 : Int32)), .val (.int lo), .val (.int hi), .val (.int ((f (t + (1 : Int32)).toNatClampNeg) &&& (255 : Int32))), .val (.int (2 : Int32))] [])
                                refine Go.iincF X58 hx (l' := #[.val (.ref a), .val (.int p1), .val (.int p2), .val (.int t), .val (.int ((f t.toNatClampNeg) &&& (255 : Int32))), .val (.int (4 : Int32)), .val (.int lo), .val (.int hi), .val (.int ((f (t + (1 : Int32)).toNatClampNeg) &&& (255 : Int32))), .val (.int (3 : Int32))]) (1 : Int32) (3 : Int32) (hb hby d3_225) rfl (by decide) rfl rfl ?_
                                refine Go.goto X58 hx (pc' := 200) (hb hby d3_228) (by decide) (by decide) ?_
                                refine Go.iload X58 hx (hb hby d3_200) rfl ?_
                                refine Go.iload X58 hx (hb hby d3_202) rfl ?_
                                refine Go.icmpNo X58 hx (hb hby d3_204) (tlt (by decide)).2.1 ?_
                                show Go p_ e_ below _ _ T58 (mkF m_ 207 #[.val (.ref a), .val (.int p1), .val (.int p2), .val (.int t), .val (.int ((f t.toNatClampNeg) &&& (255 : Int32))), .val (.int (4 : Int32)), .val (.int lo), .val (.int hi), .val (.int ((f (t + (1 : Int32)).toNatClampNeg) &&& (255 : Int32))), .val (.int (3 : Int32))] [])
                                refine Go.aloadN X58 hx (hb hby d3_207) rfl rfl ?_
                                refine Go.iloadN X58 hx (hb hby d3_208) rfl ?_
                                refine Go.iload X58 hx (hb hby d3_209) rfl ?_
                                refine Go.iadd X58 hx (hb hby d3_211) ?_
                                have hi65 := own_inb Sz (j := (t + (3 : Int32))) (own_at _ _ (4 : Int32) (3 : Int32) hs_ hlt6 he hc165_59 (by decide) (by decide) (by decide))
                                refine Go.baload X58 hx hZ e58 Ar hi65.1 (El _ hi65.2) (hb hby d3_212) ?_
                                refine Go.sipush X58 hx (192 : Int32) (hb hby d3_213) rfl ?_
                                refine Go.iand X58 hx (hb hby d3_216) ?_
                                refine Go.sipush X58 hx (128 : Int32) (hb hby d3_217) rfl ?_
                                by_cases hc220_66 : ((f (t + (3 : Int32)).toNatClampNeg) &&& (192 : Int32)) = (128 : Int32)
                                · skip
                                  refine Go.icmpYes X58 hx (pc' := 225) (hb hby d3_220) (teq hc220_66).1 (by decide) (by decide) ?_
                                  show Go p_ e_ below _ _ T58 (mkF m_ 225 #[.val (.ref a), .val (.int p1), .val (.int p2), .val (.int t), .val (.int ((f t.toNatClampNeg) &&& (255 : Int32))), .val (.int (4 : Int32)), .val (.int lo), .val (.int hi), .val (.int ((f (t + (1 : Int32)).toNatClampNeg) &&& (255 : Int32))), .val (.int (3 : Int32))] [])
                                  refine Go.iincF X58 hx (l' := #[.val (.ref a), .val (.int p1), .val (.int p2), .val (.int t), .val (.int ((f t.toNatClampNeg) &&& (255 : Int32))), .val (.int (4 : Int32)), .val (.int lo), .val (.int hi), .val (.int ((f (t + (1 : Int32)).toNatClampNeg) &&& (255 : Int32))), .val (.int (4 : Int32))]) (1 : Int32) (4 : Int32) (hb hby d3_225) rfl (by decide) rfl rfl ?_
                                  refine Go.goto X58 hx (pc' := 200) (hb hby d3_228) (by decide) (by decide) ?_
                                  refine Go.iload X58 hx (hb hby d3_200) rfl ?_
                                  refine Go.iload X58 hx (hb hby d3_202) rfl ?_
                                  refine Go.icmpYes X58 hx (pc' := 231) (hb hby d3_204) (flt (by decide)).2.1 (by decide) (by decide) ?_
                                  show Go p_ e_ below _ _ T58 (mkF m_ 231 #[.val (.ref a), .val (.int p1), .val (.int p2), .val (.int t), .val (.int ((f t.toNatClampNeg) &&& (255 : Int32))), .val (.int (4 : Int32)), .val (.int lo), .val (.int hi), .val (.int ((f (t + (1 : Int32)).toNatClampNeg) &&& (255 : Int32))), .val (.int (4 : Int32))] [])
                                  refine Go.iloadN X58 hx (hb hby d3_231) rfl ?_
                                  refine Go.iload X58 hx (hb hby d3_232) rfl ?_
                                  refine Go.iadd X58 hx (hb hby d3_234) ?_
                                  refine Go.istoreN X58 hx (l' := #[.val (.ref a), .val (.int p1), .val (.int p2), .val (.int (t + (4 : Int32))), .val (.int ((f t.toNatClampNeg) &&& (255 : Int32))), .val (.int (4 : Int32)), .val (.int lo), .val (.int hi), .val (.int ((f (t + (1 : Int32)).toNatClampNeg) &&& (255 : Int32))), .val (.int (4 : Int32))]) (hb hby d3_235) rfl ?_
                                  refine Go.goto X58 hx (pc' := 2) (hb hby d3_236) (by decide) (by decide) ?_
                                  show Go p_ e_ below _ _ T58 (mkF m_ 2 #[.val (.ref a), .val (.int p1), .val (.int p2), .val (.int (t + (4 : Int32))), .val (.int ((f t.toNatClampNeg) &&& (255 : Int32))), .val (.int (4 : Int32)), .val (.int lo), .val (.int hi), .val (.int ((f (t + (1 : Int32)).toNatClampNeg) &&& (255 : Int32))), .val (.int (4 : Int32))] [])
                                  have hst : own_nst f t p2 = (4 : Int32) := by subst h_lo h_hi; unfold own_nst; rw [if_neg hc21_3, if_neg hc45_4, if_pos hc53_51, if_pos hc67_52, if_neg hc115_53, if_neg hc123_54, if_neg hc165_59, if_neg hc185_61, if_neg hc192_62, if_pos hc220_64, if_pos hc220_66]
                                  rw [own_same] at hst
                                  have hnz : ¬ own_seq f t p2 = 0 := by rw [hst]; decide
                                  have H2 := own_ref_go f p2 n t hc4_1 hnz
                                  have bd := own_seq_bd f t p2 g0 (Int32.lt_iff_toInt_lt.mp hc4_1) he hnz
                                  rw [hst] at bd H2
                                  exact ih _ _ _ (.val (.int ((f t.toNatClampNeg) &&& (255 : Int32)))) (.val (.int (4 : Int32))) (.val (.int lo)) (.val (.int hi)) (.val (.int ((f (t + (1 : Int32)).toNatClampNeg) &&& (255 : Int32)))) (.val (.int (4 : Int32))) X58 N58 e58 (One.val rfl) (One.val rfl) (One.val rfl) (One.val rfl) (One.val rfl) (One.val rfl) (by omega) (by omega) (by omega) (H.trans H2)
                                · skip
                                  refine Go.icmpNo X58 hx (hb hby d3_220) (feq hc220_66).1 ?_
                                  show Go p_ e_ below _ _ T58 (mkF m_ 223 #[.val (.ref a), .val (.int p1), .val (.int p2), .val (.int t), .val (.int ((f t.toNatClampNeg) &&& (255 : Int32))), .val (.int (4 : Int32)), .val (.int lo), .val (.int hi), .val (.int ((f (t + (1 : Int32)).toNatClampNeg) &&& (255 : Int32))), .val (.int (3 : Int32))] [])
                                  refine Go.iloadN X58 hx (hb hby d3_223) rfl ?_
                                  refine Go.retI X58 hx hret hlk (hb hby d3_224) (by decide) (by decide) ?_
                                  have hst : own_nst f t p2 = (0 : Int32) := by subst h_lo h_hi; unfold own_nst; rw [if_neg hc21_3, if_neg hc45_4, if_pos hc53_51, if_pos hc67_52, if_neg hc115_53, if_neg hc123_54, if_neg hc165_59, if_neg hc185_61, if_neg hc192_62, if_pos hc220_64, if_neg hc220_66]
                                  rw [own_same] at hst
                                  exact ⟨by rw [H, own_ref_stop _ _ _ _ hc4_1 hst], N58, e58⟩
                              · skip
                                refine Go.icmpNo X58 hx (hb hby d3_220) (feq hc220_64).1 ?_
                                show Go p_ e_ below _ _ T58 (mkF m_ 223 #[.val (.ref a), .val (.int p1), .val (.int p2), .val (.int t), .val (.int ((f t.toNatClampNeg) &&& (255 : Int32))), .val (.int (4 : Int32)), .val (.int lo), .val (.int hi), .val (.int ((f (t + (1 : Int32)).toNatClampNeg) &&& (255 : Int32))), .val (.int (2 : Int32))] [])
                                refine Go.iloadN X58 hx (hb hby d3_223) rfl ?_
                                refine Go.retI X58 hx hret hlk (hb hby d3_224) (by decide) (by decide) ?_
                                have hst : own_nst f t p2 = (0 : Int32) := by subst h_lo h_hi; unfold own_nst; rw [if_neg hc21_3, if_neg hc45_4, if_pos hc53_51, if_pos hc67_52, if_neg hc115_53, if_neg hc123_54, if_neg hc165_59, if_neg hc185_61, if_neg hc192_62, if_neg hc220_64]
                                rw [own_same] at hst
                                exact ⟨by rw [H, own_ref_stop _ _ _ _ hc4_1 hst], N58, e58⟩
                      show Go p_ e_ below _ _ T56 (mkF m_ 142 #[.val (.ref a), .val (.int p1), .val (.int p2), .val (.int t), .val (.int ((f t.toNatClampNeg) &&& (255 : Int32))), .val (.int (4 : Int32)), .val (.int lo), .val (.int (191 : Int32)), s8, s9] [])
                      refine Go.iload X56 hx (hb hby d3_142) rfl ?_
                      refine Go.sipush X56 hx (244 : Int32) (hb hby d3_144) rfl ?_
                      by_cases hc147_67 : ((f t.toNatClampNeg) &&& (255 : Int32)) = (244 : Int32)
                      · skip
                        refine Go.icmpNo X56 hx (hb hby d3_147) (teq hc147_67).2 ?_
                        show Go p_ e_ below _ _ T56 (mkF m_ 150 #[.val (.ref a), .val (.int p1), .val (.int p2), .val (.int t), .val (.int ((f t.toNatClampNeg) &&& (255 : Int32))), .val (.int (4 : Int32)), .val (.int lo), .val (.int (191 : Int32)), s8, s9] [])
                        refine Go.sipush X56 hx (143 : Int32) (hb hby d3_150) rfl ?_
                        refine Go.istore X56 hx (l' := #[.val (.ref a), .val (.int p1), .val (.int p2), .val (.int t), .val (.int ((f t.toNatClampNeg) &&& (255 : Int32))), .val (.int (4 : Int32)), .val (.int lo), .val (.int (143 : Int32)), s8, s9]) (hb hby d3_153) rfl ?_
                        refine Go.goto X56 hx (pc' := 160) (hb hby d3_155) (by decide) (by decide) ?_
                        show Go p_ e_ below _ _ T56 (mkF m_ 160 #[.val (.ref a), .val (.int p1), .val (.int p2), .val (.int t), .val (.int ((f t.toNatClampNeg) &&& (255 : Int32))), .val (.int (4 : Int32)), .val (.int lo), .val (.int (143 : Int32)), s8, s9] [])
                        exact j57 _ _ _ X56 N56 e56 (by rw [if_pos hc147_67])
                      · skip
                        refine Go.icmpYes X56 hx (pc' := 160) (hb hby d3_147) (feq hc147_67).2 (by decide) (by decide) ?_
                        show Go p_ e_ below _ _ T56 (mkF m_ 160 #[.val (.ref a), .val (.int p1), .val (.int p2), .val (.int t), .val (.int ((f t.toNatClampNeg) &&& (255 : Int32))), .val (.int (4 : Int32)), .val (.int lo), .val (.int (191 : Int32)), s8, s9] [])
                        exact j57 _ _ _ X56 N56 e56 (by rw [if_neg hc147_67])
                    refine Go.iload X1 hx (hb hby d3_129) rfl ?_
                    refine Go.sipush X1 hx (240 : Int32) (hb hby d3_131) rfl ?_
                    by_cases hc134_68 : ((f t.toNatClampNeg) &&& (255 : Int32)) = (240 : Int32)
                    · skip
                      refine Go.icmpNo X1 hx (hb hby d3_134) (teq hc134_68).2 ?_
                      show Go p_ e_ below _ _ T1 (mkF m_ 137 #[.val (.ref a), .val (.int p1), .val (.int p2), .val (.int t), .val (.int ((f t.toNatClampNeg) &&& (255 : Int32))), .val (.int (4 : Int32)), .val (.int (128 : Int32)), .val (.int (191 : Int32)), s8, s9] [])
                      refine Go.sipush X1 hx (144 : Int32) (hb hby d3_137) rfl ?_
                      refine Go.istore X1 hx (l' := #[.val (.ref a), .val (.int p1), .val (.int p2), .val (.int t), .val (.int ((f t.toNatClampNeg) &&& (255 : Int32))), .val (.int (4 : Int32)), .val (.int (144 : Int32)), .val (.int (191 : Int32)), s8, s9]) (hb hby d3_140) rfl ?_
                      show Go p_ e_ below _ _ T1 (mkF m_ 142 #[.val (.ref a), .val (.int p1), .val (.int p2), .val (.int t), .val (.int ((f t.toNatClampNeg) &&& (255 : Int32))), .val (.int (4 : Int32)), .val (.int (144 : Int32)), .val (.int (191 : Int32)), s8, s9] [])
                      exact j55 _ _ _ X1 N1 e1 (by rw [if_pos hc134_68])
                    · skip
                      refine Go.icmpYes X1 hx (pc' := 142) (hb hby d3_134) (feq hc134_68).2 (by decide) (by decide) ?_
                      show Go p_ e_ below _ _ T1 (mkF m_ 142 #[.val (.ref a), .val (.int p1), .val (.int p2), .val (.int t), .val (.int ((f t.toNatClampNeg) &&& (255 : Int32))), .val (.int (4 : Int32)), .val (.int (128 : Int32)), .val (.int (191 : Int32)), s8, s9] [])
                      exact j55 _ _ _ X1 N1 e1 (by rw [if_neg hc134_68])
              · skip
                refine Go.icmpNo X1 hx (hb hby d3_67) (flt hc67_52).1 ?_
                show Go p_ e_ below _ _ T1 (mkF m_ 70 #[.val (.ref a), .val (.int p1), .val (.int p2), .val (.int t), .val (.int ((f t.toNatClampNeg) &&& (255 : Int32))), s5, .val (.int (128 : Int32)), .val (.int (191 : Int32)), s8, s9] [])
                refine Go.iload X1 hx (hb hby d3_70) rfl ?_
                refine Go.sipush X1 hx (239 : Int32) (hb hby d3_72) rfl ?_
                by_cases hc75_69 : (239 : Int32) < ((f t.toNatClampNeg) &&& (255 : Int32))
                · skip
                  refine Go.icmpYes X1 hx (pc' := 110) (hb hby d3_75) (tlt hc75_69).2.2.1 (by decide) (by decide) ?_
                  show Go p_ e_ below _ _ T1 (mkF m_ 110 #[.val (.ref a), .val (.int p1), .val (.int p2), .val (.int t), .val (.int ((f t.toNatClampNeg) &&& (255 : Int32))), s5, .val (.int (128 : Int32)), .val (.int (191 : Int32)), s8, s9] [])
                  refine Go.iload X1 hx (hb hby d3_110) rfl ?_
                  refine Go.sipush X1 hx (240 : Int32) (hb hby d3_112) rfl ?_
                  by_cases hc115_70 : ((f t.toNatClampNeg) &&& (255 : Int32)) < (240 : Int32)
                  · skip
                    refine Go.icmpYes X1 hx (pc' := 158) (hb hby d3_115) (tlt hc115_70).1 (by decide) (by decide) ?_
                    show Go p_ e_ below _ _ T1 (mkF m_ 158 #[.val (.ref a), .val (.int p1), .val (.int p2), .val (.int t), .val (.int ((f t.toNatClampNeg) &&& (255 : Int32))), s5, .val (.int (128 : Int32)), .val (.int (191 : Int32)), s8, s9] [])
                    refine Go.iloadN X1 hx (hb hby d3_158) rfl ?_
                    refine Go.retI X1 hx hret hlk (hb hby d3_159) (by decide) (by decide) ?_
                    have hst : own_nst f t p2 = (0 : Int32) := by unfold own_nst; rw [if_neg hc21_3, if_neg hc45_4, if_pos hc53_51, if_neg hc67_52, if_pos hc75_69, if_pos hc115_70]
                    rw [own_same] at hst
                    exact ⟨by rw [H, own_ref_stop _ _ _ _ hc4_1 hst], N1, e1⟩
                  · skip
                    refine Go.icmpNo X1 hx (hb hby d3_115) (flt hc115_70).1 ?_
                    show Go p_ e_ below _ _ T1 (mkF m_ 118 #[.val (.ref a), .val (.int p1), .val (.int p2), .val (.int t), .val (.int ((f t.toNatClampNeg) &&& (255 : Int32))), s5, .val (.int (128 : Int32)), .val (.int (191 : Int32)), s8, s9] [])
                    refine Go.iload X1 hx (hb hby d3_118) rfl ?_
                    refine Go.sipush X1 hx (244 : Int32) (hb hby d3_120) rfl ?_
                    by_cases hc123_71 : (244 : Int32) < ((f t.toNatClampNeg) &&& (255 : Int32))
                    · skip
                      refine Go.icmpYes X1 hx (pc' := 158) (hb hby d3_123) (tlt hc123_71).2.2.1 (by decide) (by decide) ?_
                      show Go p_ e_ below _ _ T1 (mkF m_ 158 #[.val (.ref a), .val (.int p1), .val (.int p2), .val (.int t), .val (.int ((f t.toNatClampNeg) &&& (255 : Int32))), s5, .val (.int (128 : Int32)), .val (.int (191 : Int32)), s8, s9] [])
                      refine Go.iloadN X1 hx (hb hby d3_158) rfl ?_
                      refine Go.retI X1 hx hret hlk (hb hby d3_159) (by decide) (by decide) ?_
                      have hst : own_nst f t p2 = (0 : Int32) := by unfold own_nst; rw [if_neg hc21_3, if_neg hc45_4, if_pos hc53_51, if_neg hc67_52, if_pos hc75_69, if_neg hc115_70, if_pos hc123_71]
                      rw [own_same] at hst
                      exact ⟨by rw [H, own_ref_stop _ _ _ _ hc4_1 hst], N1, e1⟩
                    · skip
                      refine Go.icmpNo X1 hx (hb hby d3_123) (flt hc123_71).2.2.1 ?_
                      show Go p_ e_ below _ _ T1 (mkF m_ 126 #[.val (.ref a), .val (.int p1), .val (.int p2), .val (.int t), .val (.int ((f t.toNatClampNeg) &&& (255 : Int32))), s5, .val (.int (128 : Int32)), .val (.int (191 : Int32)), s8, s9] [])
                      refine Go.iconst X1 hx (4 : Int32) (hb hby d3_126) rfl ?_
                      refine Go.istoreS X1 hx (hb hby d3_127) rfl o5 ?_
                      have j72 : ∀ (T73 : State) (l73 : List Loc) (lo : Int32), Stand p_ l e_ ({ frames := 0, cells := 0, slots := 0, locals := 0 } : Room) s_ m_ #[(.ref a), (.int p1), (.int p2)] below meth c_ T73 l73 0 0 → Fr n0 l73 → T73.heap = h0 → (lo = (if ((f t.toNatClampNeg) &&& (255 : Int32)) = (240 : Int32) then (144 : Int32) else (128 : Int32))) → Go p_ e_ below (FE s_ ({ frames := 0, cells := 0, slots := 0, locals := 0 } : Room).cells ({ frames := 0, cells := 0, slots := 0, locals := 0 } : Room).slots) (Q3 Z a p1 p2 cl f h0 n0) T73 (mkF m_ 142 #[.val (.ref a), .val (.int p1), .val (.int p2), .val (.int t), .val (.int ((f t.toNatClampNeg) &&& (255 : Int32))), .val (.int (4 : Int32)), .val (.int lo), .val (.int (191 : Int32)), s8, s9] []) := by
                        intro T73 l73 lo X73 N73 e73  h_lo
                        have j74 : ∀ (T75 : State) (l75 : List Loc) (hi : Int32), Stand p_ l e_ ({ frames := 0, cells := 0, slots := 0, locals := 0 } : Room) s_ m_ #[(.ref a), (.int p1), (.int p2)] below meth c_ T75 l75 0 0 → Fr n0 l75 → T75.heap = h0 → (hi = (if ((f t.toNatClampNeg) &&& (255 : Int32)) = (244 : Int32) then (143 : Int32) else (191 : Int32))) → Go p_ e_ below (FE s_ ({ frames := 0, cells := 0, slots := 0, locals := 0 } : Room).cells ({ frames := 0, cells := 0, slots := 0, locals := 0 } : Room).slots) (Q3 Z a p1 p2 cl f h0 n0) T75 (mkF m_ 160 #[.val (.ref a), .val (.int p1), .val (.int p2), .val (.int t), .val (.int ((f t.toNatClampNeg) &&& (255 : Int32))), .val (.int (4 : Int32)), .val (.int lo), .val (.int hi), s8, s9] []) := by
                          intro T75 l75 hi X75 N75 e75  h_hi
                          show Go p_ e_ below _ _ T75 (mkF m_ 160 #[.val (.ref a), .val (.int p1), .val (.int p2), .val (.int t), .val (.int ((f t.toNatClampNeg) &&& (255 : Int32))), .val (.int (4 : Int32)), .val (.int lo), .val (.int hi), s8, s9] [])
                          refine Go.iloadN X75 hx (hb hby d3_160) rfl ?_
                          refine Go.iload X75 hx (hb hby d3_161) rfl ?_
                          refine Go.iadd X75 hx (hb hby d3_163) ?_
                          refine Go.iloadN X75 hx (hb hby d3_164) rfl ?_
                          by_cases hc165_76 : p2 < (t + (4 : Int32))
                          · skip
                            refine Go.icmpNo X75 hx (hb hby d3_165) (tlt hc165_76).2.2.2 ?_
                            show Go p_ e_ below _ _ T75 (mkF m_ 168 #[.val (.ref a), .val (.int p1), .val (.int p2), .val (.int t), .val (.int ((f t.toNatClampNeg) &&& (255 : Int32))), .val (.int (4 : Int32)), .val (.int lo), .val (.int hi), s8, s9] [])
                            refine Go.iloadN X75 hx (hb hby d3_168) rfl ?_
                            refine Go.retI X75 hx hret hlk (hb hby d3_169) (by decide) (by decide) ?_
                            have hst : own_nst f t p2 = (0 : Int32) := by subst h_lo h_hi; unfold own_nst; rw [if_neg hc21_3, if_neg hc45_4, if_pos hc53_51, if_neg hc67_52, if_pos hc75_69, if_neg hc115_70, if_neg hc123_71, if_pos hc165_76]
                            rw [own_same] at hst
                            exact ⟨by rw [H, own_ref_stop _ _ _ _ hc4_1 hst], N75, e75⟩
                          · skip
                            refine Go.icmpYes X75 hx (pc' := 170) (hb hby d3_165) (flt hc165_76).2.2.2 (by decide) (by decide) ?_
                            show Go p_ e_ below _ _ T75 (mkF m_ 170 #[.val (.ref a), .val (.int p1), .val (.int p2), .val (.int t), .val (.int ((f t.toNatClampNeg) &&& (255 : Int32))), .val (.int (4 : Int32)), .val (.int lo), .val (.int hi), s8, s9] [])
                            refine Go.aloadN X75 hx (hb hby d3_170) rfl rfl ?_
                            refine Go.iloadN X75 hx (hb hby d3_171) rfl ?_
                            refine Go.iconst X75 hx (1 : Int32) (hb hby d3_172) rfl ?_
                            refine Go.iadd X75 hx (hb hby d3_173) ?_
                            have hi77 := own_inb Sz (j := (t + (1 : Int32))) (own_at _ _ (4 : Int32) (1 : Int32) hs_ hlt6 he hc165_76 (by decide) (by decide) (by decide))
                            refine Go.baload X75 hx hZ e75 Ar hi77.1 (El _ hi77.2) (hb hby d3_174) ?_
                            refine Go.sipush X75 hx (255 : Int32) (hb hby d3_175) rfl ?_
                            refine Go.iand X75 hx (hb hby d3_178) ?_
                            refine Go.istoreS X75 hx (hb hby d3_179) rfl o8 ?_
                            refine Go.iload X75 hx (hb hby d3_181) rfl ?_
                            refine Go.iload X75 hx (hb hby d3_183) rfl ?_
                            by_cases hc185_78 : ((f (t + (1 : Int32)).toNatClampNeg) &&& (255 : Int32)) < lo
                            · skip
                              refine Go.icmpYes X75 hx (pc' := 195) (hb hby d3_185) (tlt hc185_78).1 (by decide) (by decide) ?_
                              show Go p_ e_ below _ _ T75 (mkF m_ 195 #[.val (.ref a), .val (.int p1), .val (.int p2), .val (.int t), .val (.int ((f t.toNatClampNeg) &&& (255 : Int32))), .val (.int (4 : Int32)), .val (.int lo), .val (.int hi), .val (.int ((f (t + (1 : Int32)).toNatClampNeg) &&& (255 : Int32))), s9] [])
                              refine Go.iloadN X75 hx (hb hby d3_195) rfl ?_
                              refine Go.retI X75 hx hret hlk (hb hby d3_196) (by decide) (by decide) ?_
                              have hst : own_nst f t p2 = (0 : Int32) := by subst h_lo h_hi; unfold own_nst; rw [if_neg hc21_3, if_neg hc45_4, if_pos hc53_51, if_neg hc67_52, if_pos hc75_69, if_neg hc115_70, if_neg hc123_71, if_neg hc165_76, if_pos hc185_78]
                              rw [own_same] at hst
                              exact ⟨by rw [H, own_ref_stop _ _ _ _ hc4_1 hst], N75, e75⟩
                            · skip
                              refine Go.icmpNo X75 hx (hb hby d3_185) (flt hc185_78).1 ?_
                              show Go p_ e_ below _ _ T75 (mkF m_ 188 #[.val (.ref a), .val (.int p1), .val (.int p2), .val (.int t), .val (.int ((f t.toNatClampNeg) &&& (255 : Int32))), .val (.int (4 : Int32)), .val (.int lo), .val (.int hi), .val (.int ((f (t + (1 : Int32)).toNatClampNeg) &&& (255 : Int32))), s9] [])
                              refine Go.iload X75 hx (hb hby d3_188) rfl ?_
                              refine Go.iload X75 hx (hb hby d3_190) rfl ?_
                              by_cases hc192_79 : hi < ((f (t + (1 : Int32)).toNatClampNeg) &&& (255 : Int32))
                              · skip
                                refine Go.icmpNo X75 hx (hb hby d3_192) (tlt hc192_79).2.2.2 ?_
                                show Go p_ e_ below _ _ T75 (mkF m_ 195 #[.val (.ref a), .val (.int p1), .val (.int p2), .val (.int t), .val (.int ((f t.toNatClampNeg) &&& (255 : Int32))), .val (.int (4 : Int32)), .val (.int lo), .val (.int hi), .val (.int ((f (t + (1 : Int32)).toNatClampNeg) &&& (255 : Int32))), s9] [])
                                refine Go.iloadN X75 hx (hb hby d3_195) rfl ?_
                                refine Go.retI X75 hx hret hlk (hb hby d3_196) (by decide) (by decide) ?_
                                have hst : own_nst f t p2 = (0 : Int32) := by subst h_lo h_hi; unfold own_nst; rw [if_neg hc21_3, if_neg hc45_4, if_pos hc53_51, if_neg hc67_52, if_pos hc75_69, if_neg hc115_70, if_neg hc123_71, if_neg hc165_76, if_neg hc185_78, if_pos hc192_79]
                                rw [own_same] at hst
                                exact ⟨by rw [H, own_ref_stop _ _ _ _ hc4_1 hst], N75, e75⟩
                              · skip
                                refine Go.icmpYes X75 hx (pc' := 197) (hb hby d3_192) (flt hc192_79).2.2.2 (by decide) (by decide) ?_
                                show Go p_ e_ below _ _ T75 (mkF m_ 197 #[.val (.ref a), .val (.int p1), .val (.int p2), .val (.int t), .val (.int ((f t.toNatClampNeg) &&& (255 : Int32))), .val (.int (4 : Int32)), .val (.int lo), .val (.int hi), .val (.int ((f (t + (1 : Int32)).toNatClampNeg) &&& (255 : Int32))), s9] [])
                                refine Go.iconst X75 hx (2 : Int32) (hb hby d3_197) rfl ?_
                                refine Go.istoreS X75 hx (hb hby d3_198) rfl o9 ?_
                                refine Go.iload X75 hx (hb hby d3_200) rfl ?_
                                refine Go.iload X75 hx (hb hby d3_202) rfl ?_
                                refine Go.icmpNo X75 hx (hb hby d3_204) (tlt (by decide)).2.1 ?_
                                show Go p_ e_ below _ _ T75 (mkF m_ 207 #[.val (.ref a), .val (.int p1), .val (.int p2), .val (.int t), .val (.int ((f t.toNatClampNeg) &&& (255 : Int32))), .val (.int (4 : Int32)), .val (.int lo), .val (.int hi), .val (.int ((f (t + (1 : Int32)).toNatClampNeg) &&& (255 : Int32))), .val (.int (2 : Int32))] [])
                                refine Go.aloadN X75 hx (hb hby d3_207) rfl rfl ?_
                                refine Go.iloadN X75 hx (hb hby d3_208) rfl ?_
                                refine Go.iload X75 hx (hb hby d3_209) rfl ?_
                                refine Go.iadd X75 hx (hb hby d3_211) ?_
                                have hi80 := own_inb Sz (j := (t + (2 : Int32))) (own_at _ _ (4 : Int32) (2 : Int32) hs_ hlt6 he hc165_76 (by decide) (by decide) (by decide))
                                refine Go.baload X75 hx hZ e75 Ar hi80.1 (El _ hi80.2) (hb hby d3_212) ?_
                                refine Go.sipush X75 hx (192 : Int32) (hb hby d3_213) rfl ?_
                                refine Go.iand X75 hx (hb hby d3_216) ?_
                                refine Go.sipush X75 hx (128 : Int32) (hb hby d3_217) rfl ?_
                                by_cases hc220_81 : ((f (t + (2 : Int32)).toNatClampNeg) &&& (192 : Int32)) = (128 : Int32)
                                · skip
                                  refine Go.icmpYes X75 hx (pc' := 225) (hb hby d3_220) (teq hc220_81).1 (by decide) (by decide) ?_
                                  show Go p_ e_ below _ _ T75 (mkF m_ 225 #[.val (.ref a), .val (.int p1), .val (.int p2), .val (.int t), .val (.int ((f t.toNatClampNeg) &&& (255 : Int32))), .val (.int (4 : Int32)), .val (.int lo), .val (.int hi), .val (.int ((f (t + (1 : Int32)).toNatClampNeg) &&& (255 : Int32))), .val (.int (2 : Int32))] [])
                                  refine Go.iincF X75 hx (l' := #[.val (.ref a), .val (.int p1), .val (.int p2), .val (.int t), .val (.int ((f t.toNatClampNeg) &&& (255 : Int32))), .val (.int (4 : Int32)), .val (.int lo), .val (.int hi), .val (.int ((f (t + (1 : Int32)).toNatClampNeg) &&& (255 : Int32))), .val (.int (3 : Int32))]) (1 : Int32) (3 : Int32) (hb hby d3_225) rfl (by decide) rfl rfl ?_
                                  refine Go.goto X75 hx (pc' := 200) (hb hby d3_228) (by decide) (by decide) ?_
                                  refine Go.iload X75 hx (hb hby d3_200) rfl ?_
                                  refine Go.iload X75 hx (hb hby d3_202) rfl ?_
                                  refine Go.icmpNo X75 hx (hb hby d3_204) (tlt (by decide)).2.1 ?_
                                  show Go p_ e_ below _ _ T75 (mkF m_ 207 #[.val (.ref a), .val (.int p1), .val (.int p2), .val (.int t), .val (.int ((f t.toNatClampNeg) &&& (255 : Int32))), .val (.int (4 : Int32)), .val (.int lo), .val (.int hi), .val (.int ((f (t + (1 : Int32)).toNatClampNeg) &&& (255 : Int32))), .val (.int (3 : Int32))] [])
                                  refine Go.aloadN X75 hx (hb hby d3_207) rfl rfl ?_
                                  refine Go.iloadN X75 hx (hb hby d3_208) rfl ?_
                                  refine Go.iload X75 hx (hb hby d3_209) rfl ?_
                                  refine Go.iadd X75 hx (hb hby d3_211) ?_
                                  have hi82 := own_inb Sz (j := (t + (3 : Int32))) (own_at _ _ (4 : Int32) (3 : Int32) hs_ hlt6 he hc165_76 (by decide) (by decide) (by decide))
                                  refine Go.baload X75 hx hZ e75 Ar hi82.1 (El _ hi82.2) (hb hby d3_212) ?_
                                  refine Go.sipush X75 hx (192 : Int32) (hb hby d3_213) rfl ?_
                                  refine Go.iand X75 hx (hb hby d3_216) ?_
                                  refine Go.sipush X75 hx (128 : Int32) (hb hby d3_217) rfl ?_
                                  by_cases hc220_83 : ((f (t + (3 : Int32)).toNatClampNeg) &&& (192 : Int32)) = (128 : Int32)
                                  · skip
                                    refine Go.icmpYes X75 hx (pc' := 225) (hb hby d3_220) (teq hc220_83).1 (by decide) (by decide) ?_
                                    show Go p_ e_ below _ _ T75 (mkF m_ 225 #[.val (.ref a), .val (.int p1), .val (.int p2), .val (.int t), .val (.int ((f t.toNatClampNeg) &&& (255 : Int32))), .val (.int (4 : Int32)), .val (.int lo), .val (.int hi), .val (.int ((f (t + (1 : Int32)).toNatClampNeg) &&& (255 : Int32))), .val (.int (3 : Int32))] [])
                                    refine Go.iincF X75 hx (l' := #[.val (.ref a), .val (.int p1), .val (.int p2), .val (.int t), .val (.int ((f t.toNatClampNeg) &&& (255 : Int32))), .val (.int (4 : Int32)), .val (.int lo), .val (.int hi), .val (.int ((f (t + (1 : Int32)).toNatClampNeg) &&& (255 : Int32))), .val (.int (4 : Int32))]) (1 : Int32) (4 : Int32) (hb hby d3_225) rfl (by decide) rfl rfl ?_
                                    refine Go.goto X75 hx (pc' := 200) (hb hby d3_228) (by decide) (by decide) ?_
                                    refine Go.iload X75 hx (hb hby d3_200) rfl ?_
                                    refine Go.iload X75 hx (hb hby d3_202) rfl ?_
                                    refine Go.icmpYes X75 hx (pc' := 231) (hb hby d3_204) (flt (by decide)).2.1 (by decide) (by decide) ?_
                                    show Go p_ e_ below _ _ T75 (mkF m_ 231 #[.val (.ref a), .val (.int p1), .val (.int p2), .val (.int t), .val (.int ((f t.toNatClampNeg) &&& (255 : Int32))), .val (.int (4 : Int32)), .val (.int lo), .val (.int hi), .val (.int ((f (t + (1 : Int32)).toNatClampNeg) &&& (255 : Int32))), .val (.int (4 : Int32))] [])
                                    refine Go.iloadN X75 hx (hb hby d3_231) rfl ?_
                                    refine Go.iload X75 hx (hb hby d3_232) rfl ?_
                                    refine Go.iadd X75 hx (hb hby d3_234) ?_
                                    refine Go.istoreN X75 hx (l' := #[.val (.ref a), .val (.int p1), .val (.int p2), .val (.int (t + (4 : Int32))), .val (.int ((f t.toNatClampNeg) &&& (255 : Int32))), .val (.int (4 : Int32)), .val (.int lo), .val (.int hi), .val (.int ((f (t + (1 : Int32)).toNatClampNeg) &&& (255 : Int32))), .val (.int (4 : Int32))]) (hb hby d3_235) rfl ?_
                                    refine Go.goto X75 hx (pc' := 2) (hb hby d3_236) (by decide) (by decide) ?_
                                    show Go p_ e_ below _ _ T75 (mkF m_ 2 #[.val (.ref a), .val (.int p1), .val (.int p2), .val (.int (t + (4 : Int32))), .val (.int ((f t.toNatClampNeg) &&& (255 : Int32))), .val (.int (4 : Int32)), .val (.int lo), .val (.int hi), .val (.int ((f (t + (1 : Int32)).toNatClampNeg) &&& (255 : Int32))), .val (.int (4 : Int32))] [])
                                    have hst : own_nst f t p2 = (4 : Int32) := by subst h_lo h_hi; unfold own_nst; rw [if_neg hc21_3, if_neg hc45_4, if_pos hc53_51, if_neg hc67_52, if_pos hc75_69, if_neg hc115_70, if_neg hc123_71, if_neg hc165_76, if_neg hc185_78, if_neg hc192_79, if_pos hc220_81, if_pos hc220_83]
                                    rw [own_same] at hst
                                    have hnz : ¬ own_seq f t p2 = 0 := by rw [hst]; decide
                                    have H2 := own_ref_go f p2 n t hc4_1 hnz
                                    have bd := own_seq_bd f t p2 g0 (Int32.lt_iff_toInt_lt.mp hc4_1) he hnz
                                    rw [hst] at bd H2
                                    exact ih _ _ _ (.val (.int ((f t.toNatClampNeg) &&& (255 : Int32)))) (.val (.int (4 : Int32))) (.val (.int lo)) (.val (.int hi)) (.val (.int ((f (t + (1 : Int32)).toNatClampNeg) &&& (255 : Int32)))) (.val (.int (4 : Int32))) X75 N75 e75 (One.val rfl) (One.val rfl) (One.val rfl) (One.val rfl) (One.val rfl) (One.val rfl) (by omega) (by omega) (by omega) (H.trans H2)
                                  · skip
                                    refine Go.icmpNo X75 hx (hb hby d3_220) (feq hc220_83).1 ?_
                                    show Go p_ e_ below _ _ T75 (mkF m_ 223 #[.val (.ref a), .val (.int p1), .val (.int p2), .val (.int t), .val (.int ((f t.toNatClampNeg) &&& (255 : Int32))), .val (.int (4 : Int32)), .val (.int lo), .val (.int hi), .val (.int ((f (t + (1 : Int32)).toNatClampNeg) &&& (255 : Int32))), .val (.int (3 : Int32))] [])
                                    refine Go.iloadN X75 hx (hb hby d3_223) rfl ?_
                                    refine Go.retI X75 hx hret hlk (hb hby d3_224) (by decide) (by decide) ?_
                                    have hst : own_nst f t p2 = (0 : Int32) := by subst h_lo h_hi; unfold own_nst; rw [if_neg hc21_3, if_neg hc45_4, if_pos hc53_51, if_neg hc67_52, if_pos hc75_69, if_neg hc115_70, if_neg hc123_71, if_neg hc165_76, if_neg hc185_78, if_neg hc192_79, if_pos hc220_81, if_neg hc220_83]
                                    rw [own_same] at hst
                                    exact ⟨by rw [H, own_ref_stop _ _ _ _ hc4_1 hst], N75, e75⟩
                                · skip
                                  refine Go.icmpNo X75 hx (hb hby d3_220) (feq hc220_81).1 ?_
                                  show Go p_ e_ below _ _ T75 (mkF m_ 223 #[.val (.ref a), .val (.int p1), .val (.int p2), .val (.int t), .val (.int ((f t.toNatClampNeg) &&& (255 : Int32))), .val (.int (4 : Int32)), .val (.int lo), .val (.int hi), .val (.int ((f (t + (1 : Int32)).toNatClampNeg) &&& (255 : Int32))), .val (.int (2 : Int32))] [])
                                  refine Go.iloadN X75 hx (hb hby d3_223) rfl ?_
                                  refine Go.retI X75 hx hret hlk (hb hby d3_224) (by decide) (by decide) ?_
                                  have hst : own_nst f t p2 = (0 : Int32) := by subst h_lo h_hi; unfold own_nst; rw [if_neg hc21_3, if_neg hc45_4, if_pos hc53_51, if_neg hc67_52, if_pos hc75_69, if_neg hc115_70, if_neg hc123_71, if_neg hc165_76, if_neg hc185_78, if_neg hc192_79, if_neg hc220_81]
                                  rw [own_same] at hst
                                  exact ⟨by rw [H, own_ref_stop _ _ _ _ hc4_1 hst], N75, e75⟩
                        show Go p_ e_ below _ _ T73 (mkF m_ 142 #[.val (.ref a), .val (.int p1), .val (.int p2), .val (.int t), .val (.int ((f t.toNatClampNeg) &&& (255 : Int32))), .val (.int (4 : Int32)), .val (.int lo), .val (.int (191 : Int32)), s8, s9] [])
                        refine Go.iload X73 hx (hb hby d3_142) rfl ?_
                        refine Go.sipush X73 hx (244 : Int32) (hb hby d3_144) rfl ?_
                        by_cases hc147_84 : ((f t.toNatClampNeg) &&& (255 : Int32)) = (244 : Int32)
                        · skip
                          refine Go.icmpNo X73 hx (hb hby d3_147) (teq hc147_84).2 ?_
                          show Go p_ e_ below _ _ T73 (mkF m_ 150 #[.val (.ref a), .val (.int p1), .val (.int p2), .val (.int t), .val (.int ((f t.toNatClampNeg) &&& (255 : Int32))), .val (.int (4 : Int32)), .val (.int lo), .val (.int (191 : Int32)), s8, s9] [])
                          refine Go.sipush X73 hx (143 : Int32) (hb hby d3_150) rfl ?_
                          refine Go.istore X73 hx (l' := #[.val (.ref a), .val (.int p1), .val (.int p2), .val (.int t), .val (.int ((f t.toNatClampNeg) &&& (255 : Int32))), .val (.int (4 : Int32)), .val (.int lo), .val (.int (143 : Int32)), s8, s9]) (hb hby d3_153) rfl ?_
                          refine Go.goto X73 hx (pc' := 160) (hb hby d3_155) (by decide) (by decide) ?_
                          show Go p_ e_ below _ _ T73 (mkF m_ 160 #[.val (.ref a), .val (.int p1), .val (.int p2), .val (.int t), .val (.int ((f t.toNatClampNeg) &&& (255 : Int32))), .val (.int (4 : Int32)), .val (.int lo), .val (.int (143 : Int32)), s8, s9] [])
                          exact j74 _ _ _ X73 N73 e73 (by rw [if_pos hc147_84])
                        · skip
                          refine Go.icmpYes X73 hx (pc' := 160) (hb hby d3_147) (feq hc147_84).2 (by decide) (by decide) ?_
                          show Go p_ e_ below _ _ T73 (mkF m_ 160 #[.val (.ref a), .val (.int p1), .val (.int p2), .val (.int t), .val (.int ((f t.toNatClampNeg) &&& (255 : Int32))), .val (.int (4 : Int32)), .val (.int lo), .val (.int (191 : Int32)), s8, s9] [])
                          exact j74 _ _ _ X73 N73 e73 (by rw [if_neg hc147_84])
                      refine Go.iload X1 hx (hb hby d3_129) rfl ?_
                      refine Go.sipush X1 hx (240 : Int32) (hb hby d3_131) rfl ?_
                      by_cases hc134_85 : ((f t.toNatClampNeg) &&& (255 : Int32)) = (240 : Int32)
                      · skip
                        refine Go.icmpNo X1 hx (hb hby d3_134) (teq hc134_85).2 ?_
                        show Go p_ e_ below _ _ T1 (mkF m_ 137 #[.val (.ref a), .val (.int p1), .val (.int p2), .val (.int t), .val (.int ((f t.toNatClampNeg) &&& (255 : Int32))), .val (.int (4 : Int32)), .val (.int (128 : Int32)), .val (.int (191 : Int32)), s8, s9] [])
                        refine Go.sipush X1 hx (144 : Int32) (hb hby d3_137) rfl ?_
                        refine Go.istore X1 hx (l' := #[.val (.ref a), .val (.int p1), .val (.int p2), .val (.int t), .val (.int ((f t.toNatClampNeg) &&& (255 : Int32))), .val (.int (4 : Int32)), .val (.int (144 : Int32)), .val (.int (191 : Int32)), s8, s9]) (hb hby d3_140) rfl ?_
                        show Go p_ e_ below _ _ T1 (mkF m_ 142 #[.val (.ref a), .val (.int p1), .val (.int p2), .val (.int t), .val (.int ((f t.toNatClampNeg) &&& (255 : Int32))), .val (.int (4 : Int32)), .val (.int (144 : Int32)), .val (.int (191 : Int32)), s8, s9] [])
                        exact j72 _ _ _ X1 N1 e1 (by rw [if_pos hc134_85])
                      · skip
                        refine Go.icmpYes X1 hx (pc' := 142) (hb hby d3_134) (feq hc134_85).2 (by decide) (by decide) ?_
                        show Go p_ e_ below _ _ T1 (mkF m_ 142 #[.val (.ref a), .val (.int p1), .val (.int p2), .val (.int t), .val (.int ((f t.toNatClampNeg) &&& (255 : Int32))), .val (.int (4 : Int32)), .val (.int (128 : Int32)), .val (.int (191 : Int32)), s8, s9] [])
                        exact j72 _ _ _ X1 N1 e1 (by rw [if_neg hc134_85])
                · skip
                  refine Go.icmpNo X1 hx (hb hby d3_75) (flt hc75_69).2.2.1 ?_
                  show Go p_ e_ below _ _ T1 (mkF m_ 78 #[.val (.ref a), .val (.int p1), .val (.int p2), .val (.int t), .val (.int ((f t.toNatClampNeg) &&& (255 : Int32))), s5, .val (.int (128 : Int32)), .val (.int (191 : Int32)), s8, s9] [])
                  refine Go.iconst X1 hx (3 : Int32) (hb hby d3_78) rfl ?_
                  refine Go.istoreS X1 hx (hb hby d3_79) rfl o5 ?_
                  have j86 : ∀ (T87 : State) (l87 : List Loc) (lo : Int32), Stand p_ l e_ ({ frames := 0, cells := 0, slots := 0, locals := 0 } : Room) s_ m_ #[(.ref a), (.int p1), (.int p2)] below meth c_ T87 l87 0 0 → Fr n0 l87 → T87.heap = h0 → (lo = (if ((f t.toNatClampNeg) &&& (255 : Int32)) = (224 : Int32) then (160 : Int32) else (128 : Int32))) → Go p_ e_ below (FE s_ ({ frames := 0, cells := 0, slots := 0, locals := 0 } : Room).cells ({ frames := 0, cells := 0, slots := 0, locals := 0 } : Room).slots) (Q3 Z a p1 p2 cl f h0 n0) T87 (mkF m_ 94 #[.val (.ref a), .val (.int p1), .val (.int p2), .val (.int t), .val (.int ((f t.toNatClampNeg) &&& (255 : Int32))), .val (.int (3 : Int32)), .val (.int lo), .val (.int (191 : Int32)), s8, s9] []) := by
                    intro T87 l87 lo X87 N87 e87  h_lo
                    have j88 : ∀ (T89 : State) (l89 : List Loc) (hi : Int32), Stand p_ l e_ ({ frames := 0, cells := 0, slots := 0, locals := 0 } : Room) s_ m_ #[(.ref a), (.int p1), (.int p2)] below meth c_ T89 l89 0 0 → Fr n0 l89 → T89.heap = h0 → (hi = (if ((f t.toNatClampNeg) &&& (255 : Int32)) = (237 : Int32) then (159 : Int32) else (191 : Int32))) → Go p_ e_ below (FE s_ ({ frames := 0, cells := 0, slots := 0, locals := 0 } : Room).cells ({ frames := 0, cells := 0, slots := 0, locals := 0 } : Room).slots) (Q3 Z a p1 p2 cl f h0 n0) T89 (mkF m_ 160 #[.val (.ref a), .val (.int p1), .val (.int p2), .val (.int t), .val (.int ((f t.toNatClampNeg) &&& (255 : Int32))), .val (.int (3 : Int32)), .val (.int lo), .val (.int hi), s8, s9] []) := by
                      intro T89 l89 hi X89 N89 e89  h_hi
                      show Go p_ e_ below _ _ T89 (mkF m_ 160 #[.val (.ref a), .val (.int p1), .val (.int p2), .val (.int t), .val (.int ((f t.toNatClampNeg) &&& (255 : Int32))), .val (.int (3 : Int32)), .val (.int lo), .val (.int hi), s8, s9] [])
                      refine Go.iloadN X89 hx (hb hby d3_160) rfl ?_
                      refine Go.iload X89 hx (hb hby d3_161) rfl ?_
                      refine Go.iadd X89 hx (hb hby d3_163) ?_
                      refine Go.iloadN X89 hx (hb hby d3_164) rfl ?_
                      by_cases hc165_90 : p2 < (t + (3 : Int32))
                      · skip
                        refine Go.icmpNo X89 hx (hb hby d3_165) (tlt hc165_90).2.2.2 ?_
                        show Go p_ e_ below _ _ T89 (mkF m_ 168 #[.val (.ref a), .val (.int p1), .val (.int p2), .val (.int t), .val (.int ((f t.toNatClampNeg) &&& (255 : Int32))), .val (.int (3 : Int32)), .val (.int lo), .val (.int hi), s8, s9] [])
                        refine Go.iloadN X89 hx (hb hby d3_168) rfl ?_
                        refine Go.retI X89 hx hret hlk (hb hby d3_169) (by decide) (by decide) ?_
                        have hst : own_nst f t p2 = (0 : Int32) := by subst h_lo h_hi; unfold own_nst; rw [if_neg hc21_3, if_neg hc45_4, if_pos hc53_51, if_neg hc67_52, if_neg hc75_69, if_pos hc165_90]
                        rw [own_same] at hst
                        exact ⟨by rw [H, own_ref_stop _ _ _ _ hc4_1 hst], N89, e89⟩
                      · skip
                        refine Go.icmpYes X89 hx (pc' := 170) (hb hby d3_165) (flt hc165_90).2.2.2 (by decide) (by decide) ?_
                        show Go p_ e_ below _ _ T89 (mkF m_ 170 #[.val (.ref a), .val (.int p1), .val (.int p2), .val (.int t), .val (.int ((f t.toNatClampNeg) &&& (255 : Int32))), .val (.int (3 : Int32)), .val (.int lo), .val (.int hi), s8, s9] [])
                        refine Go.aloadN X89 hx (hb hby d3_170) rfl rfl ?_
                        refine Go.iloadN X89 hx (hb hby d3_171) rfl ?_
                        refine Go.iconst X89 hx (1 : Int32) (hb hby d3_172) rfl ?_
                        refine Go.iadd X89 hx (hb hby d3_173) ?_
                        have hi91 := own_inb Sz (j := (t + (1 : Int32))) (own_at _ _ (3 : Int32) (1 : Int32) hs_ hlt6 he hc165_90 (by decide) (by decide) (by decide))
                        refine Go.baload X89 hx hZ e89 Ar hi91.1 (El _ hi91.2) (hb hby d3_174) ?_
                        refine Go.sipush X89 hx (255 : Int32) (hb hby d3_175) rfl ?_
                        refine Go.iand X89 hx (hb hby d3_178) ?_
                        refine Go.istoreS X89 hx (hb hby d3_179) rfl o8 ?_
                        refine Go.iload X89 hx (hb hby d3_181) rfl ?_
                        refine Go.iload X89 hx (hb hby d3_183) rfl ?_
                        by_cases hc185_92 : ((f (t + (1 : Int32)).toNatClampNeg) &&& (255 : Int32)) < lo
                        · skip
                          refine Go.icmpYes X89 hx (pc' := 195) (hb hby d3_185) (tlt hc185_92).1 (by decide) (by decide) ?_
                          show Go p_ e_ below _ _ T89 (mkF m_ 195 #[.val (.ref a), .val (.int p1), .val (.int p2), .val (.int t), .val (.int ((f t.toNatClampNeg) &&& (255 : Int32))), .val (.int (3 : Int32)), .val (.int lo), .val (.int hi), .val (.int ((f (t + (1 : Int32)).toNatClampNeg) &&& (255 : Int32))), s9] [])
                          refine Go.iloadN X89 hx (hb hby d3_195) rfl ?_
                          refine Go.retI X89 hx hret hlk (hb hby d3_196) (by decide) (by decide) ?_
                          have hst : own_nst f t p2 = (0 : Int32) := by subst h_lo h_hi; unfold own_nst; rw [if_neg hc21_3, if_neg hc45_4, if_pos hc53_51, if_neg hc67_52, if_neg hc75_69, if_neg hc165_90, if_pos hc185_92]
                          rw [own_same] at hst
                          exact ⟨by rw [H, own_ref_stop _ _ _ _ hc4_1 hst], N89, e89⟩
                        · skip
                          refine Go.icmpNo X89 hx (hb hby d3_185) (flt hc185_92).1 ?_
                          show Go p_ e_ below _ _ T89 (mkF m_ 188 #[.val (.ref a), .val (.int p1), .val (.int p2), .val (.int t), .val (.int ((f t.toNatClampNeg) &&& (255 : Int32))), .val (.int (3 : Int32)), .val (.int lo), .val (.int hi), .val (.int ((f (t + (1 : Int32)).toNatClampNeg) &&& (255 : Int32))), s9] [])
                          refine Go.iload X89 hx (hb hby d3_188) rfl ?_
                          refine Go.iload X89 hx (hb hby d3_190) rfl ?_
                          by_cases hc192_93 : hi < ((f (t + (1 : Int32)).toNatClampNeg) &&& (255 : Int32))
                          · skip
                            refine Go.icmpNo X89 hx (hb hby d3_192) (tlt hc192_93).2.2.2 ?_
                            show Go p_ e_ below _ _ T89 (mkF m_ 195 #[.val (.ref a), .val (.int p1), .val (.int p2), .val (.int t), .val (.int ((f t.toNatClampNeg) &&& (255 : Int32))), .val (.int (3 : Int32)), .val (.int lo), .val (.int hi), .val (.int ((f (t + (1 : Int32)).toNatClampNeg) &&& (255 : Int32))), s9] [])
                            refine Go.iloadN X89 hx (hb hby d3_195) rfl ?_
                            refine Go.retI X89 hx hret hlk (hb hby d3_196) (by decide) (by decide) ?_
                            have hst : own_nst f t p2 = (0 : Int32) := by subst h_lo h_hi; unfold own_nst; rw [if_neg hc21_3, if_neg hc45_4, if_pos hc53_51, if_neg hc67_52, if_neg hc75_69, if_neg hc165_90, if_neg hc185_92, if_pos hc192_93]
                            rw [own_same] at hst
                            exact ⟨by rw [H, own_ref_stop _ _ _ _ hc4_1 hst], N89, e89⟩
                          · skip
                            refine Go.icmpYes X89 hx (pc' := 197) (hb hby d3_192) (flt hc192_93).2.2.2 (by decide) (by decide) ?_
                            show Go p_ e_ below _ _ T89 (mkF m_ 197 #[.val (.ref a), .val (.int p1), .val (.int p2), .val (.int t), .val (.int ((f t.toNatClampNeg) &&& (255 : Int32))), .val (.int (3 : Int32)), .val (.int lo), .val (.int hi), .val (.int ((f (t + (1 : Int32)).toNatClampNeg) &&& (255 : Int32))), s9] [])
                            refine Go.iconst X89 hx (2 : Int32) (hb hby d3_197) rfl ?_
                            refine Go.istoreS X89 hx (hb hby d3_198) rfl o9 ?_
                            refine Go.iload X89 hx (hb hby d3_200) rfl ?_
                            refine Go.iload X89 hx (hb hby d3_202) rfl ?_
                            refine Go.icmpNo X89 hx (hb hby d3_204) (tlt (by decide)).2.1 ?_
                            show Go p_ e_ below _ _ T89 (mkF m_ 207 #[.val (.ref a), .val (.int p1), .val (.int p2), .val (.int t), .val (.int ((f t.toNatClampNeg) &&& (255 : Int32))), .val (.int (3 : Int32)), .val (.int lo), .val (.int hi), .val (.int ((f (t + (1 : Int32)).toNatClampNeg) &&& (255 : Int32))), .val (.int (2 : Int32))] [])
                            refine Go.aloadN X89 hx (hb hby d3_207) rfl rfl ?_
                            refine Go.iloadN X89 hx (hb hby d3_208) rfl ?_
                            refine Go.iload X89 hx (hb hby d3_209) rfl ?_
                            refine Go.iadd X89 hx (hb hby d3_211) ?_
                            have hi94 := own_inb Sz (j := (t + (2 : Int32))) (own_at _ _ (3 : Int32) (2 : Int32) hs_ hlt6 he hc165_90 (by decide) (by decide) (by decide))
                            refine Go.baload X89 hx hZ e89 Ar hi94.1 (El _ hi94.2) (hb hby d3_212) ?_
                            refine Go.sipush X89 hx (192 : Int32) (hb hby d3_213) rfl ?_
                            refine Go.iand X89 hx (hb hby d3_216) ?_
                            refine Go.sipush X89 hx (128 : Int32) (hb hby d3_217) rfl ?_
                            by_cases hc220_95 : ((f (t + (2 : Int32)).toNatClampNeg) &&& (192 : Int32)) = (128 : Int32)
                            · skip
                              refine Go.icmpYes X89 hx (pc' := 225) (hb hby d3_220) (teq hc220_95).1 (by decide) (by decide) ?_
                              show Go p_ e_ below _ _ T89 (mkF m_ 225 #[.val (.ref a), .val (.int p1), .val (.int p2), .val (.int t), .val (.int ((f t.toNatClampNeg) &&& (255 : Int32))), .val (.int (3 : Int32)), .val (.int lo), .val (.int hi), .val (.int ((f (t + (1 : Int32)).toNatClampNeg) &&& (255 : Int32))), .val (.int (2 : Int32))] [])
                              refine Go.iincF X89 hx (l' := #[.val (.ref a), .val (.int p1), .val (.int p2), .val (.int t), .val (.int ((f t.toNatClampNeg) &&& (255 : Int32))), .val (.int (3 : Int32)), .val (.int lo), .val (.int hi), .val (.int ((f (t + (1 : Int32)).toNatClampNeg) &&& (255 : Int32))), .val (.int (3 : Int32))]) (1 : Int32) (3 : Int32) (hb hby d3_225) rfl (by decide) rfl rfl ?_
                              refine Go.goto X89 hx (pc' := 200) (hb hby d3_228) (by decide) (by decide) ?_
                              refine Go.iload X89 hx (hb hby d3_200) rfl ?_
                              refine Go.iload X89 hx (hb hby d3_202) rfl ?_
                              refine Go.icmpYes X89 hx (pc' := 231) (hb hby d3_204) (flt (by decide)).2.1 (by decide) (by decide) ?_
                              show Go p_ e_ below _ _ T89 (mkF m_ 231 #[.val (.ref a), .val (.int p1), .val (.int p2), .val (.int t), .val (.int ((f t.toNatClampNeg) &&& (255 : Int32))), .val (.int (3 : Int32)), .val (.int lo), .val (.int hi), .val (.int ((f (t + (1 : Int32)).toNatClampNeg) &&& (255 : Int32))), .val (.int (3 : Int32))] [])
                              refine Go.iloadN X89 hx (hb hby d3_231) rfl ?_
                              refine Go.iload X89 hx (hb hby d3_232) rfl ?_
                              refine Go.iadd X89 hx (hb hby d3_234) ?_
                              refine Go.istoreN X89 hx (l' := #[.val (.ref a), .val (.int p1), .val (.int p2), .val (.int (t + (3 : Int32))), .val (.int ((f t.toNatClampNeg) &&& (255 : Int32))), .val (.int (3 : Int32)), .val (.int lo), .val (.int hi), .val (.int ((f (t + (1 : Int32)).toNatClampNeg) &&& (255 : Int32))), .val (.int (3 : Int32))]) (hb hby d3_235) rfl ?_
                              refine Go.goto X89 hx (pc' := 2) (hb hby d3_236) (by decide) (by decide) ?_
                              show Go p_ e_ below _ _ T89 (mkF m_ 2 #[.val (.ref a), .val (.int p1), .val (.int p2), .val (.int (t + (3 : Int32))), .val (.int ((f t.toNatClampNeg) &&& (255 : Int32))), .val (.int (3 : Int32)), .val (.int lo), .val (.int hi), .val (.int ((f (t + (1 : Int32)).toNatClampNeg) &&& (255 : Int32))), .val (.int (3 : Int32))] [])
                              have hst : own_nst f t p2 = (3 : Int32) := by subst h_lo h_hi; unfold own_nst; rw [if_neg hc21_3, if_neg hc45_4, if_pos hc53_51, if_neg hc67_52, if_neg hc75_69, if_neg hc165_90, if_neg hc185_92, if_neg hc192_93, if_pos hc220_95]
                              rw [own_same] at hst
                              have hnz : ¬ own_seq f t p2 = 0 := by rw [hst]; decide
                              have H2 := own_ref_go f p2 n t hc4_1 hnz
                              have bd := own_seq_bd f t p2 g0 (Int32.lt_iff_toInt_lt.mp hc4_1) he hnz
                              rw [hst] at bd H2
                              exact ih _ _ _ (.val (.int ((f t.toNatClampNeg) &&& (255 : Int32)))) (.val (.int (3 : Int32))) (.val (.int lo)) (.val (.int hi)) (.val (.int ((f (t + (1 : Int32)).toNatClampNeg) &&& (255 : Int32)))) (.val (.int (3 : Int32))) X89 N89 e89 (One.val rfl) (One.val rfl) (One.val rfl) (One.val rfl) (One.val rfl) (One.val rfl) (by omega) (by omega) (by omega) (H.trans H2)
                            · skip
                              refine Go.icmpNo X89 hx (hb hby d3_220) (feq hc220_95).1 ?_
                              show Go p_ e_ below _ _ T89 (mkF m_ 223 #[.val (.ref a), .val (.int p1), .val (.int p2), .val (.int t), .val (.int ((f t.toNatClampNeg) &&& (255 : Int32))), .val (.int (3 : Int32)), .val (.int lo), .val (.int hi), .val (.int ((f (t + (1 : Int32)).toNatClampNeg) &&& (255 : Int32))), .val (.int (2 : Int32))] [])
                              refine Go.iloadN X89 hx (hb hby d3_223) rfl ?_
                              refine Go.retI X89 hx hret hlk (hb hby d3_224) (by decide) (by decide) ?_
                              have hst : own_nst f t p2 = (0 : Int32) := by subst h_lo h_hi; unfold own_nst; rw [if_neg hc21_3, if_neg hc45_4, if_pos hc53_51, if_neg hc67_52, if_neg hc75_69, if_neg hc165_90, if_neg hc185_92, if_neg hc192_93, if_neg hc220_95]
                              rw [own_same] at hst
                              exact ⟨by rw [H, own_ref_stop _ _ _ _ hc4_1 hst], N89, e89⟩
                    show Go p_ e_ below _ _ T87 (mkF m_ 94 #[.val (.ref a), .val (.int p1), .val (.int p2), .val (.int t), .val (.int ((f t.toNatClampNeg) &&& (255 : Int32))), .val (.int (3 : Int32)), .val (.int lo), .val (.int (191 : Int32)), s8, s9] [])
                    refine Go.iload X87 hx (hb hby d3_94) rfl ?_
                    refine Go.sipush X87 hx (237 : Int32) (hb hby d3_96) rfl ?_
                    by_cases hc99_96 : ((f t.toNatClampNeg) &&& (255 : Int32)) = (237 : Int32)
                    · skip
                      refine Go.icmpNo X87 hx (hb hby d3_99) (teq hc99_96).2 ?_
                      show Go p_ e_ below _ _ T87 (mkF m_ 102 #[.val (.ref a), .val (.int p1), .val (.int p2), .val (.int t), .val (.int ((f t.toNatClampNeg) &&& (255 : Int32))), .val (.int (3 : Int32)), .val (.int lo), .val (.int (191 : Int32)), s8, s9] [])
                      refine Go.sipush X87 hx (159 : Int32) (hb hby d3_102) rfl ?_
                      refine Go.istore X87 hx (l' := #[.val (.ref a), .val (.int p1), .val (.int p2), .val (.int t), .val (.int ((f t.toNatClampNeg) &&& (255 : Int32))), .val (.int (3 : Int32)), .val (.int lo), .val (.int (159 : Int32)), s8, s9]) (hb hby d3_105) rfl ?_
                      refine Go.goto X87 hx (pc' := 160) (hb hby d3_107) (by decide) (by decide) ?_
                      show Go p_ e_ below _ _ T87 (mkF m_ 160 #[.val (.ref a), .val (.int p1), .val (.int p2), .val (.int t), .val (.int ((f t.toNatClampNeg) &&& (255 : Int32))), .val (.int (3 : Int32)), .val (.int lo), .val (.int (159 : Int32)), s8, s9] [])
                      exact j88 _ _ _ X87 N87 e87 (by rw [if_pos hc99_96])
                    · skip
                      refine Go.icmpYes X87 hx (pc' := 160) (hb hby d3_99) (feq hc99_96).2 (by decide) (by decide) ?_
                      show Go p_ e_ below _ _ T87 (mkF m_ 160 #[.val (.ref a), .val (.int p1), .val (.int p2), .val (.int t), .val (.int ((f t.toNatClampNeg) &&& (255 : Int32))), .val (.int (3 : Int32)), .val (.int lo), .val (.int (191 : Int32)), s8, s9] [])
                      exact j88 _ _ _ X87 N87 e87 (by rw [if_neg hc99_96])
                  refine Go.iload X1 hx (hb hby d3_81) rfl ?_
                  refine Go.sipush X1 hx (224 : Int32) (hb hby d3_83) rfl ?_
                  by_cases hc86_97 : ((f t.toNatClampNeg) &&& (255 : Int32)) = (224 : Int32)
                  · skip
                    refine Go.icmpNo X1 hx (hb hby d3_86) (teq hc86_97).2 ?_
                    show Go p_ e_ below _ _ T1 (mkF m_ 89 #[.val (.ref a), .val (.int p1), .val (.int p2), .val (.int t), .val (.int ((f t.toNatClampNeg) &&& (255 : Int32))), .val (.int (3 : Int32)), .val (.int (128 : Int32)), .val (.int (191 : Int32)), s8, s9] [])
                    refine Go.sipush X1 hx (160 : Int32) (hb hby d3_89) rfl ?_
                    refine Go.istore X1 hx (l' := #[.val (.ref a), .val (.int p1), .val (.int p2), .val (.int t), .val (.int ((f t.toNatClampNeg) &&& (255 : Int32))), .val (.int (3 : Int32)), .val (.int (160 : Int32)), .val (.int (191 : Int32)), s8, s9]) (hb hby d3_92) rfl ?_
                    show Go p_ e_ below _ _ T1 (mkF m_ 94 #[.val (.ref a), .val (.int p1), .val (.int p2), .val (.int t), .val (.int ((f t.toNatClampNeg) &&& (255 : Int32))), .val (.int (3 : Int32)), .val (.int (160 : Int32)), .val (.int (191 : Int32)), s8, s9] [])
                    exact j86 _ _ _ X1 N1 e1 (by rw [if_pos hc86_97])
                  · skip
                    refine Go.icmpYes X1 hx (pc' := 94) (hb hby d3_86) (feq hc86_97).2 (by decide) (by decide) ?_
                    show Go p_ e_ below _ _ T1 (mkF m_ 94 #[.val (.ref a), .val (.int p1), .val (.int p2), .val (.int t), .val (.int ((f t.toNatClampNeg) &&& (255 : Int32))), .val (.int (3 : Int32)), .val (.int (128 : Int32)), .val (.int (191 : Int32)), s8, s9] [])
                    exact j86 _ _ _ X1 N1 e1 (by rw [if_neg hc86_97])
            · skip
              refine Go.icmpNo X1 hx (hb hby d3_53) (flt hc53_51).2.2.1 ?_
              show Go p_ e_ below _ _ T1 (mkF m_ 56 #[.val (.ref a), .val (.int p1), .val (.int p2), .val (.int t), .val (.int ((f t.toNatClampNeg) &&& (255 : Int32))), s5, .val (.int (128 : Int32)), .val (.int (191 : Int32)), s8, s9] [])
              refine Go.iconst X1 hx (2 : Int32) (hb hby d3_56) rfl ?_
              refine Go.istoreS X1 hx (hb hby d3_57) rfl o5 ?_
              refine Go.goto X1 hx (pc' := 160) (hb hby d3_59) (by decide) (by decide) ?_
              refine Go.iloadN X1 hx (hb hby d3_160) rfl ?_
              refine Go.iload X1 hx (hb hby d3_161) rfl ?_
              refine Go.iadd X1 hx (hb hby d3_163) ?_
              refine Go.iloadN X1 hx (hb hby d3_164) rfl ?_
              by_cases hc165_98 : p2 < (t + (2 : Int32))
              · skip
                refine Go.icmpNo X1 hx (hb hby d3_165) (tlt hc165_98).2.2.2 ?_
                show Go p_ e_ below _ _ T1 (mkF m_ 168 #[.val (.ref a), .val (.int p1), .val (.int p2), .val (.int t), .val (.int ((f t.toNatClampNeg) &&& (255 : Int32))), .val (.int (2 : Int32)), .val (.int (128 : Int32)), .val (.int (191 : Int32)), s8, s9] [])
                refine Go.iloadN X1 hx (hb hby d3_168) rfl ?_
                refine Go.retI X1 hx hret hlk (hb hby d3_169) (by decide) (by decide) ?_
                have hst : own_nst f t p2 = (0 : Int32) := by unfold own_nst; rw [if_neg hc21_3, if_neg hc45_4, if_neg hc53_51, if_pos hc165_98]
                rw [own_same] at hst
                exact ⟨by rw [H, own_ref_stop _ _ _ _ hc4_1 hst], N1, e1⟩
              · skip
                refine Go.icmpYes X1 hx (pc' := 170) (hb hby d3_165) (flt hc165_98).2.2.2 (by decide) (by decide) ?_
                show Go p_ e_ below _ _ T1 (mkF m_ 170 #[.val (.ref a), .val (.int p1), .val (.int p2), .val (.int t), .val (.int ((f t.toNatClampNeg) &&& (255 : Int32))), .val (.int (2 : Int32)), .val (.int (128 : Int32)), .val (.int (191 : Int32)), s8, s9] [])
                refine Go.aloadN X1 hx (hb hby d3_170) rfl rfl ?_
                refine Go.iloadN X1 hx (hb hby d3_171) rfl ?_
                refine Go.iconst X1 hx (1 : Int32) (hb hby d3_172) rfl ?_
                refine Go.iadd X1 hx (hb hby d3_173) ?_
                have hi99 := own_inb Sz (j := (t + (1 : Int32))) (own_at _ _ (2 : Int32) (1 : Int32) hs_ hlt6 he hc165_98 (by decide) (by decide) (by decide))
                refine Go.baload X1 hx hZ e1 Ar hi99.1 (El _ hi99.2) (hb hby d3_174) ?_
                refine Go.sipush X1 hx (255 : Int32) (hb hby d3_175) rfl ?_
                refine Go.iand X1 hx (hb hby d3_178) ?_
                refine Go.istoreS X1 hx (hb hby d3_179) rfl o8 ?_
                refine Go.iload X1 hx (hb hby d3_181) rfl ?_
                refine Go.iload X1 hx (hb hby d3_183) rfl ?_
                by_cases hc185_100 : ((f (t + (1 : Int32)).toNatClampNeg) &&& (255 : Int32)) < (128 : Int32)
                · skip
                  refine Go.icmpYes X1 hx (pc' := 195) (hb hby d3_185) (tlt hc185_100).1 (by decide) (by decide) ?_
                  show Go p_ e_ below _ _ T1 (mkF m_ 195 #[.val (.ref a), .val (.int p1), .val (.int p2), .val (.int t), .val (.int ((f t.toNatClampNeg) &&& (255 : Int32))), .val (.int (2 : Int32)), .val (.int (128 : Int32)), .val (.int (191 : Int32)), .val (.int ((f (t + (1 : Int32)).toNatClampNeg) &&& (255 : Int32))), s9] [])
                  refine Go.iloadN X1 hx (hb hby d3_195) rfl ?_
                  refine Go.retI X1 hx hret hlk (hb hby d3_196) (by decide) (by decide) ?_
                  have hst : own_nst f t p2 = (0 : Int32) := by unfold own_nst; rw [if_neg hc21_3, if_neg hc45_4, if_neg hc53_51, if_neg hc165_98, if_pos hc185_100]
                  rw [own_same] at hst
                  exact ⟨by rw [H, own_ref_stop _ _ _ _ hc4_1 hst], N1, e1⟩
                · skip
                  refine Go.icmpNo X1 hx (hb hby d3_185) (flt hc185_100).1 ?_
                  show Go p_ e_ below _ _ T1 (mkF m_ 188 #[.val (.ref a), .val (.int p1), .val (.int p2), .val (.int t), .val (.int ((f t.toNatClampNeg) &&& (255 : Int32))), .val (.int (2 : Int32)), .val (.int (128 : Int32)), .val (.int (191 : Int32)), .val (.int ((f (t + (1 : Int32)).toNatClampNeg) &&& (255 : Int32))), s9] [])
                  refine Go.iload X1 hx (hb hby d3_188) rfl ?_
                  refine Go.iload X1 hx (hb hby d3_190) rfl ?_
                  by_cases hc192_101 : (191 : Int32) < ((f (t + (1 : Int32)).toNatClampNeg) &&& (255 : Int32))
                  · skip
                    refine Go.icmpNo X1 hx (hb hby d3_192) (tlt hc192_101).2.2.2 ?_
                    show Go p_ e_ below _ _ T1 (mkF m_ 195 #[.val (.ref a), .val (.int p1), .val (.int p2), .val (.int t), .val (.int ((f t.toNatClampNeg) &&& (255 : Int32))), .val (.int (2 : Int32)), .val (.int (128 : Int32)), .val (.int (191 : Int32)), .val (.int ((f (t + (1 : Int32)).toNatClampNeg) &&& (255 : Int32))), s9] [])
                    refine Go.iloadN X1 hx (hb hby d3_195) rfl ?_
                    refine Go.retI X1 hx hret hlk (hb hby d3_196) (by decide) (by decide) ?_
                    have hst : own_nst f t p2 = (0 : Int32) := by unfold own_nst; rw [if_neg hc21_3, if_neg hc45_4, if_neg hc53_51, if_neg hc165_98, if_neg hc185_100, if_pos hc192_101]
                    rw [own_same] at hst
                    exact ⟨by rw [H, own_ref_stop _ _ _ _ hc4_1 hst], N1, e1⟩
                  · skip
                    refine Go.icmpYes X1 hx (pc' := 197) (hb hby d3_192) (flt hc192_101).2.2.2 (by decide) (by decide) ?_
                    show Go p_ e_ below _ _ T1 (mkF m_ 197 #[.val (.ref a), .val (.int p1), .val (.int p2), .val (.int t), .val (.int ((f t.toNatClampNeg) &&& (255 : Int32))), .val (.int (2 : Int32)), .val (.int (128 : Int32)), .val (.int (191 : Int32)), .val (.int ((f (t + (1 : Int32)).toNatClampNeg) &&& (255 : Int32))), s9] [])
                    refine Go.iconst X1 hx (2 : Int32) (hb hby d3_197) rfl ?_
                    refine Go.istoreS X1 hx (hb hby d3_198) rfl o9 ?_
                    refine Go.iload X1 hx (hb hby d3_200) rfl ?_
                    refine Go.iload X1 hx (hb hby d3_202) rfl ?_
                    refine Go.icmpYes X1 hx (pc' := 231) (hb hby d3_204) (flt (by decide)).2.1 (by decide) (by decide) ?_
                    show Go p_ e_ below _ _ T1 (mkF m_ 231 #[.val (.ref a), .val (.int p1), .val (.int p2), .val (.int t), .val (.int ((f t.toNatClampNeg) &&& (255 : Int32))), .val (.int (2 : Int32)), .val (.int (128 : Int32)), .val (.int (191 : Int32)), .val (.int ((f (t + (1 : Int32)).toNatClampNeg) &&& (255 : Int32))), .val (.int (2 : Int32))] [])
                    refine Go.iloadN X1 hx (hb hby d3_231) rfl ?_
                    refine Go.iload X1 hx (hb hby d3_232) rfl ?_
                    refine Go.iadd X1 hx (hb hby d3_234) ?_
                    refine Go.istoreN X1 hx (l' := #[.val (.ref a), .val (.int p1), .val (.int p2), .val (.int (t + (2 : Int32))), .val (.int ((f t.toNatClampNeg) &&& (255 : Int32))), .val (.int (2 : Int32)), .val (.int (128 : Int32)), .val (.int (191 : Int32)), .val (.int ((f (t + (1 : Int32)).toNatClampNeg) &&& (255 : Int32))), .val (.int (2 : Int32))]) (hb hby d3_235) rfl ?_
                    refine Go.goto X1 hx (pc' := 2) (hb hby d3_236) (by decide) (by decide) ?_
                    show Go p_ e_ below _ _ T1 (mkF m_ 2 #[.val (.ref a), .val (.int p1), .val (.int p2), .val (.int (t + (2 : Int32))), .val (.int ((f t.toNatClampNeg) &&& (255 : Int32))), .val (.int (2 : Int32)), .val (.int (128 : Int32)), .val (.int (191 : Int32)), .val (.int ((f (t + (1 : Int32)).toNatClampNeg) &&& (255 : Int32))), .val (.int (2 : Int32))] [])
                    have hst : own_nst f t p2 = (2 : Int32) := by unfold own_nst; rw [if_neg hc21_3, if_neg hc45_4, if_neg hc53_51, if_neg hc165_98, if_neg hc185_100, if_neg hc192_101]
                    rw [own_same] at hst
                    have hnz : ¬ own_seq f t p2 = 0 := by rw [hst]; decide
                    have H2 := own_ref_go f p2 n t hc4_1 hnz
                    have bd := own_seq_bd f t p2 g0 (Int32.lt_iff_toInt_lt.mp hc4_1) he hnz
                    rw [hst] at bd H2
                    exact ih _ _ _ (.val (.int ((f t.toNatClampNeg) &&& (255 : Int32)))) (.val (.int (2 : Int32))) (.val (.int (128 : Int32))) (.val (.int (191 : Int32))) (.val (.int ((f (t + (1 : Int32)).toNatClampNeg) &&& (255 : Int32)))) (.val (.int (2 : Int32))) X1 N1 e1 (One.val rfl) (One.val rfl) (One.val rfl) (One.val rfl) (One.val rfl) (One.val rfl) (by omega) (by omega) (by omega) (H.trans H2)
      · skip
        refine Go.icmpYes X1 hx (pc' := 239) (hb hby d3_4) (flt hc4_1).2.1 (by decide) (by decide) ?_
        show Go p_ e_ below _ _ T1 (mkF m_ 239 #[.val (.ref a), .val (.int p1), .val (.int p2), .val (.int t), s4, s5, s6, s7, s8, s9] [])
        refine Go.iconst X1 hx (-1 : Int32) (hb hby d3_239) rfl ?_
        refine Go.retI X1 hx hret hlk (hb hby d3_240) (by decide) (by decide) ?_
        exact ⟨by rw [H, own_ref_out _ _ _ _ hc4_1], N1, e1⟩
  exact loop 6 _ _ _ .unset .unset .unset .unset .unset .unset X0 N0 e0 One.u One.u One.u One.u One.u One.u hs0 hse (by omega) rfl
theorem own_r7 (x : Int32) : 0 ≤ ((x &&& (2147483647 : Int32)) % (7 : Int32)).toInt ∧ ((x &&& (2147483647 : Int32)) % (7 : Int32)).toInt ≤ 6 := by
  have h1 : (x &&& 2147483647).toInt = x.toInt % (2 ^ 31 : Nat) := c_mask x 2147483647 31 (by decide) (by decide)
  have h2 := c_irem (x &&& 2147483647) 7 7 (by decide)
  omega
theorem own_mm (x y : Int32) (hx : 0 ≤ x.toInt ∧ x.toInt ≤ 6) (hy : 0 ≤ y.toInt ∧ y.toInt ≤ 6) : 0 ≤ (own_min x y).toInt ∧ (own_min x y).toInt ≤ (own_max x y).toInt ∧ (own_max x y).toInt ≤ 6 := by
  unfold own_min own_max
  simp only [Int32.lt_iff_toInt_lt]
  repeat' split
  all_goals omega
theorem pd_oIIcI : parseMethodDescriptor "(II)I" = some ⟨[.int, .int], some .int⟩ := by decide +kernel
theorem pn_0 : plainName "com/example/gatefield/gatefield/model/RecordsNotUtf8PinLaw" = true := by first | (simp [plainName, overriddenIn]; done) | decide +kernel
theorem ef_rm0 (m_ : MethodId) (p0 : Int32) (p1 : Int32) (p2 : Int32) (p3 : Int32) : entryFrame m_ #[(.int p0), (.int p1), (.int p2), (.int p3)] maxLocals = mkF m_ 0 #[.val (.int p0), .val (.int p1), .val (.int p2), .val (.int p3), .unset, .unset, .unset, .unset, .unset] [] := by first | (simp [entryFrame, mkF, argsToLocals, Value.category, maxLocals]; done) | rfl
def Q0 (Z : State) (p0 : Int32) (p1 : Int32) (p2 : Int32) (p3 : Int32)  (h0 : Heap) (n0 : Nat) (v : Option Value) (h : Heap) (L : List Loc) : Prop := v = some (.int 1) ∧ Fr n0 L
set_option maxRecDepth 65536 in
set_option maxHeartbeats 40000000 in
theorem rm0 (l : Launch) (Z : State) (a0 : Array Value) (hw : ∀ d ∈ tables_1, d.before a0 Z = true) (ws : List Jvm.Cond) (p0 : Int32) (p1 : Int32) (p2 : Int32) (p3 : Int32)  (h0 : Heap) (n0 : Nat) (Z0 : n0 ≤ h0.size)  :
    MetFree l x (head1 (Jvm.Cond.code x code maxLocals ret :: ws) room_1) (fun a_ U_ => a_ = #[(.int p0), (.int p1), (.int p2), (.int p3)] ∧ Z.Warmed39 U_.vm ∧ U_.heap = h0) (fun _ _ _ _ _ => True) (fun _ U_ o_ V_ => ∃ v_ L_, o_ = .returned v_ ∧ Q0 Z p0 p1 p2 p3 h0 n0 v_ V_.heap L_ ∧ FrameEnd U_ o_ V_ L_ room_1.cells room_1.slots) := by
  refine metOf (Q := Q0 Z p0 p1 p2 p3 h0 n0) (plainFor_of_name pn_0) ?_
  intro p_ e_ s_ m_ below meth c_ s₁ X0 hx hby hml hret hlk hZ hown hnm e0
  rw [ef_rm0]
  have N0 := Fr.nil n0
  show Go p_ e_ below _ _ s₁ (mkF m_ 0 #[.val (.int p0), .val (.int p1), .val (.int p2), .val (.int p3), .unset, .unset, .unset, .unset, .unset] [])
  refine Go.bipush X0 hx (6 : Int32) (hb hby at_0) rfl ?_
  refine Go.newP X0 hx hZ (hw _ (List.mem_of_getElem? (i := 0) rfl)) e0 (hb hby at_2) (by decide) (cap := 6) (by decide) (by decide) (by decide) (by decide) ?_
  intro T1 h1 c1 b1 zq1 X1 e1 E1 A1
  have g_b1 : n0 ≤ b1 := Nat.le_trans Z0 (Nat.le_of_eq zq1.symm)
  have Z1 : n0 ≤ h1.size := Nat.le_trans Z0 E1.1
  have V1 : Arv Z h1 b1 c1 .byte (6 : Int32) [(.int (0 : Int32)), (.int (0 : Int32)), (.int (0 : Int32)), (.int (0 : Int32)), (.int (0 : Int32)), (.int (0 : Int32))] (.int (0 : Int32)) := (Arv.new A1 (by decide)).pad (pad_rep [] (.int (0 : Int32)) 6)
  show Go p_ e_ below _ _ T1 (mkF m_ 4 #[.val (.int p0), .val (.int p1), .val (.int p2), .val (.int p3), .unset, .unset, .unset, .unset, .unset] [(.ref b1)])
  refine Go.astore X1 hx (l' := #[.val (.int p0), .val (.int p1), .val (.int p2), .val (.int p3), .val (.ref b1), .unset, .unset, .unset, .unset]) (hb hby at_4) rfl rfl ?_
  refine Go.aload X1 hx (hb hby at_6) rfl rfl ?_
  refine Go.iconst X1 hx (0 : Int32) (hb hby at_8) rfl ?_
  refine Go.iloadN X1 hx (hb hby at_9) rfl ?_
  refine Go.i2b X1 hx (hb hby at_10) ?_
  obtain ⟨cl2, Ar2, q2, S2, M2, H2, G2⟩ := V1
  refine Go.stB X1 hx hZ e1 Ar2 (inb_of S2 ⟨by decide, by decide⟩) (hb hby at_11) ?_
  intro T2 h2 X2 e2 W2
  have N2 := Fr.snoc X2 N0 g_b1
  have V2 : Arv Z h2 b1 c1 .byte (6 : Int32) [(.int (nar .byte (p0.toInt8.toInt32))), (.int (0 : Int32)), (.int (0 : Int32)), (.int (0 : Int32)), (.int (0 : Int32)), (.int (0 : Int32))] (.int (0 : Int32)) := Arv.set Ar2 q2 S2 M2 H2 G2 (fits_nar_byte _) W2 0 rfl (Nat.le_of_ble_eq_true rfl)
  have Z2 : n0 ≤ h2.size := (by rw [W2.size]; exact Z1)
  show Go p_ e_ below _ _ T2 (mkF m_ 12 #[.val (.int p0), .val (.int p1), .val (.int p2), .val (.int p3), .val (.ref b1), .unset, .unset, .unset, .unset] [])
  refine Go.aload X2 hx (hb hby at_12) rfl rfl ?_
  refine Go.iconst X2 hx (1 : Int32) (hb hby at_14) rfl ?_
  refine Go.iloadN X2 hx (hb hby at_15) rfl ?_
  refine Go.bipush X2 hx (8 : Int32) (hb hby at_16) rfl ?_
  refine Go.iushr X2 hx (hb hby at_18) ?_
  refine Go.i2b X2 hx (hb hby at_19) ?_
  obtain ⟨cl3, Ar3, q3, S3, M3, H3, G3⟩ := V2
  refine Go.stB X2 hx hZ e2 Ar3 (inb_of S3 ⟨by decide, by decide⟩) (hb hby at_20) ?_
  intro T3 h3 X3 e3 W3
  have N3 := Fr.snoc X3 N2 g_b1
  have V3 : Arv Z h3 b1 c1 .byte (6 : Int32) [(.int (nar .byte (p0.toInt8.toInt32))), (.int (nar .byte (((p0.toUInt32 >>> ((8 : Int32) &&& 31).toUInt32).toInt32).toInt8.toInt32))), (.int (0 : Int32)), (.int (0 : Int32)), (.int (0 : Int32)), (.int (0 : Int32))] (.int (0 : Int32)) := Arv.set Ar3 q3 S3 M3 H3 G3 (fits_nar_byte _) W3 1 rfl (Nat.le_of_ble_eq_true rfl)
  have Z3 : n0 ≤ h3.size := (by rw [W3.size]; exact Z2)
  show Go p_ e_ below _ _ T3 (mkF m_ 21 #[.val (.int p0), .val (.int p1), .val (.int p2), .val (.int p3), .val (.ref b1), .unset, .unset, .unset, .unset] [])
  refine Go.aload X3 hx (hb hby at_21) rfl rfl ?_
  refine Go.iconst X3 hx (2 : Int32) (hb hby at_23) rfl ?_
  refine Go.iloadN X3 hx (hb hby at_24) rfl ?_
  refine Go.bipush X3 hx (16 : Int32) (hb hby at_25) rfl ?_
  refine Go.iushr X3 hx (hb hby at_27) ?_
  refine Go.i2b X3 hx (hb hby at_28) ?_
  obtain ⟨cl4, Ar4, q4, S4, M4, H4, G4⟩ := V3
  refine Go.stB X3 hx hZ e3 Ar4 (inb_of S4 ⟨by decide, by decide⟩) (hb hby at_29) ?_
  intro T4 h4 X4 e4 W4
  have N4 := Fr.snoc X4 N3 g_b1
  have V4 : Arv Z h4 b1 c1 .byte (6 : Int32) [(.int (nar .byte (p0.toInt8.toInt32))), (.int (nar .byte (((p0.toUInt32 >>> ((8 : Int32) &&& 31).toUInt32).toInt32).toInt8.toInt32))), (.int (nar .byte (((p0.toUInt32 >>> ((16 : Int32) &&& 31).toUInt32).toInt32).toInt8.toInt32))), (.int (0 : Int32)), (.int (0 : Int32)), (.int (0 : Int32))] (.int (0 : Int32)) := Arv.set Ar4 q4 S4 M4 H4 G4 (fits_nar_byte _) W4 2 rfl (Nat.le_of_ble_eq_true rfl)
  have Z4 : n0 ≤ h4.size := (by rw [W4.size]; exact Z3)
  show Go p_ e_ below _ _ T4 (mkF m_ 30 #[.val (.int p0), .val (.int p1), .val (.int p2), .val (.int p3), .val (.ref b1), .unset, .unset, .unset, .unset] [])
  refine Go.aload X4 hx (hb hby at_30) rfl rfl ?_
  refine Go.iconst X4 hx (3 : Int32) (hb hby at_32) rfl ?_
  refine Go.iloadN X4 hx (hb hby at_33) rfl ?_
  refine Go.bipush X4 hx (24 : Int32) (hb hby at_34) rfl ?_
  refine Go.iushr X4 hx (hb hby at_36) ?_
  refine Go.i2b X4 hx (hb hby at_37) ?_
  obtain ⟨cl5, Ar5, q5, S5, M5, H5, G5⟩ := V4
  refine Go.stB X4 hx hZ e4 Ar5 (inb_of S5 ⟨by decide, by decide⟩) (hb hby at_38) ?_
  intro T5 h5 X5 e5 W5
  have N5 := Fr.snoc X5 N4 g_b1
  have V5 : Arv Z h5 b1 c1 .byte (6 : Int32) [(.int (nar .byte (p0.toInt8.toInt32))), (.int (nar .byte (((p0.toUInt32 >>> ((8 : Int32) &&& 31).toUInt32).toInt32).toInt8.toInt32))), (.int (nar .byte (((p0.toUInt32 >>> ((16 : Int32) &&& 31).toUInt32).toInt32).toInt8.toInt32))), (.int (nar .byte (((p0.toUInt32 >>> ((24 : Int32) &&& 31).toUInt32).toInt32).toInt8.toInt32))), (.int (0 : Int32)), (.int (0 : Int32))] (.int (0 : Int32)) := Arv.set Ar5 q5 S5 M5 H5 G5 (fits_nar_byte _) W5 3 rfl (Nat.le_of_ble_eq_true rfl)
  have Z5 : n0 ≤ h5.size := (by rw [W5.size]; exact Z4)
  show Go p_ e_ below _ _ T5 (mkF m_ 39 #[.val (.int p0), .val (.int p1), .val (.int p2), .val (.int p3), .val (.ref b1), .unset, .unset, .unset, .unset] [])
  refine Go.aload X5 hx (hb hby at_39) rfl rfl ?_
  refine Go.iconst X5 hx (4 : Int32) (hb hby at_41) rfl ?_
  refine Go.iloadN X5 hx (hb hby at_42) rfl ?_
  refine Go.i2b X5 hx (hb hby at_43) ?_
  obtain ⟨cl6, Ar6, q6, S6, M6, H6, G6⟩ := V5
  refine Go.stB X5 hx hZ e5 Ar6 (inb_of S6 ⟨by decide, by decide⟩) (hb hby at_44) ?_
  intro T6 h6 X6 e6 W6
  have N6 := Fr.snoc X6 N5 g_b1
  have V6 : Arv Z h6 b1 c1 .byte (6 : Int32) [(.int (nar .byte (p0.toInt8.toInt32))), (.int (nar .byte (((p0.toUInt32 >>> ((8 : Int32) &&& 31).toUInt32).toInt32).toInt8.toInt32))), (.int (nar .byte (((p0.toUInt32 >>> ((16 : Int32) &&& 31).toUInt32).toInt32).toInt8.toInt32))), (.int (nar .byte (((p0.toUInt32 >>> ((24 : Int32) &&& 31).toUInt32).toInt32).toInt8.toInt32))), (.int (nar .byte (p1.toInt8.toInt32))), (.int (0 : Int32))] (.int (0 : Int32)) := Arv.set Ar6 q6 S6 M6 H6 G6 (fits_nar_byte _) W6 4 rfl (Nat.le_of_ble_eq_true rfl)
  have Z6 : n0 ≤ h6.size := (by rw [W6.size]; exact Z5)
  show Go p_ e_ below _ _ T6 (mkF m_ 45 #[.val (.int p0), .val (.int p1), .val (.int p2), .val (.int p3), .val (.ref b1), .unset, .unset, .unset, .unset] [])
  refine Go.aload X6 hx (hb hby at_45) rfl rfl ?_
  refine Go.iconst X6 hx (5 : Int32) (hb hby at_47) rfl ?_
  refine Go.iloadN X6 hx (hb hby at_48) rfl ?_
  refine Go.bipush X6 hx (8 : Int32) (hb hby at_49) rfl ?_
  refine Go.iushr X6 hx (hb hby at_51) ?_
  refine Go.i2b X6 hx (hb hby at_52) ?_
  obtain ⟨cl7, Ar7, q7, S7, M7, H7, G7⟩ := V6
  refine Go.stB X6 hx hZ e6 Ar7 (inb_of S7 ⟨by decide, by decide⟩) (hb hby at_53) ?_
  intro T7 h7 X7 e7 W7
  have N7 := Fr.snoc X7 N6 g_b1
  have V7 : Arv Z h7 b1 c1 .byte (6 : Int32) [(.int (nar .byte (p0.toInt8.toInt32))), (.int (nar .byte (((p0.toUInt32 >>> ((8 : Int32) &&& 31).toUInt32).toInt32).toInt8.toInt32))), (.int (nar .byte (((p0.toUInt32 >>> ((16 : Int32) &&& 31).toUInt32).toInt32).toInt8.toInt32))), (.int (nar .byte (((p0.toUInt32 >>> ((24 : Int32) &&& 31).toUInt32).toInt32).toInt8.toInt32))), (.int (nar .byte (p1.toInt8.toInt32))), (.int (nar .byte (((p1.toUInt32 >>> ((8 : Int32) &&& 31).toUInt32).toInt32).toInt8.toInt32)))] (.int (0 : Int32)) := Arv.set Ar7 q7 S7 M7 H7 G7 (fits_nar_byte _) W7 5 rfl (Nat.le_of_ble_eq_true rfl)
  have Z7 : n0 ≤ h7.size := (by rw [W7.size]; exact Z6)
  show Go p_ e_ below _ _ T7 (mkF m_ 54 #[.val (.int p0), .val (.int p1), .val (.int p2), .val (.int p3), .val (.ref b1), .unset, .unset, .unset, .unset] [])
  refine Go.iloadN X7 hx (hb hby at_54) rfl ?_
  refine Go.ldcI X7 hx hZ hown (hw _ (List.mem_of_getElem? (i := 1) rfl)) (hb hby at_55) ?_
  refine Go.iand X7 hx (hb hby at_57) ?_
  refine Go.bipush X7 hx (7 : Int32) (hb hby at_58) rfl ?_
  refine Go.irem X7 hx (hb hby at_60) (by decide) ?_
  refine Go.istore X7 hx (l' := #[.val (.int p0), .val (.int p1), .val (.int p2), .val (.int p3), .val (.ref b1), .val (.int ((p2 &&& (2147483647 : Int32)) % (7 : Int32))), .unset, .unset, .unset]) (hb hby at_61) rfl ?_
  refine Go.iloadN X7 hx (hb hby at_63) rfl ?_
  refine Go.ldcI X7 hx hZ hown (hw _ (List.mem_of_getElem? (i := 1) rfl)) (hb hby at_64) ?_
  refine Go.iand X7 hx (hb hby at_66) ?_
  refine Go.bipush X7 hx (7 : Int32) (hb hby at_67) rfl ?_
  refine Go.irem X7 hx (hb hby at_69) (by decide) ?_
  refine Go.istore X7 hx (l' := #[.val (.int p0), .val (.int p1), .val (.int p2), .val (.int p3), .val (.ref b1), .val (.int ((p2 &&& (2147483647 : Int32)) % (7 : Int32))), .val (.int ((p3 &&& (2147483647 : Int32)) % (7 : Int32))), .unset, .unset]) (hb hby at_70) rfl ?_
  refine Go.iload X7 hx (hb hby at_72) rfl ?_
  show Go p_ e_ below _ _ T7 (mkF m_ 74 #[.val (.int p0), .val (.int p1), .val (.int p2), .val (.int p3), .val (.ref b1), .val (.int ((p2 &&& (2147483647 : Int32)) % (7 : Int32))), .val (.int ((p3 &&& (2147483647 : Int32)) % (7 : Int32))), .unset, .unset] [(.int ((p2 &&& (2147483647 : Int32)) % (7 : Int32)))])
  refine Go.iload X7 hx (hb hby at_74) rfl ?_
  refine Go.callS X7 hx hZ (rm1 l Z a0 hw [] ((p2 &&& (2147483647 : Int32)) % (7 : Int32)) ((p3 &&& (2147483647 : Int32)) % (7 : Int32))  h7 n0 Z7 ) hown (hw _ (List.mem_of_getElem? (i := 2) rfl)) (hw _ (List.mem_of_getElem? (i := 3) rfl)) (hw _ (List.mem_of_getElem? (i := 4) rfl)) (hw _ (List.mem_of_getElem? (i := 5) rfl)) (by decide) e7 (W := 0) (by rw [hml]; rfl) (argsL := [(.int ((p2 &&& (2147483647 : Int32)) % (7 : Int32))), (.int ((p3 &&& (2147483647 : Int32)) % (7 : Int32)))]) (S := []) (Nat.le_of_ble_eq_true rfl) (by decide) (by decide) (by decide) (by decide) pd_oIIcI rfl rfl (hb hby at_76) ?_
  rintro _ T8 L8 X8 ⟨rfl, N8q, e8⟩
  have N8 := Fr.app N7 N8q
  show Go p_ e_ below _ _ T8 (mkF m_ 79 #[.val (.int p0), .val (.int p1), .val (.int p2), .val (.int p3), .val (.ref b1), .val (.int ((p2 &&& (2147483647 : Int32)) % (7 : Int32))), .val (.int ((p3 &&& (2147483647 : Int32)) % (7 : Int32))), .unset, .unset] [(.int (own_min ((p2 &&& (2147483647 : Int32)) % (7 : Int32)) ((p3 &&& (2147483647 : Int32)) % (7 : Int32)) ))])
  refine Go.istore X8 hx (l' := #[.val (.int p0), .val (.int p1), .val (.int p2), .val (.int p3), .val (.ref b1), .val (.int ((p2 &&& (2147483647 : Int32)) % (7 : Int32))), .val (.int ((p3 &&& (2147483647 : Int32)) % (7 : Int32))), .val (.int (own_min ((p2 &&& (2147483647 : Int32)) % (7 : Int32)) ((p3 &&& (2147483647 : Int32)) % (7 : Int32)) )), .unset]) (hb hby at_79) rfl ?_
  refine Go.iload X8 hx (hb hby at_81) rfl ?_
  refine Go.iload X8 hx (hb hby at_83) rfl ?_
  refine Go.callS X8 hx hZ (rm2 l Z a0 hw [] ((p2 &&& (2147483647 : Int32)) % (7 : Int32)) ((p3 &&& (2147483647 : Int32)) % (7 : Int32))  h7 n0 Z7 ) hown (hw _ (List.mem_of_getElem? (i := 6) rfl)) (hw _ (List.mem_of_getElem? (i := 7) rfl)) (hw _ (List.mem_of_getElem? (i := 4) rfl)) (hw _ (List.mem_of_getElem? (i := 8) rfl)) (by decide) e8 (W := 0) (by rw [hml]; rfl) (argsL := [(.int ((p2 &&& (2147483647 : Int32)) % (7 : Int32))), (.int ((p3 &&& (2147483647 : Int32)) % (7 : Int32)))]) (S := []) (Nat.le_of_ble_eq_true rfl) (by decide) (by decide) (by decide) (by decide) pd_oIIcI rfl rfl (hb hby at_85) ?_
  rintro _ T9 L9 X9 ⟨rfl, N9q, e9⟩
  have N9 := Fr.app N8 N9q
  show Go p_ e_ below _ _ T9 (mkF m_ 88 #[.val (.int p0), .val (.int p1), .val (.int p2), .val (.int p3), .val (.ref b1), .val (.int ((p2 &&& (2147483647 : Int32)) % (7 : Int32))), .val (.int ((p3 &&& (2147483647 : Int32)) % (7 : Int32))), .val (.int (own_min ((p2 &&& (2147483647 : Int32)) % (7 : Int32)) ((p3 &&& (2147483647 : Int32)) % (7 : Int32)) )), .unset] [(.int (own_max ((p2 &&& (2147483647 : Int32)) % (7 : Int32)) ((p3 &&& (2147483647 : Int32)) % (7 : Int32)) ))])
  refine Go.istore X9 hx (l' := #[.val (.int p0), .val (.int p1), .val (.int p2), .val (.int p3), .val (.ref b1), .val (.int ((p2 &&& (2147483647 : Int32)) % (7 : Int32))), .val (.int ((p3 &&& (2147483647 : Int32)) % (7 : Int32))), .val (.int (own_min ((p2 &&& (2147483647 : Int32)) % (7 : Int32)) ((p3 &&& (2147483647 : Int32)) % (7 : Int32)) )), .val (.int (own_max ((p2 &&& (2147483647 : Int32)) % (7 : Int32)) ((p3 &&& (2147483647 : Int32)) % (7 : Int32)) ))]) (hb hby at_88) rfl ?_
  obtain ⟨cl, Ar, -, Sz0, M, H, -⟩ := V7
  have Sz : cl.slots.size = 6 := Sz0
  obtain ⟨fb, hfb⟩ : ∃ fb : Nat → Int32, fb = fun k => ([(nar .byte (p0.toInt8.toInt32)), (nar .byte (((p0.toUInt32 >>> ((8 : Int32) &&& 31).toUInt32).toInt32).toInt8.toInt32)), (nar .byte (((p0.toUInt32 >>> ((16 : Int32) &&& 31).toUInt32).toInt32).toInt8.toInt32)), (nar .byte (((p0.toUInt32 >>> ((24 : Int32) &&& 31).toUInt32).toInt32).toInt8.toInt32)), (nar .byte (p1.toInt8.toInt32)), (nar .byte (((p1.toUInt32 >>> ((8 : Int32) &&& 31).toUInt32).toInt32).toInt8.toInt32))] : List Int32).getD k 0 := ⟨_, rfl⟩
  have El : ∀ k, k < 6 → cl.slots[k]? = some (.int (fb k)) := by
    intro k hk
    rw [H k (by rw [Sz]; exact hk), hfb]
    match k, hk with
    | 0, _ | 1, _ | 2, _ | 3, _ | 4, _ | 5, _ => rfl
  have hmm := own_mm ((p2 &&& (2147483647 : Int32)) % (7 : Int32)) ((p3 &&& (2147483647 : Int32)) % (7 : Int32)) (own_r7 _) (own_r7 _)
  refine Go.aload X9 hx (hb hby at_90) rfl rfl ?_
  refine Go.iload X9 hx (hb hby at_92) rfl ?_
  refine Go.iload X9 hx (hb hby at_94) rfl ?_
  refine Go.callS X9 hx hZ (rm3 l Z a0 hw [] b1 (own_min ((p2 &&& (2147483647 : Int32)) % (7 : Int32)) ((p3 &&& (2147483647 : Int32)) % (7 : Int32)) ) (own_max ((p2 &&& (2147483647 : Int32)) % (7 : Int32)) ((p3 &&& (2147483647 : Int32)) % (7 : Int32)) ) cl fb h7 n0 Z7 Ar Sz El hmm.1 hmm.2.1 hmm.2.2) hown (hw _ (List.mem_of_getElem? (i := 9) rfl)) (hw _ (List.mem_of_getElem? (i := 10) rfl)) (hw _ (List.mem_of_getElem? (i := 11) rfl)) (hw _ (List.mem_of_getElem? (i := 12) rfl)) (by decide) e9 (W := 0) (by rw [hml]; rfl) (argsL := [(.ref b1), (.int (own_min ((p2 &&& (2147483647 : Int32)) % (7 : Int32)) ((p3 &&& (2147483647 : Int32)) % (7 : Int32)) )), (.int (own_max ((p2 &&& (2147483647 : Int32)) % (7 : Int32)) ((p3 &&& (2147483647 : Int32)) % (7 : Int32)) ))]) (S := []) (Nat.le_of_ble_eq_true rfl) (by decide) (by decide) (by decide) (by decide) pd_oABIIcI rfl rfl (hb hby at_96) ?_
  rintro _ T10 L10 X10 ⟨rfl, N10q, e10⟩
  have N10 := Fr.app N9 N10q
  show Go p_ e_ below _ _ T10 (mkF m_ 99 #[.val (.int p0), .val (.int p1), .val (.int p2), .val (.int p3), .val (.ref b1), .val (.int ((p2 &&& (2147483647 : Int32)) % (7 : Int32))), .val (.int ((p3 &&& (2147483647 : Int32)) % (7 : Int32))), .val (.int (own_min ((p2 &&& (2147483647 : Int32)) % (7 : Int32)) ((p3 &&& (2147483647 : Int32)) % (7 : Int32)) )), .val (.int (own_max ((p2 &&& (2147483647 : Int32)) % (7 : Int32)) ((p3 &&& (2147483647 : Int32)) % (7 : Int32)) ))] [(.int (own_ref fb (own_max ((p2 &&& (2147483647 : Int32)) % (7 : Int32)) ((p3 &&& (2147483647 : Int32)) % (7 : Int32)) ) 6 (own_min ((p2 &&& (2147483647 : Int32)) % (7 : Int32)) ((p3 &&& (2147483647 : Int32)) % (7 : Int32)) )))])
  refine Go.aload X10 hx (hb hby at_99) rfl rfl ?_
  refine Go.iload X10 hx (hb hby at_101) rfl ?_
  refine Go.iload X10 hx (hb hby at_103) rfl ?_
  refine Go.callS X10 hx hZ (rm4 l Z a0 hw [] b1 (own_min ((p2 &&& (2147483647 : Int32)) % (7 : Int32)) ((p3 &&& (2147483647 : Int32)) % (7 : Int32)) ) (own_max ((p2 &&& (2147483647 : Int32)) % (7 : Int32)) ((p3 &&& (2147483647 : Int32)) % (7 : Int32)) ) cl fb h7 n0 Z7 Ar Sz El hmm.1 hmm.2.1 hmm.2.2) hown (hw _ (List.mem_of_getElem? (i := 13) rfl)) (hw _ (List.mem_of_getElem? (i := 14) rfl)) (hw _ (List.mem_of_getElem? (i := 15) rfl)) (hw _ (List.mem_of_getElem? (i := 16) rfl)) (by decide) e10 (W := 1) (by rw [hml]; rfl) (argsL := [(.ref b1), (.int (own_min ((p2 &&& (2147483647 : Int32)) % (7 : Int32)) ((p3 &&& (2147483647 : Int32)) % (7 : Int32)) )), (.int (own_max ((p2 &&& (2147483647 : Int32)) % (7 : Int32)) ((p3 &&& (2147483647 : Int32)) % (7 : Int32)) ))]) (S := [(.int (own_ref fb (own_max ((p2 &&& (2147483647 : Int32)) % (7 : Int32)) ((p3 &&& (2147483647 : Int32)) % (7 : Int32)) ) 6 (own_min ((p2 &&& (2147483647 : Int32)) % (7 : Int32)) ((p3 &&& (2147483647 : Int32)) % (7 : Int32)) )))]) (Nat.le_of_ble_eq_true rfl) (by decide) (by decide) (by decide) (by decide) pd_oABIIcI rfl rfl (hb hby at_105) ?_
  rintro _ T11 L11 X11 ⟨rfl, N11q, e11⟩
  have N11 := Fr.app N10 N11q
  show Go p_ e_ below _ _ T11 (mkF m_ 108 #[.val (.int p0), .val (.int p1), .val (.int p2), .val (.int p3), .val (.ref b1), .val (.int ((p2 &&& (2147483647 : Int32)) % (7 : Int32))), .val (.int ((p3 &&& (2147483647 : Int32)) % (7 : Int32))), .val (.int (own_min ((p2 &&& (2147483647 : Int32)) % (7 : Int32)) ((p3 &&& (2147483647 : Int32)) % (7 : Int32)) )), .val (.int (own_max ((p2 &&& (2147483647 : Int32)) % (7 : Int32)) ((p3 &&& (2147483647 : Int32)) % (7 : Int32)) ))] [(.int (own_ref fb (own_max ((p2 &&& (2147483647 : Int32)) % (7 : Int32)) ((p3 &&& (2147483647 : Int32)) % (7 : Int32)) ) 6 (own_min ((p2 &&& (2147483647 : Int32)) % (7 : Int32)) ((p3 &&& (2147483647 : Int32)) % (7 : Int32)) ))), (.int (own_ref fb (own_max ((p2 &&& (2147483647 : Int32)) % (7 : Int32)) ((p3 &&& (2147483647 : Int32)) % (7 : Int32)) ) 6 (own_min ((p2 &&& (2147483647 : Int32)) % (7 : Int32)) ((p3 &&& (2147483647 : Int32)) % (7 : Int32)) )))])
  refine Go.icmpNo X11 hx (hb hby at_108) (teq rfl).2 ?_
  show Go p_ e_ below _ _ T11 (mkF m_ 111 #[.val (.int p0), .val (.int p1), .val (.int p2), .val (.int p3), .val (.ref b1), .val (.int ((p2 &&& (2147483647 : Int32)) % (7 : Int32))), .val (.int ((p3 &&& (2147483647 : Int32)) % (7 : Int32))), .val (.int (own_min ((p2 &&& (2147483647 : Int32)) % (7 : Int32)) ((p3 &&& (2147483647 : Int32)) % (7 : Int32)) )), .val (.int (own_max ((p2 &&& (2147483647 : Int32)) % (7 : Int32)) ((p3 &&& (2147483647 : Int32)) % (7 : Int32)) ))] [])
  refine Go.iconst X11 hx (1 : Int32) (hb hby at_111) rfl ?_
  refine Go.goto X11 hx (pc' := 116) (hb hby at_112) (by decide) (by decide) ?_
  refine Go.retN X11 hx hret hlk (by simp) (hb hby at_116) (by decide) (by decide) ?_
  exact ⟨rfl, N11⟩
set_option maxRecDepth 65536 in
set_option maxHeartbeats 40000000 in
theorem comes_1 {Post : Tables → Env → Array Value → State → Outcome → State → Prop} (hpost : ∀ tb e args s v u, (limb_1_1.after args s (.returned v) u = true ∧ limb_1_2.after args s (.returned v) u = true ∧ True) → FrameEnd s (.returned v) u (Jvm.fieldLocs frame_1_writes args s ++ Jvm.arrayLocs frame_1_arrays args s ++ Jvm.staticLocs frame_1_statics s) 16 128 → Post tb e args s (.returned v) u) :
    ArmFor flags0 classFile x code maxLocals ret World_1 tables_1 room_1 Calls_1 rest_1 Pre_1 Post := by
  intro l hfl _ _ p e ha hc hk s m args below hf hA hF happ hP
  obtain ⟨hcalls, hrest, hpre⟩ := hP
  obtain ⟨-, -, -, hnamed, -, -, -, hat⟩ := (Spec.applies_iff hf).mp happ
  obtain ⟨hg, hn⟩ := and_e (Cond.before_iff.mp (show (Jvm.Cond.and given_1 narrow_1).before args s = true from hpre))
  obtain ⟨g1, g2⟩ := and_e hg
  obtain ⟨g3, g4⟩ := and_e g2
  obtain ⟨g5, g6⟩ := and_e g4
  obtain ⟨g7, g8⟩ := and_e g6
  obtain ⟨w0, w1, w2, w3, rfl⟩ : ∃ w0 w1 w2 w3 : Value, args = #[w0, w1, w2, w3] := by
    have hs : args.size = 4 := by simpa [Cond.value, given_1] using g1
    obtain ⟨L⟩ := args
    match L, hs with
    | [w0, w1, w2, w3], _ => exact ⟨w0, w1, w2, w3, rfl⟩
  have hw := fun d (hd : d ∈ tables_1) => atoms_spec (ws := Jvm.Cond.code x code maxLocals ret :: tables_1) hat d (List.mem_cons_of_mem _ hd)
  have hfit : Fit s := fun {y c} hc i hi => by
    obtain ⟨ha, rfl⟩ := Array.getElem?_eq_some_iff.mp hc
    have q := List.all_eq_true.mp ((Array.all_eq_true_iff_forall_mem.mp hF) _ (Array.getElem_mem ha)) i (List.mem_range.mpr hi)
    simpa [Array.getElem?_eq_getElem hi] using q
  obtain ⟨i0, ei0⟩ := is_v g3
  obtain rfl : w0 = (.int i0) := Option.some.inj ei0
  obtain ⟨i1, ei1⟩ := is_v g5
  obtain rfl : w1 = (.int i1) := Option.some.inj ei1
  obtain ⟨i2, ei2⟩ := is_v g7
  obtain rfl : w2 = (.int i2) := Option.some.inj ei2
  obtain ⟨i3, ei3⟩ := is_v g8
  obtain rfl : w3 = (.int i3) := Option.some.inj ei3
  obtain ⟨n, o, h1, h2, h3, _, L, rfl, ⟨rfl, N⟩, hq⟩ := rm0 l s _ hw tables_1 i0 i1 i2 i3  s.heap s.heap.size (Nat.le_refl _)  p e ha hc hk s m _ below hf ((Spec.applies_iff_loose hf).mp happ).1 ⟨rfl, State.Warmed39.refl s, rfl⟩ trivial
  refine ⟨n, _, h1, h2, h3, hpost _ _ _ _ _ _ ⟨Cond.after_iff.mpr rfl, Cond.after_iff.mpr (eq_i res_at (Term.int_eval (1)) rfl), trivial⟩ ⟨hq.1, hq.2.1, (hq.2.2.sift fun y hy => Or.inr (N y hy)).mono (by decide) (by decide)⟩⟩
theorem main_1_1 : Claimed_1_1 := comes_1 fun _ _ _ _ _ _ h hF => ⟨h.1, hF⟩
theorem main_1_2 : Claimed_1_2 := comes_1 fun _ _ _ _ _ _ h hF => ⟨h.2.1, hF⟩
end Jvm.Pilot.@@N@@
namespace Jvm.Pilot.@@N@@
open Jvm Jvm.ClassFile Sem Op Lib Jvm.Free Jvm.Stand Jvm.Pilot.@@N@@.Jvm.D
/-! MADE BY PROGRAM (witnessworld.py) out of the Statement's table words and the real class files: 10 classes; the members and pool entries that the words name. The judged class is class 1, her method 1. -/
namespace start1
open Jvm.ClassFile
def u (s : String) : CpInfo := .utf8 (stringToUtf16 s)
/-- a pool by its gaps: so many unusable entries, then the entry; so many at the end -/
def gap : Nat → List CpInfo → List CpInfo
  | 0, r => r
  | n + 1, r => .unusable :: gap n r
def poolList (es : List (Nat × CpInfo)) (last : Nat) : List CpInfo := es.foldr (fun e r => gap e.1 (e.2 :: r)) (gap last [])
def pool (es : List (Nat × CpInfo)) (last : Nat) : Array CpInfo := ⟨poolList es last⟩
def fileOf (pool : Array CpInfo) (this : Nat) (attrs : Array Attribute := #[]) (ms : Array MethodInfo := #[]) (fl : Nat := 33) (sup : Nat := 0) (ifs : Array Nat := #[]) (fds : Array FieldInfo := #[]) : ClassFile where
  minorVersion := 0
  majorVersion := 65
  constantPool := pool
  accessFlags := fl
  thisClass := this
  superClass := sup
  interfaces := ifs
  fields := fds
  methods := ms
  attributes := attrs
def plain (name : String) (sup : Option ClassId) : Class where
  name := name
  kind := .ordinary
  loader := none
  accessFlags := 33
  super := sup
  interfaces := #[]
  cf := none
  fields := #[]
  methods := #[]
  instanceTypes := #[]
  staticTypes := #[]
  resolved := #[]
  callSites := []
  init := .initialized
  statics := none
  mirror := none

def pool0 : Array CpInfo := pool [(5, u "<init>"), (0, u "()V"), (1, .class_ 10), (1, u "java/lang/Object")] 113

def k0m0 : Method := { name := "<init>", desc := "()V", sig := { parameters := [], returnType := none }, accessFlags := 1, code := none }
/-- java/lang/Object -/
def k0 : Class := { plain "java/lang/Object" none with
  accessFlags := 33
  interfaces := #[]
  cf := some (fileOf pool0 8 #[] #[{ accessFlags := 1, nameIndex := 5, descriptorIndex := 6, attributes := #[] }] 33 0 #[] #[])
  fields := #[]
  methods := #[k0m0]
  instanceTypes := #[]
  staticTypes := #[]
  resolved := Array.replicate 124 none
  statics := none }

def pool1 : Array CpInfo := pool [(2, .class_ 4), (1, u "java/lang/Object"), (0, u "<init>"), (0, u "()V"), (0, .integer 2147483647), (0, .methodref 9 10), (0, .class_ 11), (0, .nameAndType 12 13), (0, u "java/lang/Math"), (0, u "min"), (0, u "(II)I"), (0, .methodref 9 15), (0, .nameAndType 16 13), (0, u "max"), (0, .methodref 18 19), (0, .class_ 20), (0, .nameAndType 21 22), (0, u "com/example/gatefield/gatefield/model/Records"), (0, u "notUtf8"), (0, u "([BII)I"), (0, .methodref 24 25), (0, .class_ 26), (0, .nameAndType 27 22), (0, u "com/example/gatefield/gatefield/model/RecordsNotUtf8PinLaw"), (0, u "ref"), (0, .integer 65536), (0, .integer 55296), (0, .integer 57343), (0, .integer 1114111), (0, .methodref 24 33), (0, .nameAndType 34 22), (0, u "seq"), (2, u "law"), (0, u "(IIII)Z")] 5

def k1m0 : Method := { name := "<init>", desc := "()V", sig := { parameters := [], returnType := none }, accessFlags := 2, code := none }
def k1c1 : Code := { maxStack := 4, maxLocals := 9, code := code, exceptionTable := #[], attributes := #[] }
def k1m1 : Method := { name := "law", desc := "(IIII)Z", sig := { parameters := [.int, .int, .int, .int], returnType := some .boolean }, accessFlags := 9, code := some k1c1 }
def k1c2 : Code := { maxStack := 3, maxLocals := 9, code := method_3_code, exceptionTable := #[], attributes := #[] }
def k1m2 : Method := { name := "seq", desc := "([BII)I", sig := { parameters := [(.array .byte), .int, .int], returnType := some .int }, accessFlags := 10, code := some k1c2 }
def k1c3 : Code := { maxStack := 3, maxLocals := 5, code := method_4_code, exceptionTable := #[], attributes := #[] }
def k1m3 : Method := { name := "ref", desc := "([BII)I", sig := { parameters := [(.array .byte), .int, .int], returnType := some .int }, accessFlags := 10, code := some k1c3 }
/-- com/example/gatefield/gatefield/model/RecordsNotUtf8PinLaw -/
def k1 : Class := { plain "com/example/gatefield/gatefield/model/RecordsNotUtf8PinLaw" (some 0) with
  accessFlags := 49
  interfaces := #[]
  cf := some (fileOf pool1 24 #[] #[{ accessFlags := 2, nameIndex := 5, descriptorIndex := 6, attributes := #[] }, { accessFlags := 9, nameIndex := 37, descriptorIndex := 38, attributes := #[] }, { accessFlags := 10, nameIndex := 34, descriptorIndex := 22, attributes := #[] }, { accessFlags := 10, nameIndex := 27, descriptorIndex := 22, attributes := #[] }] 49 2 #[] #[])
  fields := #[]
  methods := #[k1m0, k1m1, k1m2, k1m3]
  instanceTypes := #[]
  staticTypes := #[]
  resolved := Array.replicate 44 none
  statics := none }

def pool2 : Array CpInfo := pool [(1, .class_ 2), (0, u "java/lang/Math"), (1, .class_ 6), (1, u "java/lang/Object"), (0, u "<init>"), (0, u "()V"), (89, .class_ 100), (1, u "java/lang/Math$RandomNumberGeneratorHolder"), (71, u "negativeZeroFloatBits"), (0, u "J"), (2, u "negativeZeroDoubleBits"), (21, u "max"), (2, u "min"), (43, u "$assertionsDisabled"), (0, u "Z"), (88, u "(II)I"), (2, u "twoToTheDoubleScaleDown"), (0, u "D"), (4, u "twoToTheDoubleScaleUp"), (9, u "E"), (3, u "PI"), (2, u "TAU"), (2, u "DEGREES_TO_RADIANS"), (0, u "RADIANS_TO_DEGREES")] 94

def k2m0 : Method := { name := "<init>", desc := "()V", sig := { parameters := [], returnType := none }, accessFlags := 2, code := none }
def k2c1 : Code := { maxStack := 2, maxLocals := 2, code := jdk_29_method_65_code, exceptionTable := #[], attributes := #[] }
def k2m1 : Method := { name := "max", desc := "(II)I", sig := { parameters := [.int, .int], returnType := some .int }, accessFlags := 9, code := some k2c1 }
def k2c2 : Code := { maxStack := 2, maxLocals := 2, code := jdk_29_method_69_code, exceptionTable := #[], attributes := #[] }
def k2m2 : Method := { name := "min", desc := "(II)I", sig := { parameters := [.int, .int], returnType := some .int }, accessFlags := 9, code := some k2c2 }
/-- java/lang/Math -/
def k2 : Class := { plain "java/lang/Math" (some 0) with
  accessFlags := 49
  interfaces := #[]
  cf := some (fileOf pool2 1 #[.nestMembers #[98]] #[{ accessFlags := 2, nameIndex := 7, descriptorIndex := 8, attributes := #[] }, { accessFlags := 9, nameIndex := 198, descriptorIndex := 335, attributes := #[] }, { accessFlags := 9, nameIndex := 201, descriptorIndex := 335, attributes := #[] }] 49 4 #[] #[{ accessFlags := 25, nameIndex := 354, descriptorIndex := 339, attributes := #[] }, { accessFlags := 25, nameIndex := 358, descriptorIndex := 339, attributes := #[] }, { accessFlags := 25, nameIndex := 361, descriptorIndex := 339, attributes := #[] }, { accessFlags := 26, nameIndex := 364, descriptorIndex := 339, attributes := #[] }, { accessFlags := 26, nameIndex := 365, descriptorIndex := 339, attributes := #[] }, { accessFlags := 26, nameIndex := 172, descriptorIndex := 173, attributes := #[] }, { accessFlags := 26, nameIndex := 176, descriptorIndex := 173, attributes := #[] }, { accessFlags := 8, nameIndex := 344, descriptorIndex := 339, attributes := #[] }, { accessFlags := 8, nameIndex := 338, descriptorIndex := 339, attributes := #[] }, { accessFlags := 4120, nameIndex := 245, descriptorIndex := 246, attributes := #[] }])
  fields := #[{ name := "E", type := .double, accessFlags := 25, slot := 0, constantValue := 0 }, { name := "PI", type := .double, accessFlags := 25, slot := 1, constantValue := 0 }, { name := "TAU", type := .double, accessFlags := 25, slot := 2, constantValue := 0 }, { name := "DEGREES_TO_RADIANS", type := .double, accessFlags := 26, slot := 3, constantValue := 0 }, { name := "RADIANS_TO_DEGREES", type := .double, accessFlags := 26, slot := 4, constantValue := 0 }, { name := "negativeZeroFloatBits", type := .long, accessFlags := 26, slot := 5, constantValue := 0 }, { name := "negativeZeroDoubleBits", type := .long, accessFlags := 26, slot := 6, constantValue := 0 }, { name := "twoToTheDoubleScaleUp", type := .double, accessFlags := 8, slot := 7, constantValue := 0 }, { name := "twoToTheDoubleScaleDown", type := .double, accessFlags := 8, slot := 8, constantValue := 0 }, { name := "$assertionsDisabled", type := .boolean, accessFlags := 4120, slot := 9, constantValue := 0 }]
  methods := #[k2m0, k2m1, k2m2]
  instanceTypes := #[]
  staticTypes := #[.double, .double, .double, .double, .double, .long, .long, .double, .double, .boolean]
  resolved := Array.replicate 460 none
  statics := none }

def pool3 : Array CpInfo := pool [(1, .class_ 2), (0, u "com/example/gatefield/gatefield/model/Records"), (3, .class_ 8), (1, u "java/lang/Object"), (4, u "chunks"), (0, u "[[B"), (2, u "chunkEnds"), (0, u "[I"), (2, u "firstRecords"), (0, u "[J"), (2, u "starts"), (0, u "[[I"), (2, u "size"), (0, u "J"), (0, .class_ 32), (0, u "com/example/gatefield/gatefield/model/Records$Encoder"), (52, u "([BII)I"), (19, u "LONGS"), (0, u "Ljava/lang/invoke/VarHandle;"), (143, u "MAX_CHUNK"), (0, u "I"), (1, u "BLOCK_BITS"), (1, u "BLOCK"), (1, u "MAX_ARRAY"), (1, u "TEXT_PIECE"), (0, u "LOW_BITS"), (0, u "EIGHT_TIMES"), (0, u "TOP_BITS"), (2, u "COMMAS"), (0, u "QUOTES"), (0, u "CRS"), (0, u "LFS"), (24, u "notUtf8"), (6, .class_ 301), (0, u "com/example/gatefield/gatefield/model/Records$Builder")] 17

def k3c0 : Code := { maxStack := 3, maxLocals := 10, code := prog_55_method_26_code, exceptionTable := #[], attributes := #[] }
def k3m0 : Method := { name := "notUtf8", desc := "([BII)I", sig := { parameters := [(.array .byte), .int, .int], returnType := some .int }, accessFlags := 8, code := some k3c0 }
/-- com/example/gatefield/gatefield/model/Records -/
def k3 : Class := { plain "com/example/gatefield/gatefield/model/Records" (some 0) with
  accessFlags := 48
  interfaces := #[]
  cf := some (fileOf pool3 1 #[.nestMembers #[31, 300]] #[{ accessFlags := 8, nameIndex := 293, descriptorIndex := 85, attributes := #[] }] 48 6 #[] #[{ accessFlags := 24, nameIndex := 250, descriptorIndex := 251, attributes := #[] }, { accessFlags := 26, nameIndex := 253, descriptorIndex := 251, attributes := #[] }, { accessFlags := 26, nameIndex := 255, descriptorIndex := 251, attributes := #[] }, { accessFlags := 24, nameIndex := 257, descriptorIndex := 251, attributes := #[] }, { accessFlags := 26, nameIndex := 259, descriptorIndex := 251, attributes := #[] }, { accessFlags := 26, nameIndex := 105, descriptorIndex := 106, attributes := #[] }, { accessFlags := 26, nameIndex := 260, descriptorIndex := 30, attributes := #[] }, { accessFlags := 26, nameIndex := 261, descriptorIndex := 30, attributes := #[] }, { accessFlags := 24, nameIndex := 262, descriptorIndex := 30, attributes := #[] }, { accessFlags := 24, nameIndex := 265, descriptorIndex := 30, attributes := #[] }, { accessFlags := 24, nameIndex := 266, descriptorIndex := 30, attributes := #[] }, { accessFlags := 24, nameIndex := 267, descriptorIndex := 30, attributes := #[] }, { accessFlags := 24, nameIndex := 268, descriptorIndex := 30, attributes := #[] }, { accessFlags := 18, nameIndex := 29, descriptorIndex := 30, attributes := #[] }, { accessFlags := 18, nameIndex := 13, descriptorIndex := 14, attributes := #[] }, { accessFlags := 18, nameIndex := 17, descriptorIndex := 18, attributes := #[] }, { accessFlags := 18, nameIndex := 21, descriptorIndex := 22, attributes := #[] }, { accessFlags := 18, nameIndex := 25, descriptorIndex := 26, attributes := #[] }])
  fields := #[{ name := "MAX_CHUNK", type := .int, accessFlags := 24, slot := 0, constantValue := 0 }, { name := "BLOCK_BITS", type := .int, accessFlags := 26, slot := 1, constantValue := 0 }, { name := "BLOCK", type := .int, accessFlags := 26, slot := 2, constantValue := 0 }, { name := "MAX_ARRAY", type := .int, accessFlags := 24, slot := 3, constantValue := 0 }, { name := "TEXT_PIECE", type := .int, accessFlags := 26, slot := 4, constantValue := 0 }, { name := "LONGS", type := (.object "java/lang/invoke/VarHandle"), accessFlags := 26, slot := 5, constantValue := 0 }, { name := "LOW_BITS", type := .long, accessFlags := 26, slot := 6, constantValue := 0 }, { name := "EIGHT_TIMES", type := .long, accessFlags := 26, slot := 7, constantValue := 0 }, { name := "TOP_BITS", type := .long, accessFlags := 24, slot := 8, constantValue := 0 }, { name := "COMMAS", type := .long, accessFlags := 24, slot := 9, constantValue := 0 }, { name := "QUOTES", type := .long, accessFlags := 24, slot := 10, constantValue := 0 }, { name := "CRS", type := .long, accessFlags := 24, slot := 11, constantValue := 0 }, { name := "LFS", type := .long, accessFlags := 24, slot := 12, constantValue := 0 }, { name := "size", type := .long, accessFlags := 18, slot := 0, constantValue := 0 }, { name := "chunks", type := (.array (.array .byte)), accessFlags := 18, slot := 1, constantValue := 0 }, { name := "chunkEnds", type := (.array .int), accessFlags := 18, slot := 2, constantValue := 0 }, { name := "firstRecords", type := (.array .long), accessFlags := 18, slot := 3, constantValue := 0 }, { name := "starts", type := (.array (.array .int)), accessFlags := 18, slot := 4, constantValue := 0 }]
  methods := #[k3m0]
  instanceTypes := #[.long, (.array (.array .byte)), (.array .int), (.array .long), (.array (.array .int))]
  staticTypes := #[.int, .int, .int, .int, .int, (.object "java/lang/invoke/VarHandle"), .long, .long, .long, .long, .long, .long, .long]
  resolved := Array.replicate 319 none
  statics := none }

def pool4 : Array CpInfo := pool [(1, u "java/lang/Cloneable"), (0, .class_ 1), (0, u "java/lang/Object"), (0, .class_ 3)] 3

/-- java/lang/Cloneable -/
def k4 : Class := { plain "java/lang/Cloneable" (some 0) with
  accessFlags := 1537
  interfaces := #[]
  cf := some (fileOf pool4 2 #[] #[] 1537 4 #[] #[])
  fields := #[]
  methods := #[]
  instanceTypes := #[]
  staticTypes := #[]
  resolved := Array.replicate 8 none
  statics := none }

def pool5 : Array CpInfo := pool [(1, u "java/io/Serializable"), (0, .class_ 1), (0, u "java/lang/Object"), (0, .class_ 3)] 3

/-- java/io/Serializable -/
def k5 : Class := { plain "java/io/Serializable" (some 0) with
  accessFlags := 1537
  interfaces := #[]
  cf := some (fileOf pool5 2 #[] #[] 1537 4 #[] #[])
  fields := #[]
  methods := #[]
  instanceTypes := #[]
  staticTypes := #[]
  resolved := Array.replicate 8 none
  statics := none }

/-- the primitive byte -/
def k6 : Class := { plain "byte" none with kind := .primitive 'B', accessFlags := 0x411 }
/-- [B -/
def k7 : Class := { plain "[B" (some 0) with kind := .array 6 .byte, interfaces := #[4, 5], accessFlags := 1041 }

/-- the primitive int -/
def k8 : Class := { plain "int" none with kind := .primitive 'I', accessFlags := 0x411 }
/-- [I -/
def k9 : Class := { plain "[I" (some 0) with kind := .array 8 .int, interfaces := #[4, 5], accessFlags := 1041 }

def heap : Heap := #[]
def classes : Array Class := #[k0, k1, k2, k3, k4, k5, k6, k7, k8, k9]
def interned : List (Array UInt16 × Addr) := []
def slotsUsed : Nat := 0
def theMethod : MethodId := ⟨1, 1⟩
def args0 : Array Value := #[.int 5, .int 9, .int 1, .int 7]
def aboutOver (below : List Frame) : State where
  vm := { classes := classes, interned := interned.toArray }
  heap := heap
  slotsUsed := slotsUsed
  threads := #[{ frames := .invoking theMethod args0 :: below }]
def below0 : List Frame := [.native { method := ⟨0, 0⟩, args := #[] }]
def about1 : State := aboutOver below0
def p0 : Program := .bare "" "" ""
def e0 : Env := launch0.env 0 0 0
theorem w_frames : about1.frames = Frame.invoking theMethod args0 :: below0 := rfl
set_option maxRecDepth 65536 in
theorem w_args : argsFit about1.vm theMethod args0 = true := by decide +kernel
set_option maxRecDepth 65536 in
theorem w_heap : heapFits about1 = true := by decide +kernel
set_option maxRecDepth 65536 in
theorem w_runnable : about1.curStatus? = some .runnable := by decide +kernel
set_option maxRecDepth 65536 in
theorem w_alone : about1.alone = true := by decide +kernel
set_option maxRecDepth 65536 in
theorem w_named : about1.methodNamed? x = some theMethod := by decide +kernel
set_option maxRecDepth 65536 in
theorem w_hears : about1.hears theMethod below0 = true := by decide +kernel
set_option maxRecDepth 65536 in
theorem w_ripe : about1.ripe theMethod args0 below0 = true := by decide +kernel
theorem w_running : about1.status = .running := rfl
set_option maxRecDepth 65536 in
theorem w_room : about1.hasRoom e0.platform room_1 = true :=
  launch0.hasRoom_least _ room_1 (by decide +kernel) (by decide +kernel) (by decide +kernel) (by decide +kernel) (by decide +kernel) (by decide +kernel)
theorem allAtoms_all (ts : List Jvm.Cond) (a : Array Jvm.Value) (st : Jvm.State) : (allAtoms ts).before a st = ts.all (fun c => c.before a st) := by
  induction ts with
  | nil => rfl
  | cons c t ih =>
    show (Jvm.Cond.and c (allAtoms t)).before a st = _
    rw [Jvm.Cond.before_and, ih, List.all_cons]
def words1 : List Jvm.Cond := Jvm.Cond.code x code maxLocals ret :: tables_1
/-- a 'code' word, met by the world's own term for the bytes: nothing is compared byte by byte -/
theorem code_word {y : MethodName} {bytes : ByteArray} {mx : Nat} {rt : Option FieldType} {a : Array Value} {s : State} {m : MethodId} {meth : Method} {c : Code} (h1 : s.methodNamed? y = some m) (h2 : s.vm.method? m = some meth) (h3 : meth.code = some c) (h4 : c.code = bytes)
    (h5 : (c.maxLocals == mx && c.exceptionTable.isEmpty && decide (c.maxStack ≤ mostOperands) && decide (meth.sig.returnType = rt) && !meth.locks && decide (parseMethodDescriptor y.desc = some meth.sig)) = true) : (Jvm.Cond.code y bytes mx rt).before a s = true := by
  simp only [Bool.and_eq_true, beq_iff_eq, Bool.not_eq_true', decide_eq_true_eq] at h5
  obtain ⟨⟨⟨⟨⟨g1, g2⟩, g3⟩, g4⟩, g5⟩, g6⟩ := h5
  simp [Cond.before, Cond.holds, Cond.value, h1, h2, h3, h4, g1, g2, g3, g4, g5, g6]
def isCode : Jvm.Cond → Bool
  | .code _ _ _ _ => true
  | _ => false
theorem all_split {L : List Jvm.Cond} {P : Jvm.Cond → Bool} (h1 : L.all (fun c => isCode c || P c) = true) (h2 : ∀ c ∈ L.filter isCode, P c = true) : L.all P = true := by
  refine List.all_eq_true.mpr fun c hc => ?_
  have h := List.all_eq_true.mp h1 c hc
  rcases Bool.eq_false_or_eq_true (isCode c) with hi | hi
  · exact h2 c (List.mem_filter.mpr ⟨hc, hi⟩)
  · simpa [hi] using h
set_option maxRecDepth 65536 in
theorem w_c0 : (Jvm.Cond.code x code maxLocals ret).before args0 about1 = true := code_word (m := ⟨1, 1⟩) (meth := k1m1) (c := k1c1) (by decide +kernel) rfl rfl rfl (by decide +kernel)
set_option maxRecDepth 65536 in
theorem w_c1 : (Jvm.Cond.code ({ cls := "java/lang/Math", name := "min", desc := "(II)I" } : Jvm.MethodName) jdk_29_method_69_code (2 : Nat) (Option.some Jvm.ClassFile.FieldType.int)).before args0 about1 = true := code_word (m := ⟨2, 2⟩) (meth := k2m2) (c := k2c2) (by decide +kernel) rfl rfl rfl (by decide +kernel)
set_option maxRecDepth 65536 in
theorem w_c2 : (Jvm.Cond.code ({ cls := "java/lang/Math", name := "max", desc := "(II)I" } : Jvm.MethodName) jdk_29_method_65_code (2 : Nat) (Option.some Jvm.ClassFile.FieldType.int)).before args0 about1 = true := code_word (m := ⟨2, 1⟩) (meth := k2m1) (c := k2c1) (by decide +kernel) rfl rfl rfl (by decide +kernel)
set_option maxRecDepth 65536 in
theorem w_c3 : (Jvm.Cond.code ({ cls := "com/example/gatefield/gatefield/model/Records", name := "notUtf8", desc := "([BII)I" } : Jvm.MethodName) prog_55_method_26_code (10 : Nat) (Option.some Jvm.ClassFile.FieldType.int)).before args0 about1 = true := code_word (m := ⟨3, 0⟩) (meth := k3m0) (c := k3c0) (by decide +kernel) rfl rfl rfl (by decide +kernel)
set_option maxRecDepth 65536 in
theorem w_c4 : (Jvm.Cond.code ({ cls := "com/example/gatefield/gatefield/model/RecordsNotUtf8PinLaw", name := "ref", desc := "([BII)I" } : Jvm.MethodName) method_4_code (5 : Nat) (Option.some Jvm.ClassFile.FieldType.int)).before args0 about1 = true := code_word (m := ⟨1, 3⟩) (meth := k1m3) (c := k1c3) (by decide +kernel) rfl rfl rfl (by decide +kernel)
set_option maxRecDepth 65536 in
theorem w_c5 : (Jvm.Cond.code ({ cls := "com/example/gatefield/gatefield/model/RecordsNotUtf8PinLaw", name := "seq", desc := "([BII)I" } : Jvm.MethodName) method_3_code (9 : Nat) (Option.some Jvm.ClassFile.FieldType.int)).before args0 about1 = true := code_word (m := ⟨1, 2⟩) (meth := k1m2) (c := k1c2) (by decide +kernel) rfl rfl rfl (by decide +kernel)
def codes1 : List Jvm.Cond := [Jvm.Cond.code x code maxLocals ret, Jvm.Cond.code ({ cls := "java/lang/Math", name := "min", desc := "(II)I" } : Jvm.MethodName) jdk_29_method_69_code (2 : Nat) (Option.some Jvm.ClassFile.FieldType.int), Jvm.Cond.code ({ cls := "java/lang/Math", name := "max", desc := "(II)I" } : Jvm.MethodName) jdk_29_method_65_code (2 : Nat) (Option.some Jvm.ClassFile.FieldType.int), Jvm.Cond.code ({ cls := "com/example/gatefield/gatefield/model/Records", name := "notUtf8", desc := "([BII)I" } : Jvm.MethodName) prog_55_method_26_code (10 : Nat) (Option.some Jvm.ClassFile.FieldType.int), Jvm.Cond.code ({ cls := "com/example/gatefield/gatefield/model/RecordsNotUtf8PinLaw", name := "ref", desc := "([BII)I" } : Jvm.MethodName) method_4_code (5 : Nat) (Option.some Jvm.ClassFile.FieldType.int), Jvm.Cond.code ({ cls := "com/example/gatefield/gatefield/model/RecordsNotUtf8PinLaw", name := "seq", desc := "([BII)I" } : Jvm.MethodName) method_3_code (9 : Nat) (Option.some Jvm.ClassFile.FieldType.int)]
set_option maxRecDepth 65536 in
theorem codes_eq : words1.filter isCode = codes1 := rfl
theorem w_codes : ∀ c ∈ words1.filter isCode, c.before args0 about1 = true := by
  rw [codes_eq]
  intro c hc
  simp only [codes1, List.mem_cons, List.not_mem_nil, or_false] at hc
  rcases hc with rfl | rfl | rfl | rfl | rfl | rfl
  · exact w_c0
  · exact w_c1
  · exact w_c2
  · exact w_c3
  · exact w_c4
  · exact w_c5
set_option maxRecDepth 65536 in
theorem w_t1 : (words1.take 24).all (fun c => isCode c || c.before args0 about1) = true := by decide +kernel
set_option maxRecDepth 65536 in
theorem w_t2 : (words1.drop 24).all (fun c => isCode c || c.before args0 about1) = true := by decide +kernel
theorem w_tables : (allAtoms (Jvm.Cond.code x code maxLocals ret :: tables_1)).before args0 about1 = true := by
  rw [allAtoms_all]
  show words1.all (fun c => c.before args0 about1) = true
  refine all_split ?_ w_codes
  rw [← List.take_append_drop 24 words1, List.all_append, w_t1, w_t2]
  rfl
set_option maxRecDepth 65536 in
theorem w_case : (Jvm.Cond.and given_1 narrow_1).before args0 about1 = true := by decide +kernel
theorem w_applies : (headSpec (Jvm.Cond.code x code maxLocals ret :: tables_1) room_1).applies x e0.platform about1 = true :=
  (Spec.applies_iff w_frames).mpr ⟨w_running, w_runnable, w_alone, w_named, w_hears, w_ripe, w_room, w_tables⟩
theorem atStart : AtStart classFile x code maxLocals ret World_1 tables_1 room_1 Calls_1 rest_1 Pre_1 launch0 p0 e0 about1 theMethod args0 below0 :=
  ⟨lists_1, trivial, launch0.admits_env _ _ _, launch0.least_env, fairChoices_fair.cas, fairChoices_fair.clock, w_frames, w_args, w_heap, w_applies, trivial, trivial, w_case⟩
end start1
theorem witness_1 : WitnessClaimed_1 := ⟨start1.p0, start1.e0, start1.about1, start1.theMethod, start1.args0, start1.below0, start1.atStart⟩
end Jvm.Pilot.@@N@@
