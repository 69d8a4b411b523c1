import JvmDerived
import JvmDerived.Pilot.@@N@@Statement
import JvmDerived.Pilot.@@N@@Code
set_option linter.unusedVariables false
set_option linter.unusedSimpArgs false
namespace Jvm.Pilot.@@N@@
open Jvm Jvm.ClassFile Sem Op Lib Jvm.Free Jvm.Stand Jvm.LawKit Jvm.RoadKit Bundle Jvm.Pilot.@@N@@.Jvm.D
section OwnKit
variable {p : Program} {l : Launch} {e : Env} {R : Room} {s : State} {m : MethodId} {args : Array Value} {below : List Frame} {meth : Method} {c : Code} {T : State} {locs : List Loc} {cells slots : Nat} {C N : Nat} {F : Outcome → State → List Loc → Prop} {Q : Option Value → Heap → List Loc → Prop} {pc : Nat} {Ls : Array Slot} {S : List Value} {Z : State} {a0 : Array Value} {h : Heap} {own : String}
def Go (p : Program) (e : Env) (below : List Frame) (F : Outcome → State → List Loc → Prop) (Q : Option Value → Heap → List Loc → Prop) (T : State) (g : JFrame) : Prop :=
  ∃ s₂ o, Steps p.tables e below (T.setTop g) s₂ ∧ s₂.status = .running ∧ Ended s₂ below o ∧ ∃ v L, o = .returned v ∧ Q v s₂.heap L ∧ F o s₂ L
def FE (s : State) (C N : Nat) (o : Outcome) (t : State) (L : List Loc) : Prop := FrameEnd s o t L C N
theorem Go.st {T' : State} {g g' : JFrame} (h : Go p e below F Q T' g') (st : ∀ t, Steps p.tables e below (T'.setTop g') t → Steps p.tables e below (T.setTop g) t) : Go p e below F Q T g := by
  obtain ⟨s₂, o, h1, h2⟩ := h
  exact ⟨s₂, o, st _ h1, h2⟩
theorem Go.tr {T' : State} {g g' : JFrame} (h : Go p e below F Q T' g') (st : Steps p.tables e below (T.setTop g) (T'.setTop g')) : Go p e below F Q T g := by
  obtain ⟨s₂, o, h1, h2⟩ := h
  exact ⟨s₂, o, st.trans h1, h2⟩
/-- a body's contract out of its walk -/
theorem metOf {y : MethodName} {bytes : ByteArray} {maxL : Nat} {ret : Option FieldType} {rm : Room} {ws : List Jvm.Cond} {as' : Array Value} {h0 : Heap} (hpl : plainFor y = true)
    (body : ∀ p e s m below meth c s₁, Stand p l e rm s m as' below meth c s₁ [] 0 0 → p.tables.exec = Jvm.exec → c.code = bytes → c.maxLocals = maxL → meth.sig.returnType = ret → meth.locks = false → Z.Warmed39 s.vm → s.vm.findClass y.cls = some m.cls → meth.name = y.name → s₁.heap = h0 → Go p e below (FE s rm.cells rm.slots) Q s₁ (entryFrame m as' maxL)) :
    MetFree l y (head1 (Jvm.Cond.code y bytes maxL ret :: ws) rm) (fun a U => a = as' ∧ Z.Warmed39 U.vm ∧ U.heap = h0) (fun _ _ _ _ _ => True) (fun _ U o U' => ∃ v L, o = .returned v ∧ Q v U'.heap L ∧ FrameEnd U o U' L rm.cells rm.slots) := by
  refine MetFree.of_bodySF hpl hisR ?_
  intro p e s m args below meth c s₁ Bd hml0 hP hK
  obtain ⟨rfl, hZ, hh⟩ := hP
  exact body p e s m below meth c s₁ (Stand.of_body Bd) Bd.exec Bd.bytes hml0 Bd.returns Bd.notSynchronized hZ (findClass_of_methodNamed Bd.named) (name_of_methodNamed Bd.named Bd.method).1 (by rw [← hh, Bd.state]; rfl)
theorem Go.iloadN (X : Stand p l e R s m args below meth c T locs cells slots) (hx : p.tables.exec = Jvm.exec) {k : Fin 4} {v : Int32} (hd : decode c.code pc = .ok (.iload_n k, 1)) (hl : Ls[k.val]? = some (.val (.int v))) (h : Go p e below F Q T (mkF m (pc + 1) Ls (.int v :: S))) : Go p e below F Q T (mkF m pc Ls S) := h.st fun _ k => XS.iloadN X.here hx rfl hd hl k
theorem Go.iload (X : Stand p l e R s m args below meth c T locs cells slots) (hx : p.tables.exec = Jvm.exec) {k : Nat} {v : Int32} (hd : decode c.code pc = .ok (.iload k, 2)) (hl : Ls[k]? = some (.val (.int v))) (h : Go p e below F Q T (mkF m (pc + 2) Ls (.int v :: S))) : Go p e below F Q T (mkF m pc Ls S) := h.st fun _ k => XS.iload X.here hx rfl hd hl k
theorem Go.istoreN (X : Stand p l e R s m args below meth c T locs cells slots) (hx : p.tables.exec = Jvm.exec) {k : Fin 4} {x : Int32} {l' : Array Slot} (hd : decode c.code pc = .ok (.istore_n k, 1)) (hl : storeLocals Ls k.val (.int x) = some l') (h : Go p e below F Q T (mkF m (pc + 1) l' S)) : Go p e below F Q T (mkF m pc Ls (.int x :: S)) := h.st fun _ k => XS.istoreN X.here hx rfl hd rfl hl k
theorem Go.istore (X : Stand p l e R s m args below meth c T locs cells slots) (hx : p.tables.exec = Jvm.exec) {k : Nat} {x : Int32} {l' : Array Slot} (hd : decode c.code pc = .ok (.istore k, 2)) (hl : storeLocals Ls k (.int x) = some l') (h : Go p e below F Q T (mkF m (pc + 2) l' S)) : Go p e below F Q T (mkF m pc Ls (.int x :: S)) := h.st fun _ k => XS.istore X.here hx rfl hd rfl hl k
theorem Go.lloadN (X : Stand p l e R s m args below meth c T locs cells slots) (hx : p.tables.exec = Jvm.exec) {k : Fin 4} {v : Int64} (hd : decode c.code pc = .ok (.lload_n k, 1)) (hl : Ls[k.val]? = some (.val (.long v))) (h : Go p e below F Q T (mkF m (pc + 1) Ls (.long v :: S))) : Go p e below F Q T (mkF m pc Ls S) := h.st fun _ k => XS.lloadN X.here hx rfl hd hl k
theorem Go.lload (X : Stand p l e R s m args below meth c T locs cells slots) (hx : p.tables.exec = Jvm.exec) {k : Nat} {v : Int64} (hd : decode c.code pc = .ok (.lload k, 2)) (hl : Ls[k]? = some (.val (.long v))) (h : Go p e below F Q T (mkF m (pc + 2) Ls (.long v :: S))) : Go p e below F Q T (mkF m pc Ls S) := h.st fun _ k => XS.lload X.here hx rfl hd hl k
theorem Go.lstoreN (X : Stand p l e R s m args below meth c T locs cells slots) (hx : p.tables.exec = Jvm.exec) {k : Fin 4} {x : Int64} {l' : Array Slot} (hd : decode c.code pc = .ok (.lstore_n k, 1)) (hl : storeLocals Ls k.val (.long x) = some l') (h : Go p e below F Q T (mkF m (pc + 1) l' S)) : Go p e below F Q T (mkF m pc Ls (.long x :: S)) := h.st fun _ k => XS.lstoreN X.here hx rfl hd rfl hl k
theorem Go.lstore (X : Stand p l e R s m args below meth c T locs cells slots) (hx : p.tables.exec = Jvm.exec) {k : Nat} {x : Int64} {l' : Array Slot} (hd : decode c.code pc = .ok (.lstore k, 2)) (hl : storeLocals Ls k (.long x) = some l') (h : Go p e below F Q T (mkF m (pc + 2) l' S)) : Go p e below F Q T (mkF m pc Ls (.long x :: S)) := h.st fun _ k => XS.lstore X.here hx rfl hd rfl hl k
theorem Go.aloadN (X : Stand p l e R s m args below meth c T locs cells slots) (hx : p.tables.exec = Jvm.exec) {k : Fin 4} {v : Value} (hd : decode c.code pc = .ok (.aload_n k, 1)) (hl : Ls[k.val]? = some (.val v)) (hv : v.isRef = true) (h : Go p e below F Q T (mkF m (pc + 1) Ls (v :: S))) : Go p e below F Q T (mkF m pc Ls S) := h.st fun _ k => XS.aloadN X.here hx rfl hd hl hv k
theorem Go.aload (X : Stand p l e R s m args below meth c T locs cells slots) (hx : p.tables.exec = Jvm.exec) {k : Nat} {v : Value} (hd : decode c.code pc = .ok (.aload k, 2)) (hl : Ls[k]? = some (.val v)) (hv : v.isRef = true) (h : Go p e below F Q T (mkF m (pc + 2) Ls (v :: S))) : Go p e below F Q T (mkF m pc Ls S) := h.st fun _ k => XS.aload X.here hx rfl hd hl hv k
theorem Go.astoreN (X : Stand p l e R s m args below meth c T locs cells slots) (hx : p.tables.exec = Jvm.exec) {k : Fin 4} {x : Value} {l' : Array Slot} (hd : decode c.code pc = .ok (.astore_n k, 1)) (hv : x.isRef = true) (hl : storeLocals Ls k.val x = some l') (h : Go p e below F Q T (mkF m (pc + 1) l' S)) : Go p e below F Q T (mkF m pc Ls (x :: S)) := h.st fun _ k => XS.astoreN X.here hx rfl hd rfl hv hl k
theorem Go.astore (X : Stand p l e R s m args below meth c T locs cells slots) (hx : p.tables.exec = Jvm.exec) {k : Nat} {x : Value} {l' : Array Slot} (hd : decode c.code pc = .ok (.astore k, 2)) (hv : x.isRef = true) (hl : storeLocals Ls k x = some l') (h : Go p e below F Q T (mkF m (pc + 2) l' S)) : Go p e below F Q T (mkF m pc Ls (x :: S)) := h.st fun _ k => XS.astore X.here hx rfl hd rfl hv hl k
theorem Go.iconst (X : Stand p l e R s m args below meth c T locs cells slots) (hx : p.tables.exec = Jvm.exec) {i : Int} (v : Int32) (hd : decode c.code pc = .ok (.iconst i, 1)) (hv : Int32.ofInt i = v) (h : Go p e below F Q T (mkF m (pc + 1) Ls (.int v :: S))) : Go p e below F Q T (mkF m pc Ls S) := h.st fun _ k => XT.iconstV X.here hx rfl v hd hv k
theorem Go.bipush (X : Stand p l e R s m args below meth c T locs cells slots) (hx : p.tables.exec = Jvm.exec) {i : Int} (v : Int32) (hd : decode c.code pc = .ok (.bipush i, 2)) (hv : (Int8.ofInt i).toInt32 = v) (h : Go p e below F Q T (mkF m (pc + 2) Ls (.int v :: S))) : Go p e below F Q T (mkF m pc Ls S) := h.st fun _ k => XT.bipushV X.here hx rfl v hd hv k
theorem Go.sipush (X : Stand p l e R s m args below meth c T locs cells slots) (hx : p.tables.exec = Jvm.exec) {i : Int} (v : Int32) (hd : decode c.code pc = .ok (.sipush i, 3)) (hv : (Int16.ofInt i).toInt32 = v) (h : Go p e below F Q T (mkF m (pc + 3) Ls (.int v :: S))) : Go p e below F Q T (mkF m pc Ls S) := h.st fun _ k => XT.sipushV X.here hx rfl v hd hv k
theorem Go.lconst (X : Stand p l e R s m args below meth c T locs cells slots) (hx : p.tables.exec = Jvm.exec) {i : Fin 2} (v : Int64) (hd : decode c.code pc = .ok (.lconst i, 1)) (hv : Int64.ofNat i = v) (h : Go p e below F Q T (mkF m (pc + 1) Ls (.long v :: S))) : Go p e below F Q T (mkF m pc Ls S) := h.st fun _ k => XT.lconstV X.here hx rfl v hd hv k
theorem Go.aconstNull (X : Stand p l e R s m args below meth c T locs cells slots) (hx : p.tables.exec = Jvm.exec)  (hd : decode c.code pc = .ok (.aconst_null, 1))  (h : Go p e below F Q T (mkF m (pc + 1) Ls (.null :: S))) : Go p e below F Q T (mkF m pc Ls S) := h.st fun _ k => XS.aconstNull X.here hx rfl hd  k
theorem Go.iadd (X : Stand p l e R s m args below meth c T locs cells slots) (hx : p.tables.exec = Jvm.exec) {x y : Int32} (hd : decode c.code pc = .ok (.iadd, 1))  (h : Go p e below F Q T (mkF m (pc + 1) Ls (.int (x + y) :: S))) : Go p e below F Q T (mkF m pc Ls (.int y :: .int x :: S)) := h.st fun _ k => XS.iadd X.here hx rfl hd rfl k
theorem Go.isub (X : Stand p l e R s m args below meth c T locs cells slots) (hx : p.tables.exec = Jvm.exec) {x y : Int32} (hd : decode c.code pc = .ok (.isub, 1))  (h : Go p e below F Q T (mkF m (pc + 1) Ls (.int (x - y) :: S))) : Go p e below F Q T (mkF m pc Ls (.int y :: .int x :: S)) := h.st fun _ k => XS.isub X.here hx rfl hd rfl k
theorem Go.imul (X : Stand p l e R s m args below meth c T locs cells slots) (hx : p.tables.exec = Jvm.exec) {x y : Int32} (hd : decode c.code pc = .ok (.imul, 1))  (h : Go p e below F Q T (mkF m (pc + 1) Ls (.int (x * y) :: S))) : Go p e below F Q T (mkF m pc Ls (.int y :: .int x :: S)) := h.st fun _ k => XS.imul X.here hx rfl hd rfl k
theorem Go.iand (X : Stand p l e R s m args below meth c T locs cells slots) (hx : p.tables.exec = Jvm.exec) {x y : Int32} (hd : decode c.code pc = .ok (.iand, 1))  (h : Go p e below F Q T (mkF m (pc + 1) Ls (.int (x &&& y) :: S))) : Go p e below F Q T (mkF m pc Ls (.int y :: .int x :: S)) := h.st fun _ k => XS.iand X.here hx rfl hd rfl k
theorem Go.ior (X : Stand p l e R s m args below meth c T locs cells slots) (hx : p.tables.exec = Jvm.exec) {x y : Int32} (hd : decode c.code pc = .ok (.ior, 1))  (h : Go p e below F Q T (mkF m (pc + 1) Ls (.int (x ||| y) :: S))) : Go p e below F Q T (mkF m pc Ls (.int y :: .int x :: S)) := h.st fun _ k => XS.ior X.here hx rfl hd rfl k
theorem Go.ixor (X : Stand p l e R s m args below meth c T locs cells slots) (hx : p.tables.exec = Jvm.exec) {x y : Int32} (hd : decode c.code pc = .ok (.ixor, 1))  (h : Go p e below F Q T (mkF m (pc + 1) Ls (.int (x ^^^ y) :: S))) : Go p e below F Q T (mkF m pc Ls (.int y :: .int x :: S)) := h.st fun _ k => XS.ixor X.here hx rfl hd rfl k
theorem Go.idiv (X : Stand p l e R s m args below meth c T locs cells slots) (hx : p.tables.exec = Jvm.exec) {x y : Int32} (hd : decode c.code pc = .ok (.idiv, 1)) (hy : y ≠ 0) (h : Go p e below F Q T (mkF m (pc + 1) Ls (.int (x / y) :: S))) : Go p e below F Q T (mkF m pc Ls (.int y :: .int x :: S)) := h.st fun _ k => XS.idiv X.here hx rfl hd rfl hy k
theorem Go.ineg (X : Stand p l e R s m args below meth c T locs cells slots) (hx : p.tables.exec = Jvm.exec) {x : Int32} (hd : decode c.code pc = .ok (.ineg, 1))  (h : Go p e below F Q T (mkF m (pc + 1) Ls (.int (-x) :: S))) : Go p e below F Q T (mkF m pc Ls (.int x :: S)) := h.st fun _ k => XS.ineg X.here hx rfl hd rfl k
theorem Go.ladd (X : Stand p l e R s m args below meth c T locs cells slots) (hx : p.tables.exec = Jvm.exec) {x y : Int64} (hd : decode c.code pc = .ok (.ladd, 1))  (h : Go p e below F Q T (mkF m (pc + 1) Ls (.long (x + y) :: S))) : Go p e below F Q T (mkF m pc Ls (.long y :: .long x :: S)) := h.st fun _ k => XS.ladd X.here hx rfl hd rfl k
theorem Go.lsub (X : Stand p l e R s m args below meth c T locs cells slots) (hx : p.tables.exec = Jvm.exec) {x y : Int64} (hd : decode c.code pc = .ok (.lsub, 1))  (h : Go p e below F Q T (mkF m (pc + 1) Ls (.long (x - y) :: S))) : Go p e below F Q T (mkF m pc Ls (.long y :: .long x :: S)) := h.st fun _ k => XS.lsub X.here hx rfl hd rfl k
theorem Go.lmul (X : Stand p l e R s m args below meth c T locs cells slots) (hx : p.tables.exec = Jvm.exec) {x y : Int64} (hd : decode c.code pc = .ok (.lmul, 1))  (h : Go p e below F Q T (mkF m (pc + 1) Ls (.long (x * y) :: S))) : Go p e below F Q T (mkF m pc Ls (.long y :: .long x :: S)) := h.st fun _ k => XS.lmul X.here hx rfl hd rfl k
theorem Go.land (X : Stand p l e R s m args below meth c T locs cells slots) (hx : p.tables.exec = Jvm.exec) {x y : Int64} (hd : decode c.code pc = .ok (.land, 1))  (h : Go p e below F Q T (mkF m (pc + 1) Ls (.long (x &&& y) :: S))) : Go p e below F Q T (mkF m pc Ls (.long y :: .long x :: S)) := h.st fun _ k => XS.land X.here hx rfl hd rfl k
theorem Go.lor (X : Stand p l e R s m args below meth c T locs cells slots) (hx : p.tables.exec = Jvm.exec) {x y : Int64} (hd : decode c.code pc = .ok (.lor, 1))  (h : Go p e below F Q T (mkF m (pc + 1) Ls (.long (x ||| y) :: S))) : Go p e below F Q T (mkF m pc Ls (.long y :: .long x :: S)) := h.st fun _ k => XS.lor X.here hx rfl hd rfl k
theorem Go.lxor (X : Stand p l e R s m args below meth c T locs cells slots) (hx : p.tables.exec = Jvm.exec) {x y : Int64} (hd : decode c.code pc = .ok (.lxor, 1))  (h : Go p e below F Q T (mkF m (pc + 1) Ls (.long (x ^^^ y) :: S))) : Go p e below F Q T (mkF m pc Ls (.long y :: .long x :: S)) := h.st fun _ k => XS.lxor X.here hx rfl hd rfl k
theorem Go.ldiv (X : Stand p l e R s m args below meth c T locs cells slots) (hx : p.tables.exec = Jvm.exec) {x y : Int64} (hd : decode c.code pc = .ok (.ldiv, 1)) (hy : y ≠ 0) (h : Go p e below F Q T (mkF m (pc + 1) Ls (.long (x / y) :: S))) : Go p e below F Q T (mkF m pc Ls (.long y :: .long x :: S)) := h.st fun _ k => XS.ldiv X.here hx rfl hd rfl hy k
theorem Go.lneg (X : Stand p l e R s m args below meth c T locs cells slots) (hx : p.tables.exec = Jvm.exec) {x : Int64} (hd : decode c.code pc = .ok (.lneg, 1))  (h : Go p e below F Q T (mkF m (pc + 1) Ls (.long (-x) :: S))) : Go p e below F Q T (mkF m pc Ls (.long x :: S)) := h.st fun _ k => XS.lneg X.here hx rfl hd rfl k
theorem Go.irem (X : Stand p l e R s m args below meth c T locs cells slots) (hx : p.tables.exec = Jvm.exec) {x y : Int32} (hd : decode c.code pc = .ok (.irem, 1)) (hy : y ≠ 0) (h : Go p e below F Q T (mkF m (pc + 1) Ls (.int (x % y) :: S))) : Go p e below F Q T (mkF m pc Ls (.int y :: .int x :: S)) := h.st fun _ k => Jvm.RoadKit.iremM X hx rfl hd rfl hy k
theorem Go.lrem (X : Stand p l e R s m args below meth c T locs cells slots) (hx : p.tables.exec = Jvm.exec) {x y : Int64} (hd : decode c.code pc = .ok (.lrem, 1)) (hy : y ≠ 0) (h : Go p e below F Q T (mkF m (pc + 1) Ls (.long (x % y) :: S))) : Go p e below F Q T (mkF m pc Ls (.long y :: .long x :: S)) := h.st fun _ k => XS.lrem X.here hx rfl hd rfl hy (by rw [lrem_mod]; exact k)
theorem Go.ishl (X : Stand p l e R s m args below meth c T locs cells slots) (hx : p.tables.exec = Jvm.exec) {x : Int32} {y : Int32} (hd : decode c.code pc = .ok (.ishl, 1))  (h : Go p e below F Q T (mkF m (pc + 1) Ls (.int (x <<< (y &&& 31)) :: S))) : Go p e below F Q T (mkF m pc Ls (.int y :: .int x :: S)) := h.st fun _ k => XS.ishl X.here hx rfl hd rfl k
theorem Go.ishr (X : Stand p l e R s m args below meth c T locs cells slots) (hx : p.tables.exec = Jvm.exec) {x : Int32} {y : Int32} (hd : decode c.code pc = .ok (.ishr, 1))  (h : Go p e below F Q T (mkF m (pc + 1) Ls (.int (x >>> (y &&& 31)) :: S))) : Go p e below F Q T (mkF m pc Ls (.int y :: .int x :: S)) := h.st fun _ k => XS.ishr X.here hx rfl hd rfl k
theorem Go.iushr (X : Stand p l e R s m args below meth c T locs cells slots) (hx : p.tables.exec = Jvm.exec) {x : Int32} {y : Int32} (hd : decode c.code pc = .ok (.iushr, 1))  (h : Go p e below F Q T (mkF m (pc + 1) Ls (.int ((x.toUInt32 >>> (y &&& 31).toUInt32).toInt32) :: S))) : Go p e below F Q T (mkF m pc Ls (.int y :: .int x :: S)) := h.st fun _ k => XS.iushr X.here hx rfl hd rfl k
theorem Go.lshl (X : Stand p l e R s m args below meth c T locs cells slots) (hx : p.tables.exec = Jvm.exec) {x : Int64} {y : Int32} (hd : decode c.code pc = .ok (.lshl, 1))  (h : Go p e below F Q T (mkF m (pc + 1) Ls (.long (x <<< (y &&& 0x3f).toInt64) :: S))) : Go p e below F Q T (mkF m pc Ls (.int y :: .long x :: S)) := h.st fun _ k => XS.lshl X.here hx rfl hd rfl k
theorem Go.lshr (X : Stand p l e R s m args below meth c T locs cells slots) (hx : p.tables.exec = Jvm.exec) {x : Int64} {y : Int32} (hd : decode c.code pc = .ok (.lshr, 1))  (h : Go p e below F Q T (mkF m (pc + 1) Ls (.long (x >>> (y &&& 0x3f).toInt64) :: S))) : Go p e below F Q T (mkF m pc Ls (.int y :: .long x :: S)) := h.st fun _ k => XS.lshr X.here hx rfl hd rfl k
theorem Go.lushr (X : Stand p l e R s m args below meth c T locs cells slots) (hx : p.tables.exec = Jvm.exec) {x : Int64} {y : Int32} (hd : decode c.code pc = .ok (.lushr, 1))  (h : Go p e below F Q T (mkF m (pc + 1) Ls (.long ((x.toUInt64 >>> (y &&& 0x3f).toInt64.toUInt64).toInt64) :: S))) : Go p e below F Q T (mkF m pc Ls (.int y :: .long x :: S)) := h.st fun _ k => XS.lushr X.here hx rfl hd rfl k
theorem Go.i2l (X : Stand p l e R s m args below meth c T locs cells slots) (hx : p.tables.exec = Jvm.exec) {x : Int32} (hd : decode c.code pc = .ok (.i2l, 1))  (h : Go p e below F Q T (mkF m (pc + 1) Ls (.long (x.toInt64) :: S))) : Go p e below F Q T (mkF m pc Ls (.int x :: S)) := h.st fun _ k => XS.i2l X.here hx rfl hd rfl k
theorem Go.l2i (X : Stand p l e R s m args below meth c T locs cells slots) (hx : p.tables.exec = Jvm.exec) {x : Int64} (hd : decode c.code pc = .ok (.l2i, 1))  (h : Go p e below F Q T (mkF m (pc + 1) Ls (.int (x.toInt32) :: S))) : Go p e below F Q T (mkF m pc Ls (.long x :: S)) := h.st fun _ k => XS.l2i X.here hx rfl hd rfl k
theorem Go.i2b (X : Stand p l e R s m args below meth c T locs cells slots) (hx : p.tables.exec = Jvm.exec) {x : Int32} (hd : decode c.code pc = .ok (.i2b, 1))  (h : Go p e below F Q T (mkF m (pc + 1) Ls (.int (x.toInt8.toInt32) :: S))) : Go p e below F Q T (mkF m pc Ls (.int x :: S)) := h.st fun _ k => XS.i2b X.here hx rfl hd rfl k
theorem Go.i2s (X : Stand p l e R s m args below meth c T locs cells slots) (hx : p.tables.exec = Jvm.exec) {x : Int32} (hd : decode c.code pc = .ok (.i2s, 1))  (h : Go p e below F Q T (mkF m (pc + 1) Ls (.int (x.toInt16.toInt32) :: S))) : Go p e below F Q T (mkF m pc Ls (.int x :: S)) := h.st fun _ k => XS.i2s X.here hx rfl hd rfl k
theorem Go.i2c (X : Stand p l e R s m args below meth c T locs cells slots) (hx : p.tables.exec = Jvm.exec) {x : Int32} (hd : decode c.code pc = .ok (.i2c, 1))  (h : Go p e below F Q T (mkF m (pc + 1) Ls (.int (x.toUInt32.toUInt16.toUInt32.toInt32) :: S))) : Go p e below F Q T (mkF m pc Ls (.int x :: S)) := h.st fun _ k => XS.i2c X.here hx rfl hd rfl k
theorem Go.lcmp (X : Stand p l e R s m args below meth c T locs cells slots) (hx : p.tables.exec = Jvm.exec) {x y : Int64} (hd : decode c.code pc = .ok (.lcmp, 1))  (h : Go p e below F Q T (mkF m (pc + 1) Ls (.int (XT.cmpL x y) :: S))) : Go p e below F Q T (mkF m pc Ls (.long y :: .long x :: S)) := h.st fun _ k => XT.lcmp X.here hx rfl hd rfl k
theorem Go.dup (X : Stand p l e R s m args below meth c T locs cells slots) (hx : p.tables.exec = Jvm.exec) {x : Value} (hd : decode c.code pc = .ok (.dup, 1)) (hc : x.category = 1) (h : Go p e below F Q T (mkF m (pc + 1) Ls (x :: x :: S))) : Go p e below F Q T (mkF m pc Ls (x :: S)) := h.st fun _ k => XS.dup X.here hx rfl hd rfl hc k
theorem Go.pop (X : Stand p l e R s m args below meth c T locs cells slots) (hx : p.tables.exec = Jvm.exec) {x : Value} (hd : decode c.code pc = .ok (.pop, 1)) (hc : x.category = 1) (h : Go p e below F Q T (mkF m (pc + 1) Ls S)) : Go p e below F Q T (mkF m pc Ls (x :: S)) := h.st fun _ k => XS.pop X.here hx rfl hd rfl hc k
theorem Go.dupX1 (X : Stand p l e R s m args below meth c T locs cells slots) (hx : p.tables.exec = Jvm.exec) {x y : Value} (hd : decode c.code pc = .ok (.dup_x1, 1)) (hc : x.category = 1) (hc' : y.category = 1) (h : Go p e below F Q T (mkF m (pc + 1) Ls (x :: y :: x :: S))) : Go p e below F Q T (mkF m pc Ls (x :: y :: S)) := h.st fun _ k => XS.dupX1 X.here hx rfl hd rfl hc hc' k
theorem Go.iinc (X : Stand p l e R s m args below meth c T locs cells slots) (hx : p.tables.exec = Jvm.exec) {k : Nat} {cst : Int} {x : Int32} {l' : Array Slot} (v : Int32) (hd : decode c.code pc = .ok (.iinc k cst, 3)) (hv : Int32.ofInt cst = v) (hl : Ls[k]? = some (.val (.int x))) (hl' : storeLocals Ls k (.int (x + v)) = some l') (h : Go p e below F Q T (mkF m (pc + 3) l' S)) : Go p e below F Q T (mkF m pc Ls S) := h.st fun _ k => XT.iincV X.here hx rfl v hd hv hl hl' k
theorem Go.iincF (X : Stand p l e R s m args below meth c T locs cells slots) (hx : p.tables.exec = Jvm.exec) {k : Nat} {cst : Int} {x : Int32} {l' : Array Slot} (v z : Int32) (hd : decode c.code pc = .ok (.iinc k cst, 3)) (hv : Int32.ofInt cst = v) (hz : x + v = z) (hl : Ls[k]? = some (.val (.int x))) (hl' : storeLocals Ls k (.int z) = some l') (h : Go p e below F Q T (mkF m (pc + 3) l' S)) : Go p e below F Q T (mkF m pc Ls S) := Go.iinc X hx v hd hv hl (hz ▸ hl') h
theorem Go.istoreS (X : Stand p l e R s m args below meth c T locs cells slots) (hx : p.tables.exec = Jvm.exec) {k : Nat} {x : Int32} {o : Slot} (hd : decode c.code pc = .ok (.istore k, 2)) (hold : Ls[k]? = some o) (ho : One o) (h : Go p e below F Q T (mkF m (pc + 2) (Ls.setIfInBounds k (.val (.int x))) S)) : Go p e below F Q T (mkF m pc Ls (.int x :: S)) := h.st fun _ q => XS.istoreS X.here hx rfl hd rfl hold ho q
theorem Go.istoreNS (X : Stand p l e R s m args below meth c T locs cells slots) (hx : p.tables.exec = Jvm.exec) {k : Fin 4} {x : Int32} {o : Slot} (hd : decode c.code pc = .ok (.istore_n k, 1)) (hold : Ls[k.val]? = some o) (ho : One o) (h : Go p e below F Q T (mkF m (pc + 1) (Ls.setIfInBounds k.val (.val (.int x))) S)) : Go p e below F Q T (mkF m pc Ls (.int x :: S)) := h.st fun _ q => XS.istoreNS X.here hx rfl hd rfl hold ho q
theorem Go.goto (X : Stand p l e R s m args below meth c T locs cells slots) (hx : p.tables.exec = Jvm.exec) {o : Int} {pc' : Nat} (hd : decode c.code pc = .ok (.goto o, 3)) (ho : 0 ≤ (pc : Int) + o) (hp : ((pc : Int) + o).toNat = pc') (h : Go p e below F Q T (mkF m pc' Ls S)) : Go p e below F Q T (mkF m pc Ls S) := h.st fun _ k => XS.goto X.here hx rfl rfl hd ho hp k
theorem Go.ifYes (X : Stand p l e R s m args below meth c T locs cells slots) (hx : p.tables.exec = Jvm.exec) {cd : ClassFile.Cond} {x : Int32} {o : Int} {pc' : Nat} (hd : decode c.code pc = .ok (.ifCond cd o, 3)) (hc : ifCond.holds cd x = true) (ho : 0 ≤ (pc : Int) + o) (hp : ((pc : Int) + o).toNat = pc') (h : Go p e below F Q T (mkF m pc' Ls S)) : Go p e below F Q T (mkF m pc Ls (.int x :: S)) := h.st fun _ k => XS.ifYes X.here hx rfl rfl hd rfl hc ho hp k
theorem Go.ifNo (X : Stand p l e R s m args below meth c T locs cells slots) (hx : p.tables.exec = Jvm.exec) {cd : ClassFile.Cond} {x : Int32} {o : Int} (hd : decode c.code pc = .ok (.ifCond cd o, 3)) (hc : ifCond.holds cd x = false) (h : Go p e below F Q T (mkF m (pc + 3) Ls S)) : Go p e below F Q T (mkF m pc Ls (.int x :: S)) := h.st fun _ k => XS.ifNo X.here hx rfl hd rfl hc k
theorem Go.icmpYes (X : Stand p l e R s m args below meth c T locs cells slots) (hx : p.tables.exec = Jvm.exec) {cd : ClassFile.Cond} {x y : Int32} {o : Int} {pc' : Nat} (hd : decode c.code pc = .ok (.if_icmp cd o, 3)) (hc : if_icmp.holds cd x y = true) (ho : 0 ≤ (pc : Int) + o) (hp : ((pc : Int) + o).toNat = pc') (h : Go p e below F Q T (mkF m pc' Ls S)) : Go p e below F Q T (mkF m pc Ls (.int y :: .int x :: S)) := h.st fun _ k => XS.icmpYes X.here hx rfl rfl hd rfl hc ho hp k
theorem Go.icmpNo (X : Stand p l e R s m args below meth c T locs cells slots) (hx : p.tables.exec = Jvm.exec) {cd : ClassFile.Cond} {x y : Int32} {o : Int} (hd : decode c.code pc = .ok (.if_icmp cd o, 3)) (hc : if_icmp.holds cd x y = false) (h : Go p e below F Q T (mkF m (pc + 3) Ls S)) : Go p e below F Q T (mkF m pc Ls (.int y :: .int x :: S)) := h.st fun _ k => XS.icmpNo X.here hx rfl hd rfl hc k
theorem Go.ifnullYes (X : Stand p l e R s m args below meth c T locs cells slots) (hx : p.tables.exec = Jvm.exec) {o : Int} {pc' : Nat} (hd : decode c.code pc = .ok (.ifnull o, 3)) (ho : 0 ≤ (pc : Int) + o) (hp : ((pc : Int) + o).toNat = pc') (h : Go p e below F Q T (mkF m pc' Ls S)) : Go p e below F Q T (mkF m pc Ls (.null :: S)) := h.st fun _ k => XS.ifnullYes X.here hx rfl rfl hd rfl ho hp k
theorem Go.ifnullNo (X : Stand p l e R s m args below meth c T locs cells slots) (hx : p.tables.exec = Jvm.exec) {o : Int} {b : Addr} (hd : decode c.code pc = .ok (.ifnull o, 3)) (h : Go p e below F Q T (mkF m (pc + 3) Ls S)) : Go p e below F Q T (mkF m pc Ls (.ref b :: S)) := h.st fun _ k => XS.ifnullNo X.here hx rfl hd rfl k
theorem Go.ifnonnullYes (X : Stand p l e R s m args below meth c T locs cells slots) (hx : p.tables.exec = Jvm.exec) {o : Int} {b : Addr} {pc' : Nat} (hd : decode c.code pc = .ok (.ifnonnull o, 3)) (ho : 0 ≤ (pc : Int) + o) (hp : ((pc : Int) + o).toNat = pc') (h : Go p e below F Q T (mkF m pc' Ls S)) : Go p e below F Q T (mkF m pc Ls (.ref b :: S)) := h.st fun _ k => XS.ifnonnullYes X.here hx rfl rfl hd rfl ho hp k
theorem Go.ifnonnullNo (X : Stand p l e R s m args below meth c T locs cells slots) (hx : p.tables.exec = Jvm.exec) {o : Int} (hd : decode c.code pc = .ok (.ifnonnull o, 3)) (h : Go p e below F Q T (mkF m (pc + 3) Ls S)) : Go p e below F Q T (mkF m pc Ls (.null :: S)) := h.st fun _ k => XS.ifnonnullNo X.here hx rfl hd rfl k
theorem Go.acmpYes (X : Stand p l e R s m args below meth c T locs cells slots) (hx : p.tables.exec = Jvm.exec) {cd : ClassFile.ACond} {x y : Value} {o : Int} {pc' : Nat} (hd : decode c.code pc = .ok (.if_acmp cd o, 3)) (hx' : x.isRef = true) (hy' : y.isRef = true) (hc : XT.acmp cd x y = true) (ho : 0 ≤ (pc : Int) + o) (hp : ((pc : Int) + o).toNat = pc') (h : Go p e below F Q T (mkF m pc' Ls S)) : Go p e below F Q T (mkF m pc Ls (y :: x :: S)) := h.st fun _ k => XT.acmpYes X.here hx rfl rfl hd rfl hx' hy' hc ho hp k
theorem Go.acmpNo (X : Stand p l e R s m args below meth c T locs cells slots) (hx : p.tables.exec = Jvm.exec) {cd : ClassFile.ACond} {x y : Value} {o : Int} (hd : decode c.code pc = .ok (.if_acmp cd o, 3)) (hx' : x.isRef = true) (hy' : y.isRef = true) (hc : XT.acmp cd x y = false) (h : Go p e below F Q T (mkF m (pc + 3) Ls S)) : Go p e below F Q T (mkF m pc Ls (y :: x :: S)) := h.st fun _ k => XT.acmpNo X.here hx rfl hd rfl hx' hy' hc k
theorem Go.ldcI (X : Stand p l e R s m args below meth c T locs cells slots) (hx : p.tables.exec = Jvm.exec) (hZ : Z.Warmed39 s.vm) {index : Nat} {v : Int32} (hown : s.vm.findClass own = some m.cls) (w : (Jvm.Cond.constant own index v).before a0 Z = true) (hd : decode c.code pc = .ok (.ldc index, 2)) (h : Go p e below F Q T (mkF m (pc + 2) Ls (.int v :: S))) : Go p e below F Q T (mkF m pc Ls S) := h.st fun _ k => Jvm.Stand.ldcI X hx hown (mvT hZ w) rfl hd k
theorem Go.ldcWI (X : Stand p l e R s m args below meth c T locs cells slots) (hx : p.tables.exec = Jvm.exec) (hZ : Z.Warmed39 s.vm) {index : Nat} {v : Int32} (hown : s.vm.findClass own = some m.cls) (w : (Jvm.Cond.constant own index v).before a0 Z = true) (hd : decode c.code pc = .ok (.ldc_w index, 3)) (h : Go p e below F Q T (mkF m (pc + 3) Ls (.int v :: S))) : Go p e below F Q T (mkF m pc Ls S) := h.st fun _ k => Jvm.Stand.ldcWI X hx hown (mvT hZ w) rfl hd k
theorem Go.ldc2J (X : Stand p l e R s m args below meth c T locs cells slots) (hx : p.tables.exec = Jvm.exec) (hZ : Z.Warmed39 s.vm) {index : Nat} {v : Int64} (hown : s.vm.findClass own = some m.cls) (w : (Jvm.Cond.constantLong own index v).before a0 Z = true) (hd : decode c.code pc = .ok (.ldc2_w index, 3)) (h : Go p e below F Q T (mkF m (pc + 3) Ls (.long v :: S))) : Go p e below F Q T (mkF m pc Ls S) := h.st fun _ k => Jvm.Stand.ldc2J X hx hown (mvT hZ w) rfl hd k
theorem Go.retN (X : Stand p l e R s m args below meth c T locs cells slots) (hx : p.tables.exec = Jvm.exec) {t : FieldType} {z : Int32} (hret : meth.sig.returnType = some t) (hlk : meth.locks = false) (ht : t = .boolean ∨ t = .byte ∨ t = .char ∨ t = .short) (hd : decode c.code pc = .ok (.ireturn, 1)) (hC : cells ≤ C) (hN : slots ≤ N) (hQ : Q (some (.int (nar t z))) T.heap locs) : Go p e below (FE s C N) Q T (mkF m pc Ls (.int z :: S)) := by
  obtain ⟨fs, hr, hrun, hended, hW, hsame⟩ := X.leave (v := some (.int (nar t z))) (fun h => by rw [hret] at h; cases h) hlk
  exact ⟨_, _, Jvm.RoadKit.retN X hx hret ht hd hr, hrun, hended, _, _, rfl, hQ, ⟨_, rfl⟩, hW, hsame.mono hC hN⟩
theorem Go.retI (X : Stand p l e R s m args below meth c T locs cells slots) (hx : p.tables.exec = Jvm.exec) {z : Int32} (hret : meth.sig.returnType = some .int) (hlk : meth.locks = false) (hd : decode c.code pc = .ok (.ireturn, 1)) (hC : cells ≤ C) (hN : slots ≤ N) (hQ : Q (some (.int z)) T.heap locs) : Go p e below (FE s C N) Q T (mkF m pc Ls (.int z :: S)) := by
  obtain ⟨fs, hr, hrun, hended, hW, hsame⟩ := X.leave (v := some (.int z)) (fun h => by rw [hret] at h; cases h) hlk
  exact ⟨_, _, retOut X hx hret rfl (Or.inl ⟨rfl, Or.inl rfl, _, rfl⟩) hd hr, hrun, hended, _, _, rfl, hQ, ⟨_, rfl⟩, hW, hsame.mono hC hN⟩
theorem Go.retJ (X : Stand p l e R s m args below meth c T locs cells slots) (hx : p.tables.exec = Jvm.exec) {z : Int64} (hret : meth.sig.returnType = some .long) (hlk : meth.locks = false) (hd : decode c.code pc = .ok (.lreturn, 1)) (hC : cells ≤ C) (hN : slots ≤ N) (hQ : Q (some (.long z)) T.heap locs) : Go p e below (FE s C N) Q T (mkF m pc Ls (.long z :: S)) := by
  obtain ⟨fs, hr, hrun, hended, hW, hsame⟩ := X.leave (v := some (.long z)) (fun h => by rw [hret] at h; cases h) hlk
  exact ⟨_, _, retOut X hx hret rfl (Or.inr (Or.inl ⟨rfl, rfl, _, rfl⟩)) hd hr, hrun, hended, _, _, rfl, hQ, ⟨_, rfl⟩, hW, hsame.mono hC hN⟩
theorem Go.retA (X : Stand p l e R s m args below meth c T locs cells slots) (hx : p.tables.exec = Jvm.exec) {w : Value} {t : FieldType} (hret : meth.sig.returnType = some t) (hlk : meth.locks = false) (ht : t.isReference = true) (hw : w.isRef = true) (hn : narrow t w = w) (hd : decode c.code pc = .ok (.areturn, 1)) (hC : cells ≤ C) (hN : slots ≤ N) (hQ : Q (some w) T.heap locs) : Go p e below (FE s C N) Q T (mkF m pc Ls (w :: S)) := by
  obtain ⟨fs, hr, hrun, hended, hW, hsame⟩ := X.leave (v := some w) (fun h => by rw [hret] at h; cases h) hlk
  exact ⟨_, _, retOut X hx hret hn (Or.inr (Or.inr (Or.inr (Or.inr ⟨rfl, ht, hw⟩)))) hd hr, hrun, hended, _, _, rfl, hQ, ⟨_, rfl⟩, hW, hsame.mono hC hN⟩
theorem Go.retV (X : Stand p l e R s m args below meth c T locs cells slots) (hx : p.tables.exec = Jvm.exec) (hret : meth.sig.returnType = none) (hlk : meth.locks = false) (hd : decode c.code pc = .ok (.return_, 1)) (hC : cells ≤ C) (hN : slots ≤ N) (hQ : Q none T.heap locs) : Go p e below (FE s C N) Q T (mkF m pc Ls []) := by
  obtain ⟨fs, hr, hrun, hended, hW, hsame⟩ := X.leave (v := none) (fun _ => rfl) hlk
  exact ⟨_, _, X.returnOut hx hret hd hr, hrun, hended, _, _, rfl, hQ, ⟨_, rfl⟩, hW, hsame.mono hC hN⟩
theorem Go.getF (X : Stand p l e R s m args below meth c T locs cells slots) (hx : p.tables.exec = Jvm.exec) (hZ : Z.Warmed39 s.vm) {R0 O n d host : String} {index : Nat} (hown : s.vm.findClass own = some m.cls) (w : (Jvm.Cond.fieldLink own index R0 n d).before a0 Z = true ∨ (Jvm.Cond.fieldLinkNest own index R0 n d host).before a0 Z = true) (via : Via Z R0 O n d) (eT : T.heap = h) {a : Addr} {v : Value} (Fl : Fld Z h a O n d v) (hd : decode c.code pc = .ok (.getfield index, 3)) (k : ∀ T', Stand p l e R s m args below meth c T' locs cells slots → T'.heap = h → Go p e below F Q T' (mkF m (pc + 3) Ls (v :: S))) : Go p e below F Q T (mkF m pc Ls (.ref a :: S)) := by
  obtain ⟨T', X', e', st⟩ := Jvm.RoadKit.getF X hx hZ hown w via eT Fl (g := mkF m pc Ls (.ref a :: S)) rfl rfl hd
  exact (k T' X' e').st st
theorem Go.getS (X : Stand p l e R s m args below meth c T locs cells slots) (hx : p.tables.exec = Jvm.exec) (hZ : Z.Warmed39 s.vm) {R0 O n d host : String} {index : Nat} (hown : s.vm.findClass own = some m.cls) (w : (Jvm.Cond.fieldLink own index R0 n d).before a0 Z = true ∨ (Jvm.Cond.fieldLinkNest own index R0 n d host).before a0 Z = true) (via : Via Z R0 O n d) (eT : T.heap = h) {v : Value} (Fl : Sta Z h O n d v) (hd : decode c.code pc = .ok (.getstatic index, 3)) (k : ∀ T', Stand p l e R s m args below meth c T' locs cells slots → T'.heap = h → Go p e below F Q T' (mkF m (pc + 3) Ls (v :: S))) : Go p e below F Q T (mkF m pc Ls S) := by
  obtain ⟨T', X', e', st⟩ := getS2 X hx hZ hown w via eT Fl (g := mkF m pc Ls S) rfl hd
  exact (k T' X' e').st st
theorem Go.putF (X : Stand p l e R s m args below meth c T locs cells slots) (hx : p.tables.exec = Jvm.exec) (hZ : Z.Warmed39 s.vm) {R0 O n d host K : String} {index kk : Nat} {ty : FieldType} (hown : s.vm.findClass own = some m.cls) (w : (Jvm.Cond.fieldLink own index R0 n d).before a0 Z = true ∨ (Jvm.Cond.fieldLinkNest own index R0 n d host).before a0 Z = true) (via : Via Z R0 O n d) (eT : T.heap = h) {a : Addr} {v old : Value} (Fl : Fld Z h a O n d old) (E : Exa Z h a K) (L : (Jvm.Cond.lays K O n d).before a0 Z = true ∨ ((Jvm.Cond.laysFinal K O n d).before a0 Z = true ∧ own = O ∧ meth.name = "<init>")) (wi : (Jvm.Cond.instantiable K kk).before a0 Z = true) (hty : parseFieldDescriptor d = some ty) (hn : narrow ty v = v) (hf : fits ty v = true) (hd : decode c.code pc = .ok (.putfield index, 3)) (k : ∀ T' h', Stand p l e R s m args below meth c T' (locs ++ [⟨a, Jvm.RoadKit.slotOf Z O n d⟩]) cells slots → T'.heap = h' → Wr h h' a (Jvm.RoadKit.slotOf Z O n d) v → Go p e below F Q T' (mkF m (pc + 3) Ls S)) : Go p e below F Q T (mkF m pc Ls (v :: .ref a :: S)) := by
  obtain ⟨T', h', X', e', W', st⟩ := Jvm.RoadKit.putF X hx hZ hown w via eT Fl E L wi hty hn hf (g := mkF m pc Ls (v :: .ref a :: S)) rfl rfl hd
  exact (k T' h' X' e' W').st st
theorem Go.newO (X : Stand p l e R s m args below meth c T locs cells slots) (hx : p.tables.exec = Jvm.exec) (hZ : Z.Warmed39 s.vm) {K : String} {index n : Nat} (hown : s.vm.findClass own = some m.cls) (w : (Jvm.Cond.classLink own index K).before a0 Z = true) (wi : (Jvm.Cond.instantiable K n).before a0 Z = true) (wz : (Jvm.Cond.initialized K).before a0 Z = true) (eT : T.heap = h) (hd : decode c.code pc = .ok (.new index, 3)) (hc : cells + 1 ≤ R.cells) (hl : slots + n ≤ R.slots) (k : ∀ T' h' a, a = h.size → Stand p l e R s m args below meth c T' locs (cells + 1) (slots + n) → T'.heap = h' → Ext h h' → Exa Z h' a K → (∀ {O nm d : String} {ty : FieldType}, Laid Z a0 K O nm d → parseFieldDescriptor d = some ty → Fld Z h' a O nm d (defaultValue ty)) → Go p e below F Q T' (mkF m (pc + 3) Ls (.ref a :: S))) : Go p e below F Q T (mkF m pc Ls S) := by
  obtain ⟨T', h', X', e', E', A', D', -, st⟩ := Jvm.RoadKit.newO X hx hZ hown w wi wz eT (g := mkF m pc Ls S) rfl hd hc hl
  exact (k T' h' _ rfl X' e' E' A' D').st st
theorem Go.initO (X : Stand p l e R s m args below meth c T locs cells slots) (hx : p.tables.exec = Jvm.exec) (hZ : Z.Warmed39 s.vm) {idx : Nat} (hown : s.vm.findClass own = some m.cls) (w1 : (Jvm.Cond.methodLink own idx Lib.objectInit).before a0 Z = true) (w2 : (Jvm.Cond.instanceMethod Lib.objectInit).before a0 Z = true) (w3 : (Jvm.Cond.code Lib.objectInit ⟨#[0xb1]⟩ 1 none).before a0 Z = true) (eT : T.heap = h) (hsize : Ls.size = c.maxLocals) {a : Addr} (hd : decode c.code pc = .ok (.invokespecial idx, 3)) (hf : 1 ≤ R.frames) {W : Nat} (hW : (S.map fun v => v.category).sum ≤ W) (hl : W + 12 ≤ R.locals) (k : ∀ T', Stand p l e R s m args below meth c T' locs cells slots → T'.heap = h → Go p e below F Q T' (mkF m (pc + 3) Ls S)) : Go p e below F Q T (mkF m pc Ls (.ref a :: S)) := by
  obtain ⟨T', X', e', st⟩ := Jvm.RoadKit.initO X hx hZ hown w1 w2 w3 eT (g := mkF m pc Ls (.ref a :: S)) rfl hsize rfl hd hf (W := W) (by show 2 * 0 + _ ≤ _; omega) hl
  exact (k T' X' e').st st
theorem Go.callS (X : Stand p l e R s m args below meth c T locs cells slots) (hx : p.tables.exec = Jvm.exec) (hZ : Z.Warmed39 s.vm) {index : Nat} {y : MethodName} {bytes : ByteArray} {maxL : Nat} {ret : Option FieldType} {rm : Room} {as' : Array Value} {Qy : Option Value → Heap → List Loc → Prop} (hM : MetFree l y (head1 [Jvm.Cond.code y bytes maxL ret] rm) (fun a U => a = as' ∧ Z.Warmed39 U.vm ∧ U.heap = h) (fun _ _ _ _ _ => True) (fun _ U o U' => ∃ v L, o = .returned v ∧ Qy v U'.heap L ∧ FrameEnd U o U' L rm.cells rm.slots)) (hown : s.vm.findClass own = some m.cls) (wl : (Jvm.Cond.methodLink own index y).before a0 Z = true) (ws : (Jvm.Cond.static y).before a0 Z = true) (wi : (Jvm.Cond.initialized y.cls).before a0 Z = true) (wc : (Jvm.Cond.code y bytes maxL ret).before a0 Z = true) (hy : y.cls ≠ "java/lang/invoke/MethodHandle" ∧ y.cls ≠ "java/lang/invoke/VarHandle") (eT : T.heap = h) {W : Nat} (hsize : Ls.size = c.maxLocals) {argsL : List Value} (hW : (S.map fun v => v.category).sum ≤ W) (hf : rm.frames + 1 ≤ R.frames) (hl : W + (maxL + 11) + rm.locals ≤ R.locals) (hc : cells + rm.cells ≤ R.cells) (hs : slots + rm.slots ≤ R.slots) {ps : List FieldType} {r : Option FieldType} (hds : parseMethodDescriptor y.desc = some ⟨ps, r⟩) (hlen : argsL.length = ps.length) (has : argsL.toArray = as') (hd : decode c.code pc = .ok (.invokestatic index, 3)) (k : ∀ v T' L, Stand p l e R s m args below meth c T' (locs ++ L) (cells + rm.cells) (slots + rm.slots) → Qy v T'.heap L → Go p e below F Q T' (mkF m (pc + 3) Ls (v.toList ++ S))) : Go p e below F Q T (mkF m pc Ls (argsL.reverse ++ S)) := by
  obtain ⟨_, _, ⟨T', L', k', n'⟩, -, X', ⟨L, hq, e1, e2, e3⟩, st⟩ := Jvm.LawKit.callS X hx hown (mvT hZ wl) (mvT hZ ws) (mvT hZ wi) (mvT hZ wc) hy (backOf (W := W) hM hZ wc wi hf hl) (g := mkF m pc Ls (argsL.reverse ++ S)) rfl hsize (argsL := argsL) (rest := S) (lenOf hds hlen) rfl (by show 2 * 0 + _ ≤ _; omega) hd (fun _ _ => ⟨has, eT, hc, hs⟩)
  dsimp only [Pt.U, Pt.locs, Pt.cells, Pt.slots] at X' e1 e2 e3 st hq
  subst e1 e2 e3
  exact (k _ _ _ X' hq).st st
theorem Go.callI (X : Stand p l e R s m args below meth c T locs cells slots) (hx : p.tables.exec = Jvm.exec) (hZ : Z.Warmed39 s.vm) {index : Nat} {y : MethodName} {bytes : ByteArray} {maxL : Nat} {rm : Room} {as' : Array Value} {Qy : Option Value → Heap → List Loc → Prop} (hM : MetFree l y (head1 [Jvm.Cond.code y bytes maxL none] rm) (fun a U => a = as' ∧ Z.Warmed39 U.vm ∧ U.heap = h) (fun _ _ _ _ _ => True) (fun _ U o U' => ∃ v L, o = .returned v ∧ Qy v U'.heap L ∧ FrameEnd U o U' L rm.cells rm.slots)) (hy1 : y.name = "<init>") (hown : s.vm.findClass own = some m.cls) (wl : (Jvm.Cond.methodLink own index y).before a0 Z = true) (ws : (Jvm.Cond.instanceMethod y).before a0 Z = true) (wi : (Jvm.Cond.initialized y.cls).before a0 Z = true) (wc : (Jvm.Cond.code y bytes maxL none).before a0 Z = true) (hy : y.cls ≠ "java/lang/invoke/MethodHandle" ∧ y.cls ≠ "java/lang/invoke/VarHandle") (eT : T.heap = h) {a : Addr} {W : Nat} (hsize : Ls.size = c.maxLocals) {argsL : List Value} (hW : (S.map fun v => v.category).sum ≤ W) (hf : rm.frames + 1 ≤ R.frames) (hl : W + (maxL + 11) + rm.locals ≤ R.locals) (hc : cells + rm.cells ≤ R.cells) (hs : slots + rm.slots ≤ R.slots) {ps : List FieldType} {r : Option FieldType} (hds : parseMethodDescriptor y.desc = some ⟨ps, r⟩) (hlen : argsL.length = ps.length) (has : (.ref a :: argsL).toArray = as') (hd : decode c.code pc = .ok (.invokespecial index, 3)) (k : ∀ v T' L, Stand p l e R s m args below meth c T' (locs ++ L) (cells + rm.cells) (slots + rm.slots) → Qy v T'.heap L → Go p e below F Q T' (mkF m (pc + 3) Ls (v.toList ++ S))) : Go p e below F Q T (mkF m pc Ls (argsL.reverse ++ .ref a :: S)) := by
  obtain ⟨_, _, ⟨T', L', k', n'⟩, -, X', ⟨L, hq, e1, e2, e3⟩, st⟩ := X.specialBack hx hy1 hown (mvT hZ wl) (mvT hZ ws) (mvT hZ wc) hy (backOf (W := W) hM hZ wc wi hf hl) (g := mkF m pc Ls (argsL.reverse ++ .ref a :: S)) rfl hsize (Steps.refl _) (a := a) (argsL := argsL) (rest := S) (lenOf hds hlen) rfl (by show 2 * 0 + _ ≤ _; omega) hd (fun _ _ => ⟨has, eT, hc, hs⟩)
  dsimp only [Pt.U, Pt.locs, Pt.cells, Pt.slots] at X' e1 e2 e3 st hq
  subst e1 e2 e3
  exact (k _ _ _ X' hq).tr st
theorem Go.callV (X : Stand p l e R s m args below meth c T locs cells slots) (hx : p.tables.exec = Jvm.exec) (hZ : Z.Warmed39 s.vm) {index : Nat} {K : String} {y : MethodName} {bytes : ByteArray} {maxL : Nat} {ret : Option FieldType} {rm : Room} {as' : Array Value} {Qy : Option Value → Heap → List Loc → Prop} (hM : MetFree l y (head1 [Jvm.Cond.code y bytes maxL ret] rm) (fun a U => a = as' ∧ Z.Warmed39 U.vm ∧ U.heap = h) (fun _ _ _ _ _ => True) (fun _ U o U' => ∃ v L, o = .returned v ∧ Qy v U'.heap L ∧ FrameEnd U o U' L rm.cells rm.slots)) {y0 : MethodName} (hy : y0.cls ≠ "java/lang/invoke/MethodHandle" ∧ y0.cls ≠ "java/lang/invoke/VarHandle") (hown : s.vm.findClass own = some m.cls) (wl : (Jvm.Cond.methodLink own index y0).before a0 Z = true) (wd : (Jvm.Cond.declares y0).before a0 Z = true) (hnf : NotFace s y0) (wsel : (Jvm.Cond.selects K y0 y).before a0 Z = true) (ws : (Jvm.Cond.instanceMethod y).before a0 Z = true) (wi : (Jvm.Cond.initialized y.cls).before a0 Z = true) (wc : (Jvm.Cond.code y bytes maxL ret).before a0 Z = true) (eT : T.heap = h) {a : Addr} (E : Exa Z h a K) {W : Nat} (hsize : Ls.size = c.maxLocals) {argsL : List Value} (hW : (S.map fun v => v.category).sum ≤ W) (hf : rm.frames + 1 ≤ R.frames) (hl : W + (maxL + 11) + rm.locals ≤ R.locals) (hc : cells + rm.cells ≤ R.cells) (hs : slots + rm.slots ≤ R.slots) {ps : List FieldType} {r : Option FieldType} (hds : parseMethodDescriptor y0.desc = some ⟨ps, r⟩) (hlen : argsL.length = ps.length) (has : (.ref a :: argsL).toArray = as') (hd : decode c.code pc = .ok (.invokevirtual index, 3)) (k : ∀ v T' L, Stand p l e R s m args below meth c T' (locs ++ L) (cells + rm.cells) (slots + rm.slots) → Qy v T'.heap L → Go p e below F Q T' (mkF m (pc + 3) Ls (v.toList ++ S))) : Go p e below F Q T (mkF m pc Ls (argsL.reverse ++ .ref a :: S)) := by
  obtain ⟨cq, kq, q1, q2, q3⟩ := isOf hZ eT E
  obtain ⟨_, _, ⟨T', L', k', n'⟩, -, X', ⟨L, hq, e1, e2, e3⟩, st⟩ := X.virtualBack hx hown (mvT hZ wl) (mvT hZ wd) hnf (mvT hZ wsel) (mvT hZ ws) hy (backOf (W := W) hM hZ wc wi hf hl) q1 q3 (g := mkF m pc Ls (argsL.reverse ++ .ref a :: S)) rfl hsize (Steps.refl _) (argsL := argsL) (rest := S) (lenOf hds hlen) rfl (by show 2 * 0 + _ ≤ _; omega) hd (fun _ _ => ⟨has, eT, hc, hs⟩)
  dsimp only [Pt.U, Pt.locs, Pt.cells, Pt.slots] at X' e1 e2 e3 st hq
  subst e1 e2 e3
  exact (k _ _ _ X' hq).tr st
theorem Go.instY (X : Stand p l e R s m args below meth c T locs cells slots) (hx : p.tables.exec = Jvm.exec) (hZ : Z.Warmed39 s.vm) {K : String} {index : Nat} (hown : s.vm.findClass own = some m.cls) (w : (Jvm.Cond.classLink own index K).before a0 Z = true) (eT : T.heap = h) {a : Addr} (Fl : Ins Z h a K true) (hd : decode c.code pc = .ok (.instanceof index, 3)) (k : ∀ T', Stand p l e R s m args below meth c T' locs cells slots → T'.heap = h → Go p e below F Q T' (mkF m (pc + 3) Ls (.int 1 :: S))) : Go p e below F Q T (mkF m pc Ls (.ref a :: S)) := by
  obtain ⟨T', X', e', st⟩ := Jvm.RoadKit.instY X hx hZ hown w eT Fl (g := mkF m pc Ls (.ref a :: S)) rfl rfl hd
  exact (k T' X' e').st st
theorem Go.castY (X : Stand p l e R s m args below meth c T locs cells slots) (hx : p.tables.exec = Jvm.exec) (hZ : Z.Warmed39 s.vm) {K : String} {index : Nat} (hown : s.vm.findClass own = some m.cls) (w : (Jvm.Cond.classLink own index K).before a0 Z = true) (eT : T.heap = h) {a : Addr} (Fl : Ins Z h a K true) (hd : decode c.code pc = .ok (.checkcast index, 3)) (k : ∀ T', Stand p l e R s m args below meth c T' locs cells slots → T'.heap = h → Go p e below F Q T' (mkF m (pc + 3) Ls (.ref a :: S))) : Go p e below F Q T (mkF m pc Ls (.ref a :: S)) := by
  obtain ⟨T', X', e', st⟩ := Jvm.RoadKit.castY X hx hZ hown w eT Fl (g := mkF m pc Ls (.ref a :: S)) rfl rfl hd
  exact (k T' X' e').st st
theorem Go.instNo (X : Stand p l e R s m args below meth c T locs cells slots) (hx : p.tables.exec = Jvm.exec) (hZ : Z.Warmed39 s.vm) {K K0 : String} {index : Nat} (hown : s.vm.findClass own = some m.cls) (w : (Jvm.Cond.classLink own index K).before a0 Z = true) (eT : T.heap = h) {a : Addr} (E : Exa Z h a K0) (Fl : ∃ c t, Z.vm.findClass K0 = some c ∧ Z.vm.findClass K = some t ∧ Z.vm.assignable c t = false) (hd : decode c.code pc = .ok (.instanceof index, 3)) (k : ∀ T', Stand p l e R s m args below meth c T' locs cells slots → T'.heap = h → Go p e below F Q T' (mkF m (pc + 3) Ls (.int 0 :: S))) : Go p e below F Q T (mkF m pc Ls (.ref a :: S)) := by
  obtain ⟨T', X', e', st⟩ := Jvm.RoadKit.instNo X hx hZ hown w eT E Fl (g := mkF m pc Ls (.ref a :: S)) rfl rfl hd
  exact (k T' X' e').st st
theorem Go.instNull (X : Stand p l e R s m args below meth c T locs cells slots) (hx : p.tables.exec = Jvm.exec) {index : Nat} (hd : decode c.code pc = .ok (.instanceof index, 3)) (h : Go p e below F Q T (mkF m (pc + 3) Ls (.int 0 :: S))) : Go p e below F Q T (mkF m pc Ls (.null :: S)) := h.st fun _ k => X.instanceofNull hx (g := mkF m pc Ls (.null :: S)) rfl rfl hd _ k
theorem Go.castNull (X : Stand p l e R s m args below meth c T locs cells slots) (hx : p.tables.exec = Jvm.exec) {index : Nat} (hd : decode c.code pc = .ok (.checkcast index, 3)) (h : Go p e below F Q T (mkF m (pc + 3) Ls (.null :: S))) : Go p e below F Q T (mkF m pc Ls (.null :: S)) := h.st fun _ k => X.checkcastNull hx (g := mkF m pc Ls (.null :: S)) rfl rfl hd _ k
theorem own_noSub {K0 S0 K : String} {n : Nat} (w : (Jvm.Cond.superclass K0 S0).before a0 Z = true) (wk : (Jvm.Cond.instantiable K n).before a0 Z = true) (q : NS Z K0 K) (hn : K0 ≠ K) : ∃ c t, Z.vm.findClass K0 = some c ∧ Z.vm.findClass K = some t ∧ Z.vm.assignable c t = false := by
  obtain ⟨c, t, h0, g0, n3⟩ := q
  obtain ⟨p, k, kp, h1, h2, h3, h4, h5, -, h7⟩ := Cond.superclass_spec h0 w
  obtain ⟨t', k', g1, g2, g3, g4, -⟩ := Cond.instantiable_spec wk
  cases g0.symm.trans g1
  have g5 : k'.isInterface = false := by simp only [Bool.or_eq_false_iff] at g4; exact g4.1
  have ne := ids_ne h0 g0 hn
  refine ⟨c, t, h0, g0, ?_⟩
  show Z.vm.assignableAux (255 + 1) c t = false
  simp [Vm.assignableAux, ne, h2, g2, h5, g3, g5, Vm.isSubclass, n3]
theorem own_nsRoot {O K : String} {n : Nat} (w : (Jvm.Cond.noSuperclass O).before a0 Z = true) (wk : (Jvm.Cond.instantiable K n).before a0 Z = true) (hn : O ≠ K) : NS Z O K := by
  obtain ⟨c, k, h1, h2, h3, -, -⟩ := Cond.noSuperclass_spec w
  obtain ⟨t, k', g1, -⟩ := Cond.instantiable_spec wk
  have ne := ids_ne h1 g1 hn
  refine ⟨c, t, h1, g1, fun fuel => ?_⟩
  cases fuel with
  | zero => rfl
  | succ f => simp [Vm.isSubclassAux, ne, h2, h3]
theorem Sta.own_keep {h' : Heap} {K n d : String} {v : Value} {ws : List Addr} (Fl : Sta Z h K n d v) (k : Keep h h' ws) (q : ∀ x ∈ ws, ∀ cell : Cell, h[x]? = some cell → cell.vm.isStatics = false) : Sta Z h' K n d v := by
  obtain ⟨cf, i, kk, f, st, cell, h1, h2, h3, h4, h5, h6, h7⟩ := Fl
  refine ⟨cf, i, kk, f, st, cell, h1, h2, h3, h4, k.2.1 _ _ h5 (fun hm => ?_), h6, h7⟩
  have := q _ hm _ h5
  rw [h6] at this; cases this
theorem Go.newP (X : Stand p l e R s m args below meth c T locs cells slots) (hx : p.tables.exec = Jvm.exec) (hZ : Z.Warmed39 s.vm) {aty : ArrayType} (w : (Jvm.Cond.arrayClass (newarray.typeOf aty)).before a0 Z = true) (eT : T.heap = h) {n : Int32} (hd : decode c.code pc = .ok (.newarray aty, 2)) (hn : ¬ n < 0) {cap : Nat} (hcap : n.toNatClampNeg ≤ cap) (hb : cap * 8 ≤ 536870912) (hc : cells + 1 ≤ R.cells) (hl : slots + cap ≤ R.slots) (k : ∀ T' h' cA a, a = h.size → Stand p l e R s m args below meth c T' locs (cells + 1) (slots + cap) → T'.heap = h' → Ext h h' → Arr Z h' a (newA cA (newarray.typeOf aty) n) (newarray.typeOf aty) → Go p e below F Q T' (mkF m (pc + 2) Ls (.ref a :: S))) : Go p e below F Q T (mkF m pc Ls (.int n :: S)) := by
  obtain ⟨T', h', cA, X', e', E', A', st⟩ := Jvm.RoadKit.newP X hx hZ w eT (g := mkF m pc Ls (.int n :: S)) rfl hd rfl hn hcap hb hc hl
  exact (k T' h' cA _ rfl X' e' E' A').st st
theorem Go.stI (X : Stand p l e R s m args below meth c T locs cells slots) (hx : p.tables.exec = Jvm.exec) (hZ : Z.Warmed39 s.vm) (eT : T.heap = h) {a : Addr} {cl : Cell} (A : Arr Z h a cl .int) {j : Int32} {x : Int32} (hj : ¬ (j < 0 ∨ cl.slots.size ≤ j.toNatClampNeg)) (hd : decode c.code pc = .ok (.iastore, 1)) (k : ∀ T' h', Stand p l e R s m args below meth c T' (locs ++ [⟨a, j.toNatClampNeg⟩]) cells slots → T'.heap = h' → Wr h h' a j.toNatClampNeg (.int x) → Go p e below F Q T' (mkF m (pc + 1) Ls S)) : Go p e below F Q T (mkF m pc Ls (.int x :: .int j :: .ref a :: S)) := by
  obtain ⟨T', h', X', e', W', st⟩ := Jvm.RoadKit.stI X hx hZ eT A hj (g := mkF m pc Ls (.int x :: .int j :: .ref a :: S)) rfl rfl hd
  exact (k T' h' X' e' W').st st
theorem Go.stC (X : Stand p l e R s m args below meth c T locs cells slots) (hx : p.tables.exec = Jvm.exec) (hZ : Z.Warmed39 s.vm) (eT : T.heap = h) {a : Addr} {cl : Cell} (A : Arr Z h a cl .char) {j : Int32} {x : Int32} (hj : ¬ (j < 0 ∨ cl.slots.size ≤ j.toNatClampNeg)) (hd : decode c.code pc = .ok (.castore, 1)) (k : ∀ T' h', Stand p l e R s m args below meth c T' (locs ++ [⟨a, j.toNatClampNeg⟩]) cells slots → T'.heap = h' → Wr h h' a j.toNatClampNeg (.int (nar .char x)) → Go p e below F Q T' (mkF m (pc + 1) Ls S)) : Go p e below F Q T (mkF m pc Ls (.int x :: .int j :: .ref a :: S)) := by
  obtain ⟨T', h', X', e', W', st⟩ := Jvm.RoadKit.stC X hx hZ eT A hj (g := mkF m pc Ls (.int x :: .int j :: .ref a :: S)) rfl rfl hd
  exact (k T' h' X' e' W').st st
theorem Go.stB (X : Stand p l e R s m args below meth c T locs cells slots) (hx : p.tables.exec = Jvm.exec) (hZ : Z.Warmed39 s.vm) (eT : T.heap = h) {a : Addr} {cl : Cell} (A : Arr Z h a cl .byte) {j : Int32} {x : Int32} (hj : ¬ (j < 0 ∨ cl.slots.size ≤ j.toNatClampNeg)) (hd : decode c.code pc = .ok (.bastore, 1)) (k : ∀ T' h', Stand p l e R s m args below meth c T' (locs ++ [⟨a, j.toNatClampNeg⟩]) cells slots → T'.heap = h' → Wr h h' a j.toNatClampNeg (.int (nar .byte x)) → Go p e below F Q T' (mkF m (pc + 1) Ls S)) : Go p e below F Q T (mkF m pc Ls (.int x :: .int j :: .ref a :: S)) := by
  obtain ⟨T', h', X', e', W', st⟩ := Jvm.RoadKit.stB X hx hZ eT A hj (g := mkF m pc Ls (.int x :: .int j :: .ref a :: S)) rfl rfl hd
  exact (k T' h' X' e' W').st st
theorem Go.stZ (X : Stand p l e R s m args below meth c T locs cells slots) (hx : p.tables.exec = Jvm.exec) (hZ : Z.Warmed39 s.vm) (eT : T.heap = h) {a : Addr} {cl : Cell} (A : Arr Z h a cl .boolean) {j : Int32} {x : Int32} (hj : ¬ (j < 0 ∨ cl.slots.size ≤ j.toNatClampNeg)) (hd : decode c.code pc = .ok (.bastore, 1)) (k : ∀ T' h', Stand p l e R s m args below meth c T' (locs ++ [⟨a, j.toNatClampNeg⟩]) cells slots → T'.heap = h' → Wr h h' a j.toNatClampNeg (.int (nar .boolean x)) → Go p e below F Q T' (mkF m (pc + 1) Ls S)) : Go p e below F Q T (mkF m pc Ls (.int x :: .int j :: .ref a :: S)) := by
  obtain ⟨T', h', X', e', W', st⟩ := Jvm.RoadKit.stZ X hx hZ eT A hj (g := mkF m pc Ls (.int x :: .int j :: .ref a :: S)) rfl rfl hd
  exact (k T' h' X' e' W').st st
theorem Go.stS (X : Stand p l e R s m args below meth c T locs cells slots) (hx : p.tables.exec = Jvm.exec) (hZ : Z.Warmed39 s.vm) (eT : T.heap = h) {a : Addr} {cl : Cell} (A : Arr Z h a cl .short) {j : Int32} {x : Int32} (hj : ¬ (j < 0 ∨ cl.slots.size ≤ j.toNatClampNeg)) (hd : decode c.code pc = .ok (.sastore, 1)) (k : ∀ T' h', Stand p l e R s m args below meth c T' (locs ++ [⟨a, j.toNatClampNeg⟩]) cells slots → T'.heap = h' → Wr h h' a j.toNatClampNeg (.int (nar .short x)) → Go p e below F Q T' (mkF m (pc + 1) Ls S)) : Go p e below F Q T (mkF m pc Ls (.int x :: .int j :: .ref a :: S)) := by
  obtain ⟨T', h', X', e', W', st⟩ := Jvm.RoadKit.stS X hx hZ eT A hj (g := mkF m pc Ls (.int x :: .int j :: .ref a :: S)) rfl rfl hd
  exact (k T' h' X' e' W').st st
theorem Go.stJ (X : Stand p l e R s m args below meth c T locs cells slots) (hx : p.tables.exec = Jvm.exec) (hZ : Z.Warmed39 s.vm) (eT : T.heap = h) {a : Addr} {cl : Cell} (A : Arr Z h a cl .long) {j : Int32} {x : Int64} (hj : ¬ (j < 0 ∨ cl.slots.size ≤ j.toNatClampNeg)) (hd : decode c.code pc = .ok (.lastore, 1)) (k : ∀ T' h', Stand p l e R s m args below meth c T' (locs ++ [⟨a, j.toNatClampNeg⟩]) cells slots → T'.heap = h' → Wr h h' a j.toNatClampNeg (.long x) → Go p e below F Q T' (mkF m (pc + 1) Ls S)) : Go p e below F Q T (mkF m pc Ls (.long x :: .int j :: .ref a :: S)) := by
  obtain ⟨T', h', X', e', W', st⟩ := Jvm.RoadKit.stJ X hx hZ eT A hj (g := mkF m pc Ls (.long x :: .int j :: .ref a :: S)) rfl rfl hd
  exact (k T' h' X' e' W').st st
theorem Go.iaload (X : Stand p l e R s m args below meth c T locs cells slots) (hx : p.tables.exec = Jvm.exec) (hZ : Z.Warmed39 s.vm) (eT : T.heap = h) {a : Addr} {cl : Cell} (A : Arr Z h a cl .int) {j : Int32} {v : Value} (hj : ¬ (j < 0 ∨ cl.slots.size ≤ j.toNatClampNeg)) (hv : cl.slots[j.toNatClampNeg]? = some v) (hd : decode c.code pc = .ok (.iaload, 1)) (k : Go p e below F Q T (mkF m (pc + 1) Ls (v :: S))) : Go p e below F Q T (mkF m pc Ls (.int j :: .ref a :: S)) := k.st fun _ q => X.iaload hx (by rw [eT]; exact A.1) (State.isArrayOf_alike hZ.alike A.2.1) A.2.2 hj hv (g := mkF m pc Ls (.int j :: .ref a :: S)) rfl rfl hd _ q
theorem Go.caload (X : Stand p l e R s m args below meth c T locs cells slots) (hx : p.tables.exec = Jvm.exec) (hZ : Z.Warmed39 s.vm) (eT : T.heap = h) {a : Addr} {cl : Cell} (A : Arr Z h a cl .char) {j : Int32} {v : Value} (hj : ¬ (j < 0 ∨ cl.slots.size ≤ j.toNatClampNeg)) (hv : cl.slots[j.toNatClampNeg]? = some v) (hd : decode c.code pc = .ok (.caload, 1)) (k : Go p e below F Q T (mkF m (pc + 1) Ls (v :: S))) : Go p e below F Q T (mkF m pc Ls (.int j :: .ref a :: S)) := k.st fun _ q => X.caload hx (by rw [eT]; exact A.1) (State.isArrayOf_alike hZ.alike A.2.1) A.2.2 hj hv (g := mkF m pc Ls (.int j :: .ref a :: S)) rfl rfl hd _ q
theorem Go.saload (X : Stand p l e R s m args below meth c T locs cells slots) (hx : p.tables.exec = Jvm.exec) (hZ : Z.Warmed39 s.vm) (eT : T.heap = h) {a : Addr} {cl : Cell} (A : Arr Z h a cl .short) {j : Int32} {v : Value} (hj : ¬ (j < 0 ∨ cl.slots.size ≤ j.toNatClampNeg)) (hv : cl.slots[j.toNatClampNeg]? = some v) (hd : decode c.code pc = .ok (.saload, 1)) (k : Go p e below F Q T (mkF m (pc + 1) Ls (v :: S))) : Go p e below F Q T (mkF m pc Ls (.int j :: .ref a :: S)) := k.st fun _ q => X.saload hx (by rw [eT]; exact A.1) (State.isArrayOf_alike hZ.alike A.2.1) A.2.2 hj hv (g := mkF m pc Ls (.int j :: .ref a :: S)) rfl rfl hd _ q
theorem Go.laload (X : Stand p l e R s m args below meth c T locs cells slots) (hx : p.tables.exec = Jvm.exec) (hZ : Z.Warmed39 s.vm) (eT : T.heap = h) {a : Addr} {cl : Cell} (A : Arr Z h a cl .long) {j : Int32} {v : Value} (hj : ¬ (j < 0 ∨ cl.slots.size ≤ j.toNatClampNeg)) (hv : cl.slots[j.toNatClampNeg]? = some v) (hd : decode c.code pc = .ok (.laload, 1)) (k : Go p e below F Q T (mkF m (pc + 1) Ls (v :: S))) : Go p e below F Q T (mkF m pc Ls (.int j :: .ref a :: S)) := k.st fun _ q => X.laload hx (by rw [eT]; exact A.1) (State.isArrayOf_alike hZ.alike A.2.1) A.2.2 hj hv (g := mkF m pc Ls (.int j :: .ref a :: S)) rfl rfl hd _ q
theorem Go.baload (X : Stand p l e R s m args below meth c T locs cells slots) (hx : p.tables.exec = Jvm.exec) (hZ : Z.Warmed39 s.vm) (eT : T.heap = h) {a : Addr} {cl : Cell} (A : Arr Z h a cl .byte) {j : Int32} {v : Value} (hj : ¬ (j < 0 ∨ cl.slots.size ≤ j.toNatClampNeg)) (hv : cl.slots[j.toNatClampNeg]? = some v) (hd : decode c.code pc = .ok (.baload, 1)) (k : Go p e below F Q T (mkF m (pc + 1) Ls (v :: S))) : Go p e below F Q T (mkF m pc Ls (.int j :: .ref a :: S)) := k.st fun _ q => X.baloadBytes hx (by rw [eT]; exact A.1) (State.isArrayOf_alike hZ.alike A.2.1) A.2.2 hj hv (g := mkF m pc Ls (.int j :: .ref a :: S)) rfl rfl hd _ q
theorem Go.aaload (X : Stand p l e R s m args below meth c T locs cells slots) (hx : p.tables.exec = Jvm.exec) (hZ : Z.Warmed39 s.vm) (eT : T.heap = h) {a : Addr} {cl : Cell} {ty : FieldType} (A : Arr Z h a cl ty) (hty : ty.isReference = true) {j : Int32} {v : Value} (hj : ¬ (j < 0 ∨ cl.slots.size ≤ j.toNatClampNeg)) (hv : cl.slots[j.toNatClampNeg]? = some v) (hd : decode c.code pc = .ok (.aaload, 1)) (k : Go p e below F Q T (mkF m (pc + 1) Ls (v :: S))) : Go p e below F Q T (mkF m pc Ls (.int j :: .ref a :: S)) := k.st fun _ q => X.aaload hx (by rw [eT]; exact A.1) (State.isArrayOf_alike hZ.alike A.2.1) hty A.2.2 hj hv (g := mkF m pc Ls (.int j :: .ref a :: S)) rfl rfl hd _ q
theorem Go.arraylength (X : Stand p l e R s m args below meth c T locs cells slots) (hx : p.tables.exec = Jvm.exec) (hZ : Z.Warmed39 s.vm) (eT : T.heap = h) {a : Addr} {cl : Cell} {ty : FieldType} (A : Arr Z h a cl ty) {n : Int32} (S1 : cl.slots.size = n.toNatClampNeg) (hn : ¬ n < 0) (hd : decode c.code pc = .ok (.arraylength, 1)) (k : Go p e below F Q T (mkF m (pc + 1) Ls (.int n :: S))) : Go p e below F Q T (mkF m pc Ls (.ref a :: S)) := k.st fun _ q => X.arraylength hx (by rw [eT]; exact A.1) (State.isArrayOf_alike hZ.alike A.2.1) (g := mkF m pc Ls (.ref a :: S)) rfl rfl hd _ (by rw [len_of S1 hn]; exact q)
theorem Go.callIB (X : Stand p l e R s m args below meth c T locs cells slots) (hx : p.tables.exec = Jvm.exec) (hZ : Z.Warmed39 s.vm) {index : Nat} {y : MethodName} {as' : Array Value} {C1 N1 : Nat} {Qy : Option Value → Heap → List Loc → Prop} {W : Nat} (hK : Back l R p e below s args y 3 W (fun P a => a = as' ∧ P.U.heap = h ∧ P.cells + C1 ≤ R.cells ∧ P.slots + N1 ≤ R.slots) (fun P _ v B => ∃ L, Qy v B.U.heap L ∧ B.locs = P.locs ++ L ∧ B.cells = P.cells + C1 ∧ B.slots = P.slots + N1)) (hy1 : y.name = "<init>") (hown : s.vm.findClass own = some m.cls) (wl : (Jvm.Cond.methodLink own index y).before a0 Z = true) (ws : (Jvm.Cond.instanceMethod y).before a0 Z = true) {bytes : ByteArray} {maxL : Nat} (wc : (Jvm.Cond.code y bytes maxL none).before a0 Z = true) (hy : y.cls ≠ "java/lang/invoke/MethodHandle" ∧ y.cls ≠ "java/lang/invoke/VarHandle") (eT : T.heap = h) {a : Addr} (hsize : Ls.size = c.maxLocals) {argsL : List Value} (hW : (S.map fun v => v.category).sum ≤ W) (hc : cells + C1 ≤ R.cells) (hs : slots + N1 ≤ R.slots) {ps : List FieldType} {r : Option FieldType} (hds : parseMethodDescriptor y.desc = some ⟨ps, r⟩) (hlen : argsL.length = ps.length) (has : (.ref a :: argsL).toArray = as') (hd : decode c.code pc = .ok (.invokespecial index, 3)) (k : ∀ v T' L, Stand p l e R s m args below meth c T' (locs ++ L) (cells + C1) (slots + N1) → Qy v T'.heap L → Go p e below F Q T' (mkF m (pc + 3) Ls (v.toList ++ S))) : Go p e below F Q T (mkF m pc Ls (argsL.reverse ++ .ref a :: S)) := by
  obtain ⟨_, _, ⟨T', L', k', n'⟩, -, X', ⟨L, hq, e1, e2, e3⟩, st⟩ := X.specialBack hx hy1 hown (mvT hZ wl) (mvT hZ ws) (mvT hZ wc) hy hK (g := mkF m pc Ls (argsL.reverse ++ .ref a :: S)) rfl hsize (Steps.refl _) (a := a) (argsL := argsL) (rest := S) (lenOf hds hlen) rfl (by show 2 * 0 + _ ≤ _; omega) hd (fun _ _ => ⟨has, eT, hc, hs⟩)
  dsimp only [Pt.U, Pt.locs, Pt.cells, Pt.slots] at X' e1 e2 e3 st hq
  subst e1 e2 e3
  exact (k _ _ _ X' hq).tr st
theorem Go.callVB (X : Stand p l e R s m args below meth c T locs cells slots) (hx : p.tables.exec = Jvm.exec) (hZ : Z.Warmed39 s.vm) {index : Nat} {K : String} {y : MethodName} {as' : Array Value} {C1 N1 : Nat} {Qy : Option Value → Heap → List Loc → Prop} {W : Nat} (hK : Back l R p e below s args y 3 W (fun P a => a = as' ∧ P.U.heap = h ∧ P.cells + C1 ≤ R.cells ∧ P.slots + N1 ≤ R.slots) (fun P _ v B => ∃ L, Qy v B.U.heap L ∧ B.locs = P.locs ++ L ∧ B.cells = P.cells + C1 ∧ B.slots = P.slots + N1)) {y0 : MethodName} (hy : y0.cls ≠ "java/lang/invoke/MethodHandle" ∧ y0.cls ≠ "java/lang/invoke/VarHandle") (hown : s.vm.findClass own = some m.cls) (wl : (Jvm.Cond.methodLink own index y0).before a0 Z = true) (wd : (Jvm.Cond.declares y0).before a0 Z = true) (hnf : NotFace s y0) (wsel : (Jvm.Cond.selects K y0 y).before a0 Z = true) (ws : (Jvm.Cond.instanceMethod y).before a0 Z = true) (eT : T.heap = h) {a : Addr} (E : Exa Z h a K) (hsize : Ls.size = c.maxLocals) {argsL : List Value} (hW : (S.map fun v => v.category).sum ≤ W) (hc : cells + C1 ≤ R.cells) (hs : slots + N1 ≤ R.slots) {ps : List FieldType} {r : Option FieldType} (hds : parseMethodDescriptor y0.desc = some ⟨ps, r⟩) (hlen : argsL.length = ps.length) (has : (.ref a :: argsL).toArray = as') (hd : decode c.code pc = .ok (.invokevirtual index, 3)) (k : ∀ v T' L, Stand p l e R s m args below meth c T' (locs ++ L) (cells + C1) (slots + N1) → Qy v T'.heap L → Go p e below F Q T' (mkF m (pc + 3) Ls (v.toList ++ S))) : Go p e below F Q T (mkF m pc Ls (argsL.reverse ++ .ref a :: S)) := by
  obtain ⟨cq, kq, q1, q2, q3⟩ := isOf hZ eT E
  obtain ⟨_, _, ⟨T', L', k', n'⟩, -, X', ⟨L, hq, e1, e2, e3⟩, st⟩ := X.virtualBack hx hown (mvT hZ wl) (mvT hZ wd) hnf (mvT hZ wsel) (mvT hZ ws) hy hK q1 q3 (g := mkF m pc Ls (argsL.reverse ++ .ref a :: S)) rfl hsize (Steps.refl _) (argsL := argsL) (rest := S) (lenOf hds hlen) rfl (by show 2 * 0 + _ ≤ _; omega) hd (fun _ _ => ⟨has, eT, hc, hs⟩)
  dsimp only [Pt.U, Pt.locs, Pt.cells, Pt.slots] at X' e1 e2 e3 st hq
  subst e1 e2 e3
  exact (k _ _ _ X' hq).tr st
end OwnKit
section OwnMore
variable {p : Program} {l : Launch} {e : Env} {R : Room} {s : State} {m : MethodId} {args : Array Value} {below : List Frame} {meth : Method} {c : Code} {T : State} {locs : List Loc} {cells slots : Nat} {C N : Nat} {F : Outcome → State → List Loc → Prop} {Q : Option Value → Heap → List Loc → Prop} {pc : Nat} {Ls : Array Slot} {S : List Value} {Z : State} {a0 : Array Value} {h h' : Heap} {own : String}
theorem Go.dup2J (X : Stand p l e R s m args below meth c T locs cells slots) (hx : p.tables.exec = Jvm.exec) {x : Int64} (hd : decode c.code pc = .ok (.dup2, 1)) (h : Go p e below F Q T (mkF m (pc + 1) Ls (.long x :: .long x :: S))) : Go p e below F Q T (mkF m pc Ls (.long x :: S)) := h.st fun _ k => by
  jvm_step X.here [X.here.top, hx, hd, Value.category]
  exact k
theorem Go.dup2RI (X : Stand p l e R s m args below meth c T locs cells slots) (hx : p.tables.exec = Jvm.exec) {x : Int32} {a : Addr} (hd : decode c.code pc = .ok (.dup2, 1)) (h : Go p e below F Q T (mkF m (pc + 1) Ls (.int x :: .ref a :: .int x :: .ref a :: S))) : Go p e below F Q T (mkF m pc Ls (.int x :: .ref a :: S)) := h.st fun _ k => by
  jvm_step X.here [X.here.top, hx, hd, Value.category]
  exact k
theorem Go.newPE (X : Stand p l e R s m args below meth c T locs cells slots) (hx : p.tables.exec = Jvm.exec) (hZ : Z.Warmed39 s.vm) {aty : ArrayType} (w : (Jvm.Cond.arrayClass (newarray.typeOf aty)).before a0 Z = true) (eT : T.heap = h) {n : Int32} (hd : decode c.code pc = .ok (.newarray aty, 2)) (hn : ¬ n < 0) {cap : Nat} (hcap : n.toNatClampNeg ≤ cap) (hb : cap * 8 ≤ 536870912) (hc : cells + 1 ≤ R.cells) (hl : slots + cap ≤ R.slots) {ad : String} (had : "[" ++ (newarray.typeOf aty).toString = ad) (k : ∀ T' h' cA a, a = h.size → Stand p l e R s m args below meth c T' locs (cells + 1) (slots + cap) → T'.heap = h' → Ext h h' → Arr Z h' a (newA cA (newarray.typeOf aty) n) (newarray.typeOf aty) → Exa Z h' a ad → Go p e below F Q T' (mkF m (pc + 2) Ls (.ref a :: S))) : Go p e below F Q T (mkF m pc Ls (.int n :: S)) := by
  obtain ⟨T', h', cA, X', e', E', A', B', st⟩ := Jvm.RoadKit.newPE X hx hZ w eT (g := mkF m pc Ls (.int n :: S)) rfl hd rfl hn hcap hb hc hl had
  exact (k T' h' cA _ rfl X' e' E' A' B').st st
theorem Go.newRA (X : Stand p l e R s m args below meth c T locs cells slots) (hx : p.tables.exec = Jvm.exec) (hZ : Z.Warmed39 s.vm) {C : String} {ty : FieldType} {index : Nat} (hown : s.vm.findClass own = some m.cls) (hC : (FieldType.array ty).toString = C) (w1 : (Jvm.Cond.classLink own index C).before a0 Z = true) (w2 : (Jvm.Cond.arrayOver (.array ty)).before a0 Z = true) (eT : T.heap = h) {n : Int32} (hd : decode c.code pc = .ok (.anewarray index, 3)) (hn : ¬ n < 0) {cap : Nat} (hcap : n.toNatClampNeg ≤ cap) (hb : cap * 8 ≤ 536870912) (hc : cells + 1 ≤ R.cells) (hl : slots + cap ≤ R.slots) {ad : String} (had : "[" ++ C = ad) (k : ∀ T' h' cA a, a = h.size → Stand p l e R s m args below meth c T' locs (cells + 1) (slots + cap) → T'.heap = h' → Ext h h' → Arr Z h' a (newA cA (.array ty) n) (.array ty) → Exa Z h' a ad → OvrA Z cA ty C → Go p e below F Q T' (mkF m (pc + 3) Ls (.ref a :: S))) : Go p e below F Q T (mkF m pc Ls (.int n :: S)) := by
  obtain ⟨T', h', cA, X', e', E', A', B', O', st⟩ := Jvm.RoadKit.newRA X hx hZ hown hC w1 w2 eT (g := mkF m pc Ls (.int n :: S)) rfl hd rfl hn hcap hb hc hl had
  exact (k T' h' cA _ rfl X' e' E' A' B' O').st st
theorem Go.stR (X : Stand p l e R s m args below meth c T locs cells slots) (hx : p.tables.exec = Jvm.exec) (hZ : Z.Warmed39 s.vm) (eT : T.heap = h) {a : Addr} {cl : Cell} {ty : FieldType} (A : Arr Z h a cl ty) {j : Int32} {v : Value} (hj : ¬ (j < 0 ∨ cl.slots.size ≤ j.toNatClampNeg)) (hty : ty.isReference = true) (F' : Sto Z h a v) (hd : decode c.code pc = .ok (.aastore, 1)) (k : ∀ T' h', Stand p l e R s m args below meth c T' (locs ++ [⟨a, j.toNatClampNeg⟩]) cells slots → T'.heap = h' → Wr h h' a j.toNatClampNeg v → Go p e below F Q T' (mkF m (pc + 1) Ls S)) : Go p e below F Q T (mkF m pc Ls (v :: .int j :: .ref a :: S)) := by
  obtain ⟨T', h', X', e', W', st⟩ := Jvm.RoadKit.stR X hx hZ eT A hj hty F' (g := mkF m pc Ls (v :: .int j :: .ref a :: S)) rfl rfl hd
  exact (k T' h' X' e' W').st st
theorem Go.callP (X : Stand p l e R s m args below meth c T locs cells slots) (hx : p.tables.exec = Jvm.exec) (hZ : Z.Warmed39 s.vm) {index : Nat} {y : MethodName} {bytes : ByteArray} {maxL : Nat} {ret : Option FieldType} {rm : Room} {as' : Array Value} {Qy : Option Value → Heap → List Loc → Prop} (hM : MetFree l y (head1 [Jvm.Cond.code y bytes maxL ret] rm) (fun a U => a = as' ∧ Z.Warmed39 U.vm ∧ U.heap = h) (fun _ _ _ _ _ => True) (fun _ U o U' => ∃ v L, o = .returned v ∧ Qy v U'.heap L ∧ FrameEnd U o U' L rm.cells rm.slots)) (hy : y.cls ≠ "java/lang/invoke/MethodHandle" ∧ y.cls ≠ "java/lang/invoke/VarHandle") (hown : s.vm.findClass own = some m.cls) (wl : (Jvm.Cond.methodLink own index y).before a0 Z = true) (ws : (Jvm.Cond.instanceMethod y).before a0 Z = true) (wp : (Jvm.Cond.privateMethod y).before a0 Z = true) (wi : (Jvm.Cond.initialized y.cls).before a0 Z = true) {y2 : MethodName} (hy2 : y2.cls = y.cls) (wn : (Jvm.Cond.selects y.cls y2 y2).before a0 Z = true) (wc : (Jvm.Cond.code y bytes maxL ret).before a0 Z = true) (eT : T.heap = h) {a : Addr} (E : Exa Z h a y.cls) {W : Nat} (hsize : Ls.size = c.maxLocals) {argsL : List Value} (hW : (S.map fun v => v.category).sum ≤ W) (hf : rm.frames + 1 ≤ R.frames) (hl : W + (maxL + 11) + rm.locals ≤ R.locals) (hc : cells + rm.cells ≤ R.cells) (hs : slots + rm.slots ≤ R.slots) {ps : List FieldType} {r : Option FieldType} (hds : parseMethodDescriptor y.desc = some ⟨ps, r⟩) (hlen : argsL.length = ps.length) (has : (.ref a :: argsL).toArray = as') (hd : decode c.code pc = .ok (.invokevirtual index, 3)) (k : ∀ v T' L, Stand p l e R s m args below meth c T' (locs ++ L) (cells + rm.cells) (slots + rm.slots) → Qy v T'.heap L → Go p e below F Q T' (mkF m (pc + 3) Ls (v.toList ++ S))) : Go p e below F Q T (mkF m pc Ls (argsL.reverse ++ .ref a :: S)) := by
  obtain ⟨cq, q1, q2⟩ := E.cell
  have hpv : s.PrivateAt y := Cond.privateMethod_at (mvP hZ wp (args := #[]))
  have hsel : (Jvm.Cond.selects y.cls y y).before args s = true := by
    obtain ⟨c2, r2, m2, -, -, q3, -, kP, hkP, hkPi⟩ := Cond.selects_spec (mvT (args := args) hZ wn)
    exact Jvm.Stand.selects_self_of_private (hy2 ▸ findClass_of_methodNamed q3) hkP hkPi hpv (mvT hZ ws) hy
  obtain ⟨_, _, ⟨T', L', k', n'⟩, -, X', ⟨L, hq, e1, e2, e3⟩, st⟩ := X.privateBack hx hown (mvT hZ wl) (mvT hZ ws) hsel hpv (mvT hZ wc) hy (backOf (W := W) hM hZ wc wi hf hl) (g := mkF m pc Ls (argsL.reverse ++ .ref a :: S)) rfl hsize (Steps.refl _) (a := a) (by rw [eT]; exact q1) q2 (argsL := argsL) (rest := S) (lenOf hds hlen) rfl (by show 2 * 0 + _ ≤ _; omega) hd (fun _ _ => ⟨has, eT, hc, hs⟩)
  dsimp only [Pt.U, Pt.locs, Pt.cells, Pt.slots] at X' e1 e2 e3 st hq
  subst e1 e2 e3
  exact (k _ _ _ X' hq).tr st
end OwnMore

def Pg (Z : State) (h : Heap) (t : Addr) (n : Nat) (g : Nat → Int64) : Prop := ∃ c : Cell, Arr Z h t c .long ∧ c.slots.size = n ∧ ∀ j, j < n → c.slots[j]? = some (.long (g j))
def Pgs (Z : State) (h : Heap) (P : Addr) (n : Nat) (tp : Nat → Addr) : Prop := ∃ c : Cell, Arr Z h P c (.array .long) ∧ c.slots.size = n ∧ ∀ j, j < n → c.slots[j]? = some (.ref (tp j))
def own_np (wd : Int64) : Nat := (wd.toInt.toNat + 65535) / 65536
def own_pl (wd : Int64) (i : Nat) : Nat := min 65536 (wd.toInt.toNat - 65536 * i)
def RS (Z : State) (h : Heap) (a P : Addr) (tp : Nat → Addr) (sz wd : Int64) (W : Nat → Int64) : Prop :=
  Exa Z h a "com/example/gatefield/gatefield/model/RecordSet" ∧ Fld Z h a "com/example/gatefield/gatefield/model/RecordSet" "size" "J" (.long sz) ∧ Fld Z h a "com/example/gatefield/gatefield/model/RecordSet" "words" "J" (.long wd) ∧ Fld Z h a "com/example/gatefield/gatefield/model/RecordSet" "pages" "[[J" (.ref P) ∧ Pgs Z h P (own_np wd) tp ∧ (∀ i, i < own_np wd → Pg Z h (tp i) (own_pl wd i) (fun j => W (65536 * i + j))) ∧ (∀ i j, i < own_np wd → j < own_np wd → tp i = tp j → i = j) ∧ (∀ i, i < own_np wd → a ≠ tp i) ∧ (∀ i, i < own_np wd → P ≠ tp i)
theorem RS.set {Z : State} {h h' : Heap} {a P : Addr} {tp : Nat → Addr} {sz wd : Int64} {W : Nat → Int64} {i q : Nat} {x : Int64} (r : RS Z h a P tp sz wd W) (hi : i < own_np wd) (hq : q < own_pl wd i) (w : Wr h h' (tp i) q (.long x)) : RS Z h' a P tp sz wd (fun y => if y = 65536 * i + q then x else W y) := by
  have hq2 : q < 65536 := by unfold own_pl at hq; omega
  obtain ⟨rex, rfs, rfw, rfp, rpp, rpg, rinj, rna, rnP⟩ := r
  refine ⟨rex.wr w, rfs.other w (Or.inl (rna i hi)), rfw.other w (Or.inl (rna i hi)), rfp.other w (Or.inl (rna i hi)), ?_, ?_, rinj, rna, rnP⟩
  · obtain ⟨c, A, s1, s2⟩ := rpp
    exact ⟨c, A.other w (rnP i hi), s1, s2⟩
  · intro j hj
    obtain ⟨c, A, s1, s2⟩ := rpg j hj
    by_cases e : j = i
    · subst e
      refine ⟨_, A.same w, by rw [sz_set]; exact s1, fun k hk => ?_⟩
      by_cases e2 : k = q
      · subst e2
        simp only [if_pos]
        simp [Cell.setSlot, s1, hk]
      · show _ = some (Value.long (if 65536 * j + k = 65536 * j + q then x else W (65536 * j + k)))
        rw [if_neg (by omega), ← s2 k hk]
        simp [Cell.setSlot, Array.getElem?_setIfInBounds, Ne.symm e2]
    · have hk2 : ∀ k, k < own_pl wd j → k < 65536 := fun k hk => by unfold own_pl at hk; omega
      refine ⟨c, A.other w (fun q' => e (rinj j i hj hi q')), s1, fun k hk => ?_⟩
      have := hk2 k hk
      show _ = some (Value.long (if 65536 * j + k = 65536 * i + q then x else W (65536 * j + k)))
      rw [s2 k hk, if_neg (by omega)]

def own_minL (p1 : Int64) (p2 : Int64)  : Int64 := (if p2 < p1 then p2 else p1)
theorem d3_0 : decode jdk_29_method_70_code 0 = .ok (.lload_n 0, 1) := by decide +kernel
theorem d3_1 : decode jdk_29_method_70_code 1 = .ok (.lload_n 2, 1) := by decide +kernel
theorem d3_2 : decode jdk_29_method_70_code 2 = .ok (.lcmp, 1) := by decide +kernel
theorem d3_3 : decode jdk_29_method_70_code 3 = .ok (.ifCond .gt 7, 3) := by decide +kernel
theorem d3_6 : decode jdk_29_method_70_code 6 = .ok (.lload_n 0, 1) := by decide +kernel
theorem d3_7 : decode jdk_29_method_70_code 7 = .ok (.goto 4, 3) := by decide +kernel
theorem d3_10 : decode jdk_29_method_70_code 10 = .ok (.lload_n 2, 1) := by decide +kernel
theorem d3_11 : decode jdk_29_method_70_code 11 = .ok (.lreturn, 1) := by decide +kernel
theorem ef_rm3 (m_ : MethodId) (p1 : Int64) (p2 : Int64) : entryFrame m_ #[(.long p1), (.long p2)] 4 = mkF m_ 0 #[.val (.long p1), .second, .val (.long p2), .second] [] := by first | (simp [entryFrame, mkF, argsToLocals, Value.category]; done) | rfl
def Q3 (Z : State) (p1 : Int64) (p2 : Int64)  (h0 : Heap) (n0 : Nat) (v : Option Value) (h : Heap) (L : List Loc) : Prop := v = some (.long (own_minL p1 p2)) ∧ Fr n0 L ∧ h = h0
set_option maxRecDepth 65536 in
set_option maxHeartbeats 40000000 in
theorem rm3 (l : Launch) (Z : State) (a0 : Array Value) (hw : ∀ d ∈ tables_1, d.before a0 Z = true) (ws : List Jvm.Cond) (p1 : Int64) (p2 : Int64)  (h0 : Heap) (n0 : Nat) (Z0 : n0 ≤ h0.size)  :
    MetFree l (⟨"java/lang/Math", "min", "(JJ)J"⟩ : MethodName) (head1 (Jvm.Cond.code (⟨"java/lang/Math", "min", "(JJ)J"⟩ : MethodName) jdk_29_method_70_code 4 (some .long) :: ws) ({ frames := 0, cells := 0, slots := 0, locals := 0 } : Room)) (fun a_ U_ => a_ = #[(.long p1), (.long p2)] ∧ Z.Warmed39 U_.vm ∧ U_.heap = h0) (fun _ _ _ _ _ => True) (fun _ U_ o_ V_ => ∃ v_ L_, o_ = .returned v_ ∧ Q3 Z p1 p2 h0 n0 v_ V_.heap L_ ∧ FrameEnd U_ o_ V_ L_ ({ frames := 0, cells := 0, slots := 0, locals := 0 } : Room).cells ({ frames := 0, cells := 0, slots := 0, locals := 0 } : Room).slots) := by
  refine metOf (Q := Q3 Z p1 p2 h0 n0) (Jvm.Free.JP.mathPlain rfl (by decide +kernel)) ?_
  intro p_ e_ s_ m_ below meth c_ s₁ X0 hx hby hml hret hlk hZ hown hnm e0
  rw [ef_rm3]
  have N0 := Fr.nil n0
  show Go p_ e_ below _ _ s₁ (mkF m_ 0 #[.val (.long p1), .second, .val (.long p2), .second] [])
  refine Go.lloadN X0 hx (hb hby d3_0) rfl ?_
  refine Go.lloadN X0 hx (hb hby d3_1) rfl ?_
  refine Go.lcmp X0 hx (hb hby d3_2) ?_
  by_cases hc3_1 : p2 < p1
  · skip
    refine Go.ifYes X0 hx (pc' := 10) (hb hby d3_3) (XT.ll_gt_t hc3_1) (by decide) (by decide) ?_
    show Go p_ e_ below _ _ s₁ (mkF m_ 10 #[.val (.long p1), .second, .val (.long p2), .second] [])
    refine Go.lloadN X0 hx (hb hby d3_10) rfl ?_
    refine Go.retJ X0 hx hret hlk (hb hby d3_11) (by decide) (by decide) ?_
    exact ⟨by unfold own_minL; rw [if_pos hc3_1] <;> rfl, N0, e0⟩
  · skip
    refine Go.ifNo X0 hx (hb hby d3_3) (XT.ll_gt_f hc3_1) ?_
    show Go p_ e_ below _ _ s₁ (mkF m_ 6 #[.val (.long p1), .second, .val (.long p2), .second] [])
    refine Go.lloadN X0 hx (hb hby d3_6) rfl ?_
    refine Go.goto X0 hx (pc' := 11) (hb hby d3_7) (by decide) (by decide) ?_
    refine Go.retJ X0 hx hret hlk (hb hby d3_11) (by decide) (by decide) ?_
    exact ⟨by unfold own_minL; rw [if_neg hc3_1] <;> rfl, N0, e0⟩
def own_maxL (p1 : Int64) (p2 : Int64)  : Int64 := (if p1 < p2 then p2 else p1)
theorem d5_0 : decode jdk_29_method_66_code 0 = .ok (.lload_n 0, 1) := by decide +kernel
theorem d5_1 : decode jdk_29_method_66_code 1 = .ok (.lload_n 2, 1) := by decide +kernel
theorem d5_2 : decode jdk_29_method_66_code 2 = .ok (.lcmp, 1) := by decide +kernel
theorem d5_3 : decode jdk_29_method_66_code 3 = .ok (.ifCond .lt 7, 3) := by decide +kernel
theorem d5_6 : decode jdk_29_method_66_code 6 = .ok (.lload_n 0, 1) := by decide +kernel
theorem d5_7 : decode jdk_29_method_66_code 7 = .ok (.goto 4, 3) := by decide +kernel
theorem d5_10 : decode jdk_29_method_66_code 10 = .ok (.lload_n 2, 1) := by decide +kernel
theorem d5_11 : decode jdk_29_method_66_code 11 = .ok (.lreturn, 1) := by decide +kernel
theorem ef_rm5 (m_ : MethodId) (p1 : Int64) (p2 : Int64) : entryFrame m_ #[(.long p1), (.long p2)] 4 = mkF m_ 0 #[.val (.long p1), .second, .val (.long p2), .second] [] := by first | (simp [entryFrame, mkF, argsToLocals, Value.category]; done) | rfl
def Q5 (Z : State) (p1 : Int64) (p2 : Int64)  (h0 : Heap) (n0 : Nat) (v : Option Value) (h : Heap) (L : List Loc) : Prop := v = some (.long (own_maxL p1 p2)) ∧ Fr n0 L ∧ h = h0
set_option maxRecDepth 65536 in
set_option maxHeartbeats 40000000 in
theorem rm5 (l : Launch) (Z : State) (a0 : Array Value) (hw : ∀ d ∈ tables_1, d.before a0 Z = true) (ws : List Jvm.Cond) (p1 : Int64) (p2 : Int64)  (h0 : Heap) (n0 : Nat) (Z0 : n0 ≤ h0.size)  :
    MetFree l (⟨"java/lang/Math", "max", "(JJ)J"⟩ : MethodName) (head1 (Jvm.Cond.code (⟨"java/lang/Math", "max", "(JJ)J"⟩ : MethodName) jdk_29_method_66_code 4 (some .long) :: ws) ({ frames := 0, cells := 0, slots := 0, locals := 0 } : Room)) (fun a_ U_ => a_ = #[(.long p1), (.long p2)] ∧ Z.Warmed39 U_.vm ∧ U_.heap = h0) (fun _ _ _ _ _ => True) (fun _ U_ o_ V_ => ∃ v_ L_, o_ = .returned v_ ∧ Q5 Z p1 p2 h0 n0 v_ V_.heap L_ ∧ FrameEnd U_ o_ V_ L_ ({ frames := 0, cells := 0, slots := 0, locals := 0 } : Room).cells ({ frames := 0, cells := 0, slots := 0, locals := 0 } : Room).slots) := by
  refine metOf (Q := Q5 Z p1 p2 h0 n0) (Jvm.Free.JP.mathPlain rfl (by decide +kernel)) ?_
  intro p_ e_ s_ m_ below meth c_ s₁ X0 hx hby hml hret hlk hZ hown hnm e0
  rw [ef_rm5]
  have N0 := Fr.nil n0
  show Go p_ e_ below _ _ s₁ (mkF m_ 0 #[.val (.long p1), .second, .val (.long p2), .second] [])
  refine Go.lloadN X0 hx (hb hby d5_0) rfl ?_
  refine Go.lloadN X0 hx (hb hby d5_1) rfl ?_
  refine Go.lcmp X0 hx (hb hby d5_2) ?_
  by_cases hc3_1 : p1 < p2
  · skip
    refine Go.ifYes X0 hx (pc' := 10) (hb hby d5_3) (XT.ll_lt_t hc3_1) (by decide) (by decide) ?_
    show Go p_ e_ below _ _ s₁ (mkF m_ 10 #[.val (.long p1), .second, .val (.long p2), .second] [])
    refine Go.lloadN X0 hx (hb hby d5_10) rfl ?_
    refine Go.retJ X0 hx hret hlk (hb hby d5_11) (by decide) (by decide) ?_
    exact ⟨by unfold own_maxL; rw [if_pos hc3_1] <;> rfl, N0, e0⟩
  · skip
    refine Go.ifNo X0 hx (hb hby d5_3) (XT.ll_lt_f hc3_1) ?_
    show Go p_ e_ below _ _ s₁ (mkF m_ 6 #[.val (.long p1), .second, .val (.long p2), .second] [])
    refine Go.lloadN X0 hx (hb hby d5_6) rfl ?_
    refine Go.goto X0 hx (pc' := 11) (hb hby d5_7) (by decide) (by decide) ?_
    refine Go.retJ X0 hx hret hlk (hb hby d5_11) (by decide) (by decide) ?_
    exact ⟨by unfold own_maxL; rw [if_neg hc3_1] <;> rfl, N0, e0⟩
def own_nt (p1 : Int32)  : Int32 := (if (0 : Int32) < ((p1 ^^^ (-1 : Int32)) &&& (p1 - (1 : Int32))) then (if (65536 : Int32) < ((p1 ^^^ (-1 : Int32)) &&& (p1 - (1 : Int32))) then (if (256 : Int32) < ((((p1 ^^^ (-1 : Int32)) &&& (p1 - (1 : Int32))).toUInt32 >>> ((16 : Int32) &&& 31).toUInt32).toInt32) then (if (16 : Int32) < ((((((p1 ^^^ (-1 : Int32)) &&& (p1 - (1 : Int32))).toUInt32 >>> ((16 : Int32) &&& 31).toUInt32).toInt32).toUInt32 >>> ((8 : Int32) &&& 31).toUInt32).toInt32) then (if (4 : Int32) < ((((((((p1 ^^^ (-1 : Int32)) &&& (p1 - (1 : Int32))).toUInt32 >>> ((16 : Int32) &&& 31).toUInt32).toInt32).toUInt32 >>> ((8 : Int32) &&& 31).toUInt32).toInt32).toUInt32 >>> ((4 : Int32) &&& 31).toUInt32).toInt32) then ((31 : Int32) + ((((((((((((p1 ^^^ (-1 : Int32)) &&& (p1 - (1 : Int32))).toUInt32 >>> ((16 : Int32) &&& 31).toUInt32).toInt32).toUInt32 >>> ((8 : Int32) &&& 31).toUInt32).toInt32).toUInt32 >>> ((4 : Int32) &&& 31).toUInt32).toInt32).toUInt32 >>> ((2 : Int32) &&& 31).toUInt32).toInt32).toUInt32 >>> ((1 : Int32) &&& 31).toUInt32).toInt32)) else ((29 : Int32) + ((((((((((p1 ^^^ (-1 : Int32)) &&& (p1 - (1 : Int32))).toUInt32 >>> ((16 : Int32) &&& 31).toUInt32).toInt32).toUInt32 >>> ((8 : Int32) &&& 31).toUInt32).toInt32).toUInt32 >>> ((4 : Int32) &&& 31).toUInt32).toInt32).toUInt32 >>> ((1 : Int32) &&& 31).toUInt32).toInt32))) else (if (4 : Int32) < ((((((p1 ^^^ (-1 : Int32)) &&& (p1 - (1 : Int32))).toUInt32 >>> ((16 : Int32) &&& 31).toUInt32).toInt32).toUInt32 >>> ((8 : Int32) &&& 31).toUInt32).toInt32) then ((27 : Int32) + ((((((((((p1 ^^^ (-1 : Int32)) &&& (p1 - (1 : Int32))).toUInt32 >>> ((16 : Int32) &&& 31).toUInt32).toInt32).toUInt32 >>> ((8 : Int32) &&& 31).toUInt32).toInt32).toUInt32 >>> ((2 : Int32) &&& 31).toUInt32).toInt32).toUInt32 >>> ((1 : Int32) &&& 31).toUInt32).toInt32)) else ((25 : Int32) + ((((((((p1 ^^^ (-1 : Int32)) &&& (p1 - (1 : Int32))).toUInt32 >>> ((16 : Int32) &&& 31).toUInt32).toInt32).toUInt32 >>> ((8 : Int32) &&& 31).toUInt32).toInt32).toUInt32 >>> ((1 : Int32) &&& 31).toUInt32).toInt32)))) else (if (16 : Int32) < ((((p1 ^^^ (-1 : Int32)) &&& (p1 - (1 : Int32))).toUInt32 >>> ((16 : Int32) &&& 31).toUInt32).toInt32) then (if (4 : Int32) < ((((((p1 ^^^ (-1 : Int32)) &&& (p1 - (1 : Int32))).toUInt32 >>> ((16 : Int32) &&& 31).toUInt32).toInt32).toUInt32 >>> ((4 : Int32) &&& 31).toUInt32).toInt32) then ((23 : Int32) + ((((((((((p1 ^^^ (-1 : Int32)) &&& (p1 - (1 : Int32))).toUInt32 >>> ((16 : Int32) &&& 31).toUInt32).toInt32).toUInt32 >>> ((4 : Int32) &&& 31).toUInt32).toInt32).toUInt32 >>> ((2 : Int32) &&& 31).toUInt32).toInt32).toUInt32 >>> ((1 : Int32) &&& 31).toUInt32).toInt32)) else ((21 : Int32) + ((((((((p1 ^^^ (-1 : Int32)) &&& (p1 - (1 : Int32))).toUInt32 >>> ((16 : Int32) &&& 31).toUInt32).toInt32).toUInt32 >>> ((4 : Int32) &&& 31).toUInt32).toInt32).toUInt32 >>> ((1 : Int32) &&& 31).toUInt32).toInt32))) else (if (4 : Int32) < ((((p1 ^^^ (-1 : Int32)) &&& (p1 - (1 : Int32))).toUInt32 >>> ((16 : Int32) &&& 31).toUInt32).toInt32) then ((19 : Int32) + ((((((((p1 ^^^ (-1 : Int32)) &&& (p1 - (1 : Int32))).toUInt32 >>> ((16 : Int32) &&& 31).toUInt32).toInt32).toUInt32 >>> ((2 : Int32) &&& 31).toUInt32).toInt32).toUInt32 >>> ((1 : Int32) &&& 31).toUInt32).toInt32)) else ((17 : Int32) + ((((((p1 ^^^ (-1 : Int32)) &&& (p1 - (1 : Int32))).toUInt32 >>> ((16 : Int32) &&& 31).toUInt32).toInt32).toUInt32 >>> ((1 : Int32) &&& 31).toUInt32).toInt32))))) else (if (256 : Int32) < ((p1 ^^^ (-1 : Int32)) &&& (p1 - (1 : Int32))) then (if (16 : Int32) < ((((p1 ^^^ (-1 : Int32)) &&& (p1 - (1 : Int32))).toUInt32 >>> ((8 : Int32) &&& 31).toUInt32).toInt32) then (if (4 : Int32) < ((((((p1 ^^^ (-1 : Int32)) &&& (p1 - (1 : Int32))).toUInt32 >>> ((8 : Int32) &&& 31).toUInt32).toInt32).toUInt32 >>> ((4 : Int32) &&& 31).toUInt32).toInt32) then ((15 : Int32) + ((((((((((p1 ^^^ (-1 : Int32)) &&& (p1 - (1 : Int32))).toUInt32 >>> ((8 : Int32) &&& 31).toUInt32).toInt32).toUInt32 >>> ((4 : Int32) &&& 31).toUInt32).toInt32).toUInt32 >>> ((2 : Int32) &&& 31).toUInt32).toInt32).toUInt32 >>> ((1 : Int32) &&& 31).toUInt32).toInt32)) else ((13 : Int32) + ((((((((p1 ^^^ (-1 : Int32)) &&& (p1 - (1 : Int32))).toUInt32 >>> ((8 : Int32) &&& 31).toUInt32).toInt32).toUInt32 >>> ((4 : Int32) &&& 31).toUInt32).toInt32).toUInt32 >>> ((1 : Int32) &&& 31).toUInt32).toInt32))) else (if (4 : Int32) < ((((p1 ^^^ (-1 : Int32)) &&& (p1 - (1 : Int32))).toUInt32 >>> ((8 : Int32) &&& 31).toUInt32).toInt32) then ((11 : Int32) + ((((((((p1 ^^^ (-1 : Int32)) &&& (p1 - (1 : Int32))).toUInt32 >>> ((8 : Int32) &&& 31).toUInt32).toInt32).toUInt32 >>> ((2 : Int32) &&& 31).toUInt32).toInt32).toUInt32 >>> ((1 : Int32) &&& 31).toUInt32).toInt32)) else ((9 : Int32) + ((((((p1 ^^^ (-1 : Int32)) &&& (p1 - (1 : Int32))).toUInt32 >>> ((8 : Int32) &&& 31).toUInt32).toInt32).toUInt32 >>> ((1 : Int32) &&& 31).toUInt32).toInt32)))) else (if (16 : Int32) < ((p1 ^^^ (-1 : Int32)) &&& (p1 - (1 : Int32))) then (if (4 : Int32) < ((((p1 ^^^ (-1 : Int32)) &&& (p1 - (1 : Int32))).toUInt32 >>> ((4 : Int32) &&& 31).toUInt32).toInt32) then ((7 : Int32) + ((((((((p1 ^^^ (-1 : Int32)) &&& (p1 - (1 : Int32))).toUInt32 >>> ((4 : Int32) &&& 31).toUInt32).toInt32).toUInt32 >>> ((2 : Int32) &&& 31).toUInt32).toInt32).toUInt32 >>> ((1 : Int32) &&& 31).toUInt32).toInt32)) else ((5 : Int32) + ((((((p1 ^^^ (-1 : Int32)) &&& (p1 - (1 : Int32))).toUInt32 >>> ((4 : Int32) &&& 31).toUInt32).toInt32).toUInt32 >>> ((1 : Int32) &&& 31).toUInt32).toInt32))) else (if (4 : Int32) < ((p1 ^^^ (-1 : Int32)) &&& (p1 - (1 : Int32))) then ((3 : Int32) + ((((((p1 ^^^ (-1 : Int32)) &&& (p1 - (1 : Int32))).toUInt32 >>> ((2 : Int32) &&& 31).toUInt32).toInt32).toUInt32 >>> ((1 : Int32) &&& 31).toUInt32).toInt32)) else ((1 : Int32) + ((((p1 ^^^ (-1 : Int32)) &&& (p1 - (1 : Int32))).toUInt32 >>> ((1 : Int32) &&& 31).toUInt32).toInt32)))))) else (((p1 ^^^ (-1 : Int32)) &&& (p1 - (1 : Int32))) &&& (32 : Int32)))
theorem d9_0 : decode jdk_33_method_48_code 0 = .ok (.iload_n 0, 1) := by decide +kernel
theorem d9_1 : decode jdk_33_method_48_code 1 = .ok (.iconst (-1), 1) := by decide +kernel
theorem d9_2 : decode jdk_33_method_48_code 2 = .ok (.ixor, 1) := by decide +kernel
theorem d9_3 : decode jdk_33_method_48_code 3 = .ok (.iload_n 0, 1) := by decide +kernel
theorem d9_4 : decode jdk_33_method_48_code 4 = .ok (.iconst 1, 1) := by decide +kernel
theorem d9_5 : decode jdk_33_method_48_code 5 = .ok (.isub, 1) := by decide +kernel
theorem d9_6 : decode jdk_33_method_48_code 6 = .ok (.iand, 1) := by decide +kernel
theorem d9_7 : decode jdk_33_method_48_code 7 = .ok (.istore_n 0, 1) := by decide +kernel
theorem d9_8 : decode jdk_33_method_48_code 8 = .ok (.iload_n 0, 1) := by decide +kernel
theorem d9_9 : decode jdk_33_method_48_code 9 = .ok (.ifCond .gt 8, 3) := by decide +kernel
theorem d9_12 : decode jdk_33_method_48_code 12 = .ok (.iload_n 0, 1) := by decide +kernel
theorem d9_13 : decode jdk_33_method_48_code 13 = .ok (.bipush 32, 2) := by decide +kernel
theorem d9_15 : decode jdk_33_method_48_code 15 = .ok (.iand, 1) := by decide +kernel
theorem d9_16 : decode jdk_33_method_48_code 16 = .ok (.ireturn, 1) := by decide +kernel
theorem d9_17 : decode jdk_33_method_48_code 17 = .ok (.iconst 1, 1) := by decide +kernel
theorem d9_18 : decode jdk_33_method_48_code 18 = .ok (.istore_n 1, 1) := by decide +kernel
theorem d9_19 : decode jdk_33_method_48_code 19 = .ok (.iload_n 0, 1) := by decide +kernel
theorem d9_20 : decode jdk_33_method_48_code 20 = .ok (.ldc_w 264, 3) := by decide +kernel
theorem d9_23 : decode jdk_33_method_48_code 23 = .ok (.if_icmp .le 11, 3) := by decide +kernel
theorem d9_26 : decode jdk_33_method_48_code 26 = .ok (.iinc 1 16, 3) := by decide +kernel
theorem d9_29 : decode jdk_33_method_48_code 29 = .ok (.iload_n 0, 1) := by decide +kernel
theorem d9_30 : decode jdk_33_method_48_code 30 = .ok (.bipush 16, 2) := by decide +kernel
theorem d9_32 : decode jdk_33_method_48_code 32 = .ok (.iushr, 1) := by decide +kernel
theorem d9_33 : decode jdk_33_method_48_code 33 = .ok (.istore_n 0, 1) := by decide +kernel
theorem d9_34 : decode jdk_33_method_48_code 34 = .ok (.iload_n 0, 1) := by decide +kernel
theorem d9_35 : decode jdk_33_method_48_code 35 = .ok (.sipush 256, 3) := by decide +kernel
theorem d9_38 : decode jdk_33_method_48_code 38 = .ok (.if_icmp .le 11, 3) := by decide +kernel
theorem d9_41 : decode jdk_33_method_48_code 41 = .ok (.iinc 1 8, 3) := by decide +kernel
theorem d9_44 : decode jdk_33_method_48_code 44 = .ok (.iload_n 0, 1) := by decide +kernel
theorem d9_45 : decode jdk_33_method_48_code 45 = .ok (.bipush 8, 2) := by decide +kernel
theorem d9_47 : decode jdk_33_method_48_code 47 = .ok (.iushr, 1) := by decide +kernel
theorem d9_48 : decode jdk_33_method_48_code 48 = .ok (.istore_n 0, 1) := by decide +kernel
theorem d9_49 : decode jdk_33_method_48_code 49 = .ok (.iload_n 0, 1) := by decide +kernel
theorem d9_50 : decode jdk_33_method_48_code 50 = .ok (.bipush 16, 2) := by decide +kernel
theorem d9_52 : decode jdk_33_method_48_code 52 = .ok (.if_icmp .le 10, 3) := by decide +kernel
theorem d9_55 : decode jdk_33_method_48_code 55 = .ok (.iinc 1 4, 3) := by decide +kernel
theorem d9_58 : decode jdk_33_method_48_code 58 = .ok (.iload_n 0, 1) := by decide +kernel
theorem d9_59 : decode jdk_33_method_48_code 59 = .ok (.iconst 4, 1) := by decide +kernel
theorem d9_60 : decode jdk_33_method_48_code 60 = .ok (.iushr, 1) := by decide +kernel
theorem d9_61 : decode jdk_33_method_48_code 61 = .ok (.istore_n 0, 1) := by decide +kernel
theorem d9_62 : decode jdk_33_method_48_code 62 = .ok (.iload_n 0, 1) := by decide +kernel
theorem d9_63 : decode jdk_33_method_48_code 63 = .ok (.iconst 4, 1) := by decide +kernel
theorem d9_64 : decode jdk_33_method_48_code 64 = .ok (.if_icmp .le 10, 3) := by decide +kernel
theorem d9_67 : decode jdk_33_method_48_code 67 = .ok (.iinc 1 2, 3) := by decide +kernel
theorem d9_70 : decode jdk_33_method_48_code 70 = .ok (.iload_n 0, 1) := by decide +kernel
theorem d9_71 : decode jdk_33_method_48_code 71 = .ok (.iconst 2, 1) := by decide +kernel
theorem d9_72 : decode jdk_33_method_48_code 72 = .ok (.iushr, 1) := by decide +kernel
theorem d9_73 : decode jdk_33_method_48_code 73 = .ok (.istore_n 0, 1) := by decide +kernel
theorem d9_74 : decode jdk_33_method_48_code 74 = .ok (.iload_n 1, 1) := by decide +kernel
theorem d9_75 : decode jdk_33_method_48_code 75 = .ok (.iload_n 0, 1) := by decide +kernel
theorem d9_76 : decode jdk_33_method_48_code 76 = .ok (.iconst 1, 1) := by decide +kernel
theorem d9_77 : decode jdk_33_method_48_code 77 = .ok (.iushr, 1) := by decide +kernel
theorem d9_78 : decode jdk_33_method_48_code 78 = .ok (.iadd, 1) := by decide +kernel
theorem d9_79 : decode jdk_33_method_48_code 79 = .ok (.ireturn, 1) := by decide +kernel
theorem pn_9 : plainName "java/lang/Integer" = true := by first | (simp [plainName, overriddenIn]; done) | decide +kernel
theorem ef_rm9 (m_ : MethodId) (p1 : Int32) : entryFrame m_ #[(.int p1)] 2 = mkF m_ 0 #[.val (.int p1), .unset] [] := by first | (simp [entryFrame, mkF, argsToLocals, Value.category]; done) | rfl
def Q9 (Z : State) (p1 : Int32)  (h0 : Heap) (n0 : Nat) (v : Option Value) (h : Heap) (L : List Loc) : Prop := v = some (.int (own_nt p1)) ∧ Fr n0 L ∧ h = h0
set_option maxRecDepth 65536 in
set_option maxHeartbeats 40000000 in
theorem rm9 (l : Launch) (Z : State) (a0 : Array Value) (hw : ∀ d ∈ tables_1, d.before a0 Z = true) (ws : List Jvm.Cond) (p1 : Int32)  (h0 : Heap) (n0 : Nat) (Z0 : n0 ≤ h0.size)  :
    MetFree l (⟨"java/lang/Integer", "numberOfTrailingZeros", "(I)I"⟩ : MethodName) (head1 (Jvm.Cond.code (⟨"java/lang/Integer", "numberOfTrailingZeros", "(I)I"⟩ : MethodName) jdk_33_method_48_code 2 (some .int) :: ws) ({ frames := 0, cells := 0, slots := 0, locals := 0 } : Room)) (fun a_ U_ => a_ = #[(.int p1)] ∧ Z.Warmed39 U_.vm ∧ U_.heap = h0) (fun _ _ _ _ _ => True) (fun _ U_ o_ V_ => ∃ v_ L_, o_ = .returned v_ ∧ Q9 Z p1 h0 n0 v_ V_.heap L_ ∧ FrameEnd U_ o_ V_ L_ ({ frames := 0, cells := 0, slots := 0, locals := 0 } : Room).cells ({ frames := 0, cells := 0, slots := 0, locals := 0 } : Room).slots) := by
  refine metOf (Q := Q9 Z p1 h0 n0) (plainFor_of_name pn_9) ?_
  intro p_ e_ s_ m_ below meth c_ s₁ X0 hx hby hml hret hlk hZ hown hnm e0
  rw [ef_rm9]
  have N0 := Fr.nil n0
  show Go p_ e_ below _ _ s₁ (mkF m_ 0 #[.val (.int p1), .unset] [])
  refine Go.iloadN X0 hx (hb hby d9_0) rfl ?_
  refine Go.iconst X0 hx (-1 : Int32) (hb hby d9_1) rfl ?_
  refine Go.ixor X0 hx (hb hby d9_2) ?_
  refine Go.iloadN X0 hx (hb hby d9_3) rfl ?_
  refine Go.iconst X0 hx (1 : Int32) (hb hby d9_4) rfl ?_
  refine Go.isub X0 hx (hb hby d9_5) ?_
  refine Go.iand X0 hx (hb hby d9_6) ?_
  refine Go.istoreN X0 hx (l' := #[.val (.int ((p1 ^^^ (-1 : Int32)) &&& (p1 - (1 : Int32)))), .unset]) (hb hby d9_7) rfl ?_
  refine Go.iloadN X0 hx (hb hby d9_8) rfl ?_
  by_cases hc9_1 : (0 : Int32) < ((p1 ^^^ (-1 : Int32)) &&& (p1 - (1 : Int32)))
  · skip
    refine Go.ifYes X0 hx (pc' := 17) (hb hby d9_9) ((if0 _ _).trans (tlt hc9_1).2.2.1) (by decide) (by decide) ?_
    show Go p_ e_ below _ _ s₁ (mkF m_ 17 #[.val (.int ((p1 ^^^ (-1 : Int32)) &&& (p1 - (1 : Int32)))), .unset] [])
    refine Go.iconst X0 hx (1 : Int32) (hb hby d9_17) rfl ?_
    refine Go.istoreN X0 hx (l' := #[.val (.int ((p1 ^^^ (-1 : Int32)) &&& (p1 - (1 : Int32)))), .val (.int (1 : Int32))]) (hb hby d9_18) rfl ?_
    refine Go.iloadN X0 hx (hb hby d9_19) rfl ?_
    refine Go.ldcWI X0 hx hZ hown (hw _ (List.mem_of_getElem? (i := 57) rfl)) (hb hby d9_20) ?_
    by_cases hc23_2 : (65536 : Int32) < ((p1 ^^^ (-1 : Int32)) &&& (p1 - (1 : Int32)))
    · skip
      refine Go.icmpNo X0 hx (hb hby d9_23) (tlt hc23_2).2.2.2 ?_
      show Go p_ e_ below _ _ s₁ (mkF m_ 26 #[.val (.int ((p1 ^^^ (-1 : Int32)) &&& (p1 - (1 : Int32)))), .val (.int (1 : Int32))] [])
      refine Go.iincF X0 hx (l' := #[.val (.int ((p1 ^^^ (-1 : Int32)) &&& (p1 - (1 : Int32)))), .val (.int (17 : Int32))]) (16 : Int32) (17 : Int32) (hb hby d9_26) rfl (by decide) rfl rfl ?_
      refine Go.iloadN X0 hx (hb hby d9_29) rfl ?_
      refine Go.bipush X0 hx (16 : Int32) (hb hby d9_30) rfl ?_
      refine Go.iushr X0 hx (hb hby d9_32) ?_
      refine Go.istoreN X0 hx (l' := #[.val (.int ((((p1 ^^^ (-1 : Int32)) &&& (p1 - (1 : Int32))).toUInt32 >>> ((16 : Int32) &&& 31).toUInt32).toInt32)), .val (.int (17 : Int32))]) (hb hby d9_33) rfl ?_
      refine Go.iloadN X0 hx (hb hby d9_34) rfl ?_
      refine Go.sipush X0 hx (256 : Int32) (hb hby d9_35) rfl ?_
      by_cases hc38_3 : (256 : Int32) < ((((p1 ^^^ (-1 : Int32)) &&& (p1 - (1 : Int32))).toUInt32 >>> ((16 : Int32) &&& 31).toUInt32).toInt32)
      · skip
        refine Go.icmpNo X0 hx (hb hby d9_38) (tlt hc38_3).2.2.2 ?_
        show Go p_ e_ below _ _ s₁ (mkF m_ 41 #[.val (.int ((((p1 ^^^ (-1 : Int32)) &&& (p1 - (1 : Int32))).toUInt32 >>> ((16 : Int32) &&& 31).toUInt32).toInt32)), .val (.int (17 : Int32))] [])
        refine Go.iincF X0 hx (l' := #[.val (.int ((((p1 ^^^ (-1 : Int32)) &&& (p1 - (1 : Int32))).toUInt32 >>> ((16 : Int32) &&& 31).toUInt32).toInt32)), .val (.int (25 : Int32))]) (8 : Int32) (25 : Int32) (hb hby d9_41) rfl (by decide) rfl rfl ?_
        refine Go.iloadN X0 hx (hb hby d9_44) rfl ?_
        refine Go.bipush X0 hx (8 : Int32) (hb hby d9_45) rfl ?_
        refine Go.iushr X0 hx (hb hby d9_47) ?_
        refine Go.istoreN X0 hx (l' := #[.val (.int ((((((p1 ^^^ (-1 : Int32)) &&& (p1 - (1 : Int32))).toUInt32 >>> ((16 : Int32) &&& 31).toUInt32).toInt32).toUInt32 >>> ((8 : Int32) &&& 31).toUInt32).toInt32)), .val (.int (25 : Int32))]) (hb hby d9_48) rfl ?_
        refine Go.iloadN X0 hx (hb hby d9_49) rfl ?_
        refine Go.bipush X0 hx (16 : Int32) (hb hby d9_50) rfl ?_
        by_cases hc52_4 : (16 : Int32) < ((((((p1 ^^^ (-1 : Int32)) &&& (p1 - (1 : Int32))).toUInt32 >>> ((16 : Int32) &&& 31).toUInt32).toInt32).toUInt32 >>> ((8 : Int32) &&& 31).toUInt32).toInt32)
        · skip
          refine Go.icmpNo X0 hx (hb hby d9_52) (tlt hc52_4).2.2.2 ?_
          show Go p_ e_ below _ _ s₁ (mkF m_ 55 #[.val (.int ((((((p1 ^^^ (-1 : Int32)) &&& (p1 - (1 : Int32))).toUInt32 >>> ((16 : Int32) &&& 31).toUInt32).toInt32).toUInt32 >>> ((8 : Int32) &&& 31).toUInt32).toInt32)), .val (.int (25 : Int32))] [])
          refine Go.iincF X0 hx (l' := #[.val (.int ((((((p1 ^^^ (-1 : Int32)) &&& (p1 - (1 : Int32))).toUInt32 >>> ((16 : Int32) &&& 31).toUInt32).toInt32).toUInt32 >>> ((8 : Int32) &&& 31).toUInt32).toInt32)), .val (.int (29 : Int32))]) (4 : Int32) (29 : Int32) (hb hby d9_55) rfl (by decide) rfl rfl ?_
          refine Go.iloadN X0 hx (hb hby d9_58) rfl ?_
          refine Go.iconst X0 hx (4 : Int32) (hb hby d9_59) rfl ?_
          refine Go.iushr X0 hx (hb hby d9_60) ?_
          refine Go.istoreN X0 hx (l' := #[.val (.int ((((((((p1 ^^^ (-1 : Int32)) &&& (p1 - (1 : Int32))).toUInt32 >>> ((16 : Int32) &&& 31).toUInt32).toInt32).toUInt32 >>> ((8 : Int32) &&& 31).toUInt32).toInt32).toUInt32 >>> ((4 : Int32) &&& 31).toUInt32).toInt32)), .val (.int (29 : Int32))]) (hb hby d9_61) rfl ?_
          refine Go.iloadN X0 hx (hb hby d9_62) rfl ?_
          refine Go.iconst X0 hx (4 : Int32) (hb hby d9_63) rfl ?_
          by_cases hc64_5 : (4 : Int32) < ((((((((p1 ^^^ (-1 : Int32)) &&& (p1 - (1 : Int32))).toUInt32 >>> ((16 : Int32) &&& 31).toUInt32).toInt32).toUInt32 >>> ((8 : Int32) &&& 31).toUInt32).toInt32).toUInt32 >>> ((4 : Int32) &&& 31).toUInt32).toInt32)
          · skip
            refine Go.icmpNo X0 hx (hb hby d9_64) (tlt hc64_5).2.2.2 ?_
            show Go p_ e_ below _ _ s₁ (mkF m_ 67 #[.val (.int ((((((((p1 ^^^ (-1 : Int32)) &&& (p1 - (1 : Int32))).toUInt32 >>> ((16 : Int32) &&& 31).toUInt32).toInt32).toUInt32 >>> ((8 : Int32) &&& 31).toUInt32).toInt32).toUInt32 >>> ((4 : Int32) &&& 31).toUInt32).toInt32)), .val (.int (29 : Int32))] [])
            refine Go.iincF X0 hx (l' := #[.val (.int ((((((((p1 ^^^ (-1 : Int32)) &&& (p1 - (1 : Int32))).toUInt32 >>> ((16 : Int32) &&& 31).toUInt32).toInt32).toUInt32 >>> ((8 : Int32) &&& 31).toUInt32).toInt32).toUInt32 >>> ((4 : Int32) &&& 31).toUInt32).toInt32)), .val (.int (31 : Int32))]) (2 : Int32) (31 : Int32) (hb hby d9_67) rfl (by decide) rfl rfl ?_
            refine Go.iloadN X0 hx (hb hby d9_70) rfl ?_
            refine Go.iconst X0 hx (2 : Int32) (hb hby d9_71) rfl ?_
            refine Go.iushr X0 hx (hb hby d9_72) ?_
            refine Go.istoreN X0 hx (l' := #[.val (.int ((((((((((p1 ^^^ (-1 : Int32)) &&& (p1 - (1 : Int32))).toUInt32 >>> ((16 : Int32) &&& 31).toUInt32).toInt32).toUInt32 >>> ((8 : Int32) &&& 31).toUInt32).toInt32).toUInt32 >>> ((4 : Int32) &&& 31).toUInt32).toInt32).toUInt32 >>> ((2 : Int32) &&& 31).toUInt32).toInt32)), .val (.int (31 : Int32))]) (hb hby d9_73) rfl ?_
            refine Go.iloadN X0 hx (hb hby d9_74) rfl ?_
            refine Go.iloadN X0 hx (hb hby d9_75) rfl ?_
            refine Go.iconst X0 hx (1 : Int32) (hb hby d9_76) rfl ?_
            refine Go.iushr X0 hx (hb hby d9_77) ?_
            refine Go.iadd X0 hx (hb hby d9_78) ?_
            refine Go.retI X0 hx hret hlk (hb hby d9_79) (by decide) (by decide) ?_
            exact ⟨by unfold own_nt; rw [if_pos hc9_1, if_pos hc23_2, if_pos hc38_3, if_pos hc52_4, if_pos hc64_5] <;> rfl, N0, e0⟩
          · skip
            refine Go.icmpYes X0 hx (pc' := 74) (hb hby d9_64) (flt hc64_5).2.2.2 (by decide) (by decide) ?_
            show Go p_ e_ below _ _ s₁ (mkF m_ 74 #[.val (.int ((((((((p1 ^^^ (-1 : Int32)) &&& (p1 - (1 : Int32))).toUInt32 >>> ((16 : Int32) &&& 31).toUInt32).toInt32).toUInt32 >>> ((8 : Int32) &&& 31).toUInt32).toInt32).toUInt32 >>> ((4 : Int32) &&& 31).toUInt32).toInt32)), .val (.int (29 : Int32))] [])
            refine Go.iloadN X0 hx (hb hby d9_74) rfl ?_
            refine Go.iloadN X0 hx (hb hby d9_75) rfl ?_
            refine Go.iconst X0 hx (1 : Int32) (hb hby d9_76) rfl ?_
            refine Go.iushr X0 hx (hb hby d9_77) ?_
            refine Go.iadd X0 hx (hb hby d9_78) ?_
            refine Go.retI X0 hx hret hlk (hb hby d9_79) (by decide) (by decide) ?_
            exact ⟨by unfold own_nt; rw [if_pos hc9_1, if_pos hc23_2, if_pos hc38_3, if_pos hc52_4, if_neg hc64_5] <;> rfl, N0, e0⟩
        · skip
          refine Go.icmpYes X0 hx (pc' := 62) (hb hby d9_52) (flt hc52_4).2.2.2 (by decide) (by decide) ?_
          show Go p_ e_ below _ _ s₁ (mkF m_ 62 #[.val (.int ((((((p1 ^^^ (-1 : Int32)) &&& (p1 - (1 : Int32))).toUInt32 >>> ((16 : Int32) &&& 31).toUInt32).toInt32).toUInt32 >>> ((8 : Int32) &&& 31).toUInt32).toInt32)), .val (.int (25 : Int32))] [])
          refine Go.iloadN X0 hx (hb hby d9_62) rfl ?_
          refine Go.iconst X0 hx (4 : Int32) (hb hby d9_63) rfl ?_
          by_cases hc64_6 : (4 : Int32) < ((((((p1 ^^^ (-1 : Int32)) &&& (p1 - (1 : Int32))).toUInt32 >>> ((16 : Int32) &&& 31).toUInt32).toInt32).toUInt32 >>> ((8 : Int32) &&& 31).toUInt32).toInt32)
          · skip
            refine Go.icmpNo X0 hx (hb hby d9_64) (tlt hc64_6).2.2.2 ?_
            show Go p_ e_ below _ _ s₁ (mkF m_ 67 #[.val (.int ((((((p1 ^^^ (-1 : Int32)) &&& (p1 - (1 : Int32))).toUInt32 >>> ((16 : Int32) &&& 31).toUInt32).toInt32).toUInt32 >>> ((8 : Int32) &&& 31).toUInt32).toInt32)), .val (.int (25 : Int32))] [])
            refine Go.iincF X0 hx (l' := #[.val (.int ((((((p1 ^^^ (-1 : Int32)) &&& (p1 - (1 : Int32))).toUInt32 >>> ((16 : Int32) &&& 31).toUInt32).toInt32).toUInt32 >>> ((8 : Int32) &&& 31).toUInt32).toInt32)), .val (.int (27 : Int32))]) (2 : Int32) (27 : Int32) (hb hby d9_67) rfl (by decide) rfl rfl ?_
            refine Go.iloadN X0 hx (hb hby d9_70) rfl ?_
            refine Go.iconst X0 hx (2 : Int32) (hb hby d9_71) rfl ?_
            refine Go.iushr X0 hx (hb hby d9_72) ?_
            refine Go.istoreN X0 hx (l' := #[.val (.int ((((((((p1 ^^^ (-1 : Int32)) &&& (p1 - (1 : Int32))).toUInt32 >>> ((16 : Int32) &&& 31).toUInt32).toInt32).toUInt32 >>> ((8 : Int32) &&& 31).toUInt32).toInt32).toUInt32 >>> ((2 : Int32) &&& 31).toUInt32).toInt32)), .val (.int (27 : Int32))]) (hb hby d9_73) rfl ?_
            refine Go.iloadN X0 hx (hb hby d9_74) rfl ?_
            refine Go.iloadN X0 hx (hb hby d9_75) rfl ?_
            refine Go.iconst X0 hx (1 : Int32) (hb hby d9_76) rfl ?_
            refine Go.iushr X0 hx (hb hby d9_77) ?_
            refine Go.iadd X0 hx (hb hby d9_78) ?_
            refine Go.retI X0 hx hret hlk (hb hby d9_79) (by decide) (by decide) ?_
            exact ⟨by unfold own_nt; rw [if_pos hc9_1, if_pos hc23_2, if_pos hc38_3, if_neg hc52_4, if_pos hc64_6] <;> rfl, N0, e0⟩
          · skip
            refine Go.icmpYes X0 hx (pc' := 74) (hb hby d9_64) (flt hc64_6).2.2.2 (by decide) (by decide) ?_
            show Go p_ e_ below _ _ s₁ (mkF m_ 74 #[.val (.int ((((((p1 ^^^ (-1 : Int32)) &&& (p1 - (1 : Int32))).toUInt32 >>> ((16 : Int32) &&& 31).toUInt32).toInt32).toUInt32 >>> ((8 : Int32) &&& 31).toUInt32).toInt32)), .val (.int (25 : Int32))] [])
            refine Go.iloadN X0 hx (hb hby d9_74) rfl ?_
            refine Go.iloadN X0 hx (hb hby d9_75) rfl ?_
            refine Go.iconst X0 hx (1 : Int32) (hb hby d9_76) rfl ?_
            refine Go.iushr X0 hx (hb hby d9_77) ?_
            refine Go.iadd X0 hx (hb hby d9_78) ?_
            refine Go.retI X0 hx hret hlk (hb hby d9_79) (by decide) (by decide) ?_
            exact ⟨by unfold own_nt; rw [if_pos hc9_1, if_pos hc23_2, if_pos hc38_3, if_neg hc52_4, if_neg hc64_6] <;> rfl, N0, e0⟩
      · skip
        refine Go.icmpYes X0 hx (pc' := 49) (hb hby d9_38) (flt hc38_3).2.2.2 (by decide) (by decide) ?_
        show Go p_ e_ below _ _ s₁ (mkF m_ 49 #[.val (.int ((((p1 ^^^ (-1 : Int32)) &&& (p1 - (1 : Int32))).toUInt32 >>> ((16 : Int32) &&& 31).toUInt32).toInt32)), .val (.int (17 : Int32))] [])
        refine Go.iloadN X0 hx (hb hby d9_49) rfl ?_
        refine Go.bipush X0 hx (16 : Int32) (hb hby d9_50) rfl ?_
        by_cases hc52_7 : (16 : Int32) < ((((p1 ^^^ (-1 : Int32)) &&& (p1 - (1 : Int32))).toUInt32 >>> ((16 : Int32) &&& 31).toUInt32).toInt32)
        · skip
          refine Go.icmpNo X0 hx (hb hby d9_52) (tlt hc52_7).2.2.2 ?_
          show Go p_ e_ below _ _ s₁ (mkF m_ 55 #[.val (.int ((((p1 ^^^ (-1 : Int32)) &&& (p1 - (1 : Int32))).toUInt32 >>> ((16 : Int32) &&& 31).toUInt32).toInt32)), .val (.int (17 : Int32))] [])
          refine Go.iincF X0 hx (l' := #[.val (.int ((((p1 ^^^ (-1 : Int32)) &&& (p1 - (1 : Int32))).toUInt32 >>> ((16 : Int32) &&& 31).toUInt32).toInt32)), .val (.int (21 : Int32))]) (4 : Int32) (21 : Int32) (hb hby d9_55) rfl (by decide) rfl rfl ?_
          refine Go.iloadN X0 hx (hb hby d9_58) rfl ?_
          refine Go.iconst X0 hx (4 : Int32) (hb hby d9_59) rfl ?_
          refine Go.iushr X0 hx (hb hby d9_60) ?_
          refine Go.istoreN X0 hx (l' := #[.val (.int ((((((p1 ^^^ (-1 : Int32)) &&& (p1 - (1 : Int32))).toUInt32 >>> ((16 : Int32) &&& 31).toUInt32).toInt32).toUInt32 >>> ((4 : Int32) &&& 31).toUInt32).toInt32)), .val (.int (21 : Int32))]) (hb hby d9_61) rfl ?_
          refine Go.iloadN X0 hx (hb hby d9_62) rfl ?_
          refine Go.iconst X0 hx (4 : Int32) (hb hby d9_63) rfl ?_
          by_cases hc64_8 : (4 : Int32) < ((((((p1 ^^^ (-1 : Int32)) &&& (p1 - (1 : Int32))).toUInt32 >>> ((16 : Int32) &&& 31).toUInt32).toInt32).toUInt32 >>> ((4 : Int32) &&& 31).toUInt32).toInt32)
          · skip
            refine Go.icmpNo X0 hx (hb hby d9_64) (tlt hc64_8).2.2.2 ?_
            show Go p_ e_ below _ _ s₁ (mkF m_ 67 #[.val (.int ((((((p1 ^^^ (-1 : Int32)) &&& (p1 - (1 : Int32))).toUInt32 >>> ((16 : Int32) &&& 31).toUInt32).toInt32).toUInt32 >>> ((4 : Int32) &&& 31).toUInt32).toInt32)), .val (.int (21 : Int32))] [])
            refine Go.iincF X0 hx (l' := #[.val (.int ((((((p1 ^^^ (-1 : Int32)) &&& (p1 - (1 : Int32))).toUInt32 >>> ((16 : Int32) &&& 31).toUInt32).toInt32).toUInt32 >>> ((4 : Int32) &&& 31).toUInt32).toInt32)), .val (.int (23 : Int32))]) (2 : Int32) (23 : Int32) (hb hby d9_67) rfl (by decide) rfl rfl ?_
            refine Go.iloadN X0 hx (hb hby d9_70) rfl ?_
            refine Go.iconst X0 hx (2 : Int32) (hb hby d9_71) rfl ?_
            refine Go.iushr X0 hx (hb hby d9_72) ?_
            refine Go.istoreN X0 hx (l' := #[.val (.int ((((((((p1 ^^^ (-1 : Int32)) &&& (p1 - (1 : Int32))).toUInt32 >>> ((16 : Int32) &&& 31).toUInt32).toInt32).toUInt32 >>> ((4 : Int32) &&& 31).toUInt32).toInt32).toUInt32 >>> ((2 : Int32) &&& 31).toUInt32).toInt32)), .val (.int (23 : Int32))]) (hb hby d9_73) rfl ?_
            refine Go.iloadN X0 hx (hb hby d9_74) rfl ?_
            refine Go.iloadN X0 hx (hb hby d9_75) rfl ?_
            refine Go.iconst X0 hx (1 : Int32) (hb hby d9_76) rfl ?_
            refine Go.iushr X0 hx (hb hby d9_77) ?_
            refine Go.iadd X0 hx (hb hby d9_78) ?_
            refine Go.retI X0 hx hret hlk (hb hby d9_79) (by decide) (by decide) ?_
            exact ⟨by unfold own_nt; rw [if_pos hc9_1, if_pos hc23_2, if_neg hc38_3, if_pos hc52_7, if_pos hc64_8] <;> rfl, N0, e0⟩
          · skip
            refine Go.icmpYes X0 hx (pc' := 74) (hb hby d9_64) (flt hc64_8).2.2.2 (by decide) (by decide) ?_
            show Go p_ e_ below _ _ s₁ (mkF m_ 74 #[.val (.int ((((((p1 ^^^ (-1 : Int32)) &&& (p1 - (1 : Int32))).toUInt32 >>> ((16 : Int32) &&& 31).toUInt32).toInt32).toUInt32 >>> ((4 : Int32) &&& 31).toUInt32).toInt32)), .val (.int (21 : Int32))] [])
            refine Go.iloadN X0 hx (hb hby d9_74) rfl ?_
            refine Go.iloadN X0 hx (hb hby d9_75) rfl ?_
            refine Go.iconst X0 hx (1 : Int32) (hb hby d9_76) rfl ?_
            refine Go.iushr X0 hx (hb hby d9_77) ?_
            refine Go.iadd X0 hx (hb hby d9_78) ?_
            refine Go.retI X0 hx hret hlk (hb hby d9_79) (by decide) (by decide) ?_
            exact ⟨by unfold own_nt; rw [if_pos hc9_1, if_pos hc23_2, if_neg hc38_3, if_pos hc52_7, if_neg hc64_8] <;> rfl, N0, e0⟩
        · skip
          refine Go.icmpYes X0 hx (pc' := 62) (hb hby d9_52) (flt hc52_7).2.2.2 (by decide) (by decide) ?_
          show Go p_ e_ below _ _ s₁ (mkF m_ 62 #[.val (.int ((((p1 ^^^ (-1 : Int32)) &&& (p1 - (1 : Int32))).toUInt32 >>> ((16 : Int32) &&& 31).toUInt32).toInt32)), .val (.int (17 : Int32))] [])
          refine Go.iloadN X0 hx (hb hby d9_62) rfl ?_
          refine Go.iconst X0 hx (4 : Int32) (hb hby d9_63) rfl ?_
          by_cases hc64_9 : (4 : Int32) < ((((p1 ^^^ (-1 : Int32)) &&& (p1 - (1 : Int32))).toUInt32 >>> ((16 : Int32) &&& 31).toUInt32).toInt32)
          · skip
            refine Go.icmpNo X0 hx (hb hby d9_64) (tlt hc64_9).2.2.2 ?_
            show Go p_ e_ below _ _ s₁ (mkF m_ 67 #[.val (.int ((((p1 ^^^ (-1 : Int32)) &&& (p1 - (1 : Int32))).toUInt32 >>> ((16 : Int32) &&& 31).toUInt32).toInt32)), .val (.int (17 : Int32))] [])
            refine Go.iincF X0 hx (l' := #[.val (.int ((((p1 ^^^ (-1 : Int32)) &&& (p1 - (1 : Int32))).toUInt32 >>> ((16 : Int32) &&& 31).toUInt32).toInt32)), .val (.int (19 : Int32))]) (2 : Int32) (19 : Int32) (hb hby d9_67) rfl (by decide) rfl rfl ?_
            refine Go.iloadN X0 hx (hb hby d9_70) rfl ?_
            refine Go.iconst X0 hx (2 : Int32) (hb hby d9_71) rfl ?_
            refine Go.iushr X0 hx (hb hby d9_72) ?_
            refine Go.istoreN X0 hx (l' := #[.val (.int ((((((p1 ^^^ (-1 : Int32)) &&& (p1 - (1 : Int32))).toUInt32 >>> ((16 : Int32) &&& 31).toUInt32).toInt32).toUInt32 >>> ((2 : Int32) &&& 31).toUInt32).toInt32)), .val (.int (19 : Int32))]) (hb hby d9_73) rfl ?_
            refine Go.iloadN X0 hx (hb hby d9_74) rfl ?_
            refine Go.iloadN X0 hx (hb hby d9_75) rfl ?_
            refine Go.iconst X0 hx (1 : Int32) (hb hby d9_76) rfl ?_
            refine Go.iushr X0 hx (hb hby d9_77) ?_
            refine Go.iadd X0 hx (hb hby d9_78) ?_
            refine Go.retI X0 hx hret hlk (hb hby d9_79) (by decide) (by decide) ?_
            exact ⟨by unfold own_nt; rw [if_pos hc9_1, if_pos hc23_2, if_neg hc38_3, if_neg hc52_7, if_pos hc64_9] <;> rfl, N0, e0⟩
          · skip
            refine Go.icmpYes X0 hx (pc' := 74) (hb hby d9_64) (flt hc64_9).2.2.2 (by decide) (by decide) ?_
            show Go p_ e_ below _ _ s₁ (mkF m_ 74 #[.val (.int ((((p1 ^^^ (-1 : Int32)) &&& (p1 - (1 : Int32))).toUInt32 >>> ((16 : Int32) &&& 31).toUInt32).toInt32)), .val (.int (17 : Int32))] [])
            refine Go.iloadN X0 hx (hb hby d9_74) rfl ?_
            refine Go.iloadN X0 hx (hb hby d9_75) rfl ?_
            refine Go.iconst X0 hx (1 : Int32) (hb hby d9_76) rfl ?_
            refine Go.iushr X0 hx (hb hby d9_77) ?_
            refine Go.iadd X0 hx (hb hby d9_78) ?_
            refine Go.retI X0 hx hret hlk (hb hby d9_79) (by decide) (by decide) ?_
            exact ⟨by unfold own_nt; rw [if_pos hc9_1, if_pos hc23_2, if_neg hc38_3, if_neg hc52_7, if_neg hc64_9] <;> rfl, N0, e0⟩
    · skip
      refine Go.icmpYes X0 hx (pc' := 34) (hb hby d9_23) (flt hc23_2).2.2.2 (by decide) (by decide) ?_
      show Go p_ e_ below _ _ s₁ (mkF m_ 34 #[.val (.int ((p1 ^^^ (-1 : Int32)) &&& (p1 - (1 : Int32)))), .val (.int (1 : Int32))] [])
      refine Go.iloadN X0 hx (hb hby d9_34) rfl ?_
      refine Go.sipush X0 hx (256 : Int32) (hb hby d9_35) rfl ?_
      by_cases hc38_10 : (256 : Int32) < ((p1 ^^^ (-1 : Int32)) &&& (p1 - (1 : Int32)))
      · skip
        refine Go.icmpNo X0 hx (hb hby d9_38) (tlt hc38_10).2.2.2 ?_
        show Go p_ e_ below _ _ s₁ (mkF m_ 41 #[.val (.int ((p1 ^^^ (-1 : Int32)) &&& (p1 - (1 : Int32)))), .val (.int (1 : Int32))] [])
        refine Go.iincF X0 hx (l' := #[.val (.int ((p1 ^^^ (-1 : Int32)) &&& (p1 - (1 : Int32)))), .val (.int (9 : Int32))]) (8 : Int32) (9 : Int32) (hb hby d9_41) rfl (by decide) rfl rfl ?_
        refine Go.iloadN X0 hx (hb hby d9_44) rfl ?_
        refine Go.bipush X0 hx (8 : Int32) (hb hby d9_45) rfl ?_
        refine Go.iushr X0 hx (hb hby d9_47) ?_
        refine Go.istoreN X0 hx (l' := #[.val (.int ((((p1 ^^^ (-1 : Int32)) &&& (p1 - (1 : Int32))).toUInt32 >>> ((8 : Int32) &&& 31).toUInt32).toInt32)), .val (.int (9 : Int32))]) (hb hby d9_48) rfl ?_
        refine Go.iloadN X0 hx (hb hby d9_49) rfl ?_
        refine Go.bipush X0 hx (16 : Int32) (hb hby d9_50) rfl ?_
        by_cases hc52_11 : (16 : Int32) < ((((p1 ^^^ (-1 : Int32)) &&& (p1 - (1 : Int32))).toUInt32 >>> ((8 : Int32) &&& 31).toUInt32).toInt32)
        · skip
          refine Go.icmpNo X0 hx (hb hby d9_52) (tlt hc52_11).2.2.2 ?_
          show Go p_ e_ below _ _ s₁ (mkF m_ 55 #[.val (.int ((((p1 ^^^ (-1 : Int32)) &&& (p1 - (1 : Int32))).toUInt32 >>> ((8 : Int32) &&& 31).toUInt32).toInt32)), .val (.int (9 : Int32))] [])
          refine Go.iincF X0 hx (l' := #[.val (.int ((((p1 ^^^ (-1 : Int32)) &&& (p1 - (1 : Int32))).toUInt32 >>> ((8 : Int32) &&& 31).toUInt32).toInt32)), .val (.int (13 : Int32))]) (4 : Int32) (13 : Int32) (hb hby d9_55) rfl (by decide) rfl rfl ?_
          refine Go.iloadN X0 hx (hb hby d9_58) rfl ?_
          refine Go.iconst X0 hx (4 : Int32) (hb hby d9_59) rfl ?_
          refine Go.iushr X0 hx (hb hby d9_60) ?_
          refine Go.istoreN X0 hx (l' := #[.val (.int ((((((p1 ^^^ (-1 : Int32)) &&& (p1 - (1 : Int32))).toUInt32 >>> ((8 : Int32) &&& 31).toUInt32).toInt32).toUInt32 >>> ((4 : Int32) &&& 31).toUInt32).toInt32)), .val (.int (13 : Int32))]) (hb hby d9_61) rfl ?_
          refine Go.iloadN X0 hx (hb hby d9_62) rfl ?_
          refine Go.iconst X0 hx (4 : Int32) (hb hby d9_63) rfl ?_
          by_cases hc64_12 : (4 : Int32) < ((((((p1 ^^^ (-1 : Int32)) &&& (p1 - (1 : Int32))).toUInt32 >>> ((8 : Int32) &&& 31).toUInt32).toInt32).toUInt32 >>> ((4 : Int32) &&& 31).toUInt32).toInt32)
          · skip
            refine Go.icmpNo X0 hx (hb hby d9_64) (tlt hc64_12).2.2.2 ?_
            show Go p_ e_ below _ _ s₁ (mkF m_ 67 #[.val (.int ((((((p1 ^^^ (-1 : Int32)) &&& (p1 - (1 : Int32))).toUInt32 >>> ((8 : Int32) &&& 31).toUInt32).toInt32).toUInt32 >>> ((4 : Int32) &&& 31).toUInt32).toInt32)), .val (.int (13 : Int32))] [])
            refine Go.iincF X0 hx (l' := #[.val (.int ((((((p1 ^^^ (-1 : Int32)) &&& (p1 - (1 : Int32))).toUInt32 >>> ((8 : Int32) &&& 31).toUInt32).toInt32).toUInt32 >>> ((4 : Int32) &&& 31).toUInt32).toInt32)), .val (.int (15 : Int32))]) (2 : Int32) (15 : Int32) (hb hby d9_67) rfl (by decide) rfl rfl ?_
            refine Go.iloadN X0 hx (hb hby d9_70) rfl ?_
            refine Go.iconst X0 hx (2 : Int32) (hb hby d9_71) rfl ?_
            refine Go.iushr X0 hx (hb hby d9_72) ?_
            refine Go.istoreN X0 hx (l' := #[.val (.int ((((((((p1 ^^^ (-1 : Int32)) &&& (p1 - (1 : Int32))).toUInt32 >>> ((8 : Int32) &&& 31).toUInt32).toInt32).toUInt32 >>> ((4 : Int32) &&& 31).toUInt32).toInt32).toUInt32 >>> ((2 : Int32) &&& 31).toUInt32).toInt32)), .val (.int (15 : Int32))]) (hb hby d9_73) rfl ?_
            refine Go.iloadN X0 hx (hb hby d9_74) rfl ?_
            refine Go.iloadN X0 hx (hb hby d9_75) rfl ?_
            refine Go.iconst X0 hx (1 : Int32) (hb hby d9_76) rfl ?_
            refine Go.iushr X0 hx (hb hby d9_77) ?_
            refine Go.iadd X0 hx (hb hby d9_78) ?_
            refine Go.retI X0 hx hret hlk (hb hby d9_79) (by decide) (by decide) ?_
            exact ⟨by unfold own_nt; rw [if_pos hc9_1, if_neg hc23_2, if_pos hc38_10, if_pos hc52_11, if_pos hc64_12] <;> rfl, N0, e0⟩
          · skip
            refine Go.icmpYes X0 hx (pc' := 74) (hb hby d9_64) (flt hc64_12).2.2.2 (by decide) (by decide) ?_
            show Go p_ e_ below _ _ s₁ (mkF m_ 74 #[.val (.int ((((((p1 ^^^ (-1 : Int32)) &&& (p1 - (1 : Int32))).toUInt32 >>> ((8 : Int32) &&& 31).toUInt32).toInt32).toUInt32 >>> ((4 : Int32) &&& 31).toUInt32).toInt32)), .val (.int (13 : Int32))] [])
            refine Go.iloadN X0 hx (hb hby d9_74) rfl ?_
            refine Go.iloadN X0 hx (hb hby d9_75) rfl ?_
            refine Go.iconst X0 hx (1 : Int32) (hb hby d9_76) rfl ?_
            refine Go.iushr X0 hx (hb hby d9_77) ?_
            refine Go.iadd X0 hx (hb hby d9_78) ?_
            refine Go.retI X0 hx hret hlk (hb hby d9_79) (by decide) (by decide) ?_
            exact ⟨by unfold own_nt; rw [if_pos hc9_1, if_neg hc23_2, if_pos hc38_10, if_pos hc52_11, if_neg hc64_12] <;> rfl, N0, e0⟩
        · skip
          refine Go.icmpYes X0 hx (pc' := 62) (hb hby d9_52) (flt hc52_11).2.2.2 (by decide) (by decide) ?_
          show Go p_ e_ below _ _ s₁ (mkF m_ 62 #[.val (.int ((((p1 ^^^ (-1 : Int32)) &&& (p1 - (1 : Int32))).toUInt32 >>> ((8 : Int32) &&& 31).toUInt32).toInt32)), .val (.int (9 : Int32))] [])
          refine Go.iloadN X0 hx (hb hby d9_62) rfl ?_
          refine Go.iconst X0 hx (4 : Int32) (hb hby d9_63) rfl ?_
          by_cases hc64_13 : (4 : Int32) < ((((p1 ^^^ (-1 : Int32)) &&& (p1 - (1 : Int32))).toUInt32 >>> ((8 : Int32) &&& 31).toUInt32).toInt32)
          · skip
            refine Go.icmpNo X0 hx (hb hby d9_64) (tlt hc64_13).2.2.2 ?_
            show Go p_ e_ below _ _ s₁ (mkF m_ 67 #[.val (.int ((((p1 ^^^ (-1 : Int32)) &&& (p1 - (1 : Int32))).toUInt32 >>> ((8 : Int32) &&& 31).toUInt32).toInt32)), .val (.int (9 : Int32))] [])
            refine Go.iincF X0 hx (l' := #[.val (.int ((((p1 ^^^ (-1 : Int32)) &&& (p1 - (1 : Int32))).toUInt32 >>> ((8 : Int32) &&& 31).toUInt32).toInt32)), .val (.int (11 : Int32))]) (2 : Int32) (11 : Int32) (hb hby d9_67) rfl (by decide) rfl rfl ?_
            refine Go.iloadN X0 hx (hb hby d9_70) rfl ?_
            refine Go.iconst X0 hx (2 : Int32) (hb hby d9_71) rfl ?_
            refine Go.iushr X0 hx (hb hby d9_72) ?_
            refine Go.istoreN X0 hx (l' := #[.val (.int ((((((p1 ^^^ (-1 : Int32)) &&& (p1 - (1 : Int32))).toUInt32 >>> ((8 : Int32) &&& 31).toUInt32).toInt32).toUInt32 >>> ((2 : Int32) &&& 31).toUInt32).toInt32)), .val (.int (11 : Int32))]) (hb hby d9_73) rfl ?_
            refine Go.iloadN X0 hx (hb hby d9_74) rfl ?_
            refine Go.iloadN X0 hx (hb hby d9_75) rfl ?_
            refine Go.iconst X0 hx (1 : Int32) (hb hby d9_76) rfl ?_
            refine Go.iushr X0 hx (hb hby d9_77) ?_
            refine Go.iadd X0 hx (hb hby d9_78) ?_
            refine Go.retI X0 hx hret hlk (hb hby d9_79) (by decide) (by decide) ?_
            exact ⟨by unfold own_nt; rw [if_pos hc9_1, if_neg hc23_2, if_pos hc38_10, if_neg hc52_11, if_pos hc64_13] <;> rfl, N0, e0⟩
          · skip
            refine Go.icmpYes X0 hx (pc' := 74) (hb hby d9_64) (flt hc64_13).2.2.2 (by decide) (by decide) ?_
            show Go p_ e_ below _ _ s₁ (mkF m_ 74 #[.val (.int ((((p1 ^^^ (-1 : Int32)) &&& (p1 - (1 : Int32))).toUInt32 >>> ((8 : Int32) &&& 31).toUInt32).toInt32)), .val (.int (9 : Int32))] [])
            refine Go.iloadN X0 hx (hb hby d9_74) rfl ?_
            refine Go.iloadN X0 hx (hb hby d9_75) rfl ?_
            refine Go.iconst X0 hx (1 : Int32) (hb hby d9_76) rfl ?_
            refine Go.iushr X0 hx (hb hby d9_77) ?_
            refine Go.iadd X0 hx (hb hby d9_78) ?_
            refine Go.retI X0 hx hret hlk (hb hby d9_79) (by decide) (by decide) ?_
            exact ⟨by unfold own_nt; rw [if_pos hc9_1, if_neg hc23_2, if_pos hc38_10, if_neg hc52_11, if_neg hc64_13] <;> rfl, N0, e0⟩
      · skip
        refine Go.icmpYes X0 hx (pc' := 49) (hb hby d9_38) (flt hc38_10).2.2.2 (by decide) (by decide) ?_
        show Go p_ e_ below _ _ s₁ (mkF m_ 49 #[.val (.int ((p1 ^^^ (-1 : Int32)) &&& (p1 - (1 : Int32)))), .val (.int (1 : Int32))] [])
        refine Go.iloadN X0 hx (hb hby d9_49) rfl ?_
        refine Go.bipush X0 hx (16 : Int32) (hb hby d9_50) rfl ?_
        by_cases hc52_14 : (16 : Int32) < ((p1 ^^^ (-1 : Int32)) &&& (p1 - (1 : Int32)))
        · skip
          refine Go.icmpNo X0 hx (hb hby d9_52) (tlt hc52_14).2.2.2 ?_
          show Go p_ e_ below _ _ s₁ (mkF m_ 55 #[.val (.int ((p1 ^^^ (-1 : Int32)) &&& (p1 - (1 : Int32)))), .val (.int (1 : Int32))] [])
          refine Go.iincF X0 hx (l' := #[.val (.int ((p1 ^^^ (-1 : Int32)) &&& (p1 - (1 : Int32)))), .val (.int (5 : Int32))]) (4 : Int32) (5 : Int32) (hb hby d9_55) rfl (by decide) rfl rfl ?_
          refine Go.iloadN X0 hx (hb hby d9_58) rfl ?_
          refine Go.iconst X0 hx (4 : Int32) (hb hby d9_59) rfl ?_
          refine Go.iushr X0 hx (hb hby d9_60) ?_
          refine Go.istoreN X0 hx (l' := #[.val (.int ((((p1 ^^^ (-1 : Int32)) &&& (p1 - (1 : Int32))).toUInt32 >>> ((4 : Int32) &&& 31).toUInt32).toInt32)), .val (.int (5 : Int32))]) (hb hby d9_61) rfl ?_
          refine Go.iloadN X0 hx (hb hby d9_62) rfl ?_
          refine Go.iconst X0 hx (4 : Int32) (hb hby d9_63) rfl ?_
          by_cases hc64_15 : (4 : Int32) < ((((p1 ^^^ (-1 : Int32)) &&& (p1 - (1 : Int32))).toUInt32 >>> ((4 : Int32) &&& 31).toUInt32).toInt32)
          · skip
            refine Go.icmpNo X0 hx (hb hby d9_64) (tlt hc64_15).2.2.2 ?_
            show Go p_ e_ below _ _ s₁ (mkF m_ 67 #[.val (.int ((((p1 ^^^ (-1 : Int32)) &&& (p1 - (1 : Int32))).toUInt32 >>> ((4 : Int32) &&& 31).toUInt32).toInt32)), .val (.int (5 : Int32))] [])
            refine Go.iincF X0 hx (l' := #[.val (.int ((((p1 ^^^ (-1 : Int32)) &&& (p1 - (1 : Int32))).toUInt32 >>> ((4 : Int32) &&& 31).toUInt32).toInt32)), .val (.int (7 : Int32))]) (2 : Int32) (7 : Int32) (hb hby d9_67) rfl (by decide) rfl rfl ?_
            refine Go.iloadN X0 hx (hb hby d9_70) rfl ?_
            refine Go.iconst X0 hx (2 : Int32) (hb hby d9_71) rfl ?_
            refine Go.iushr X0 hx (hb hby d9_72) ?_
            refine Go.istoreN X0 hx (l' := #[.val (.int ((((((p1 ^^^ (-1 : Int32)) &&& (p1 - (1 : Int32))).toUInt32 >>> ((4 : Int32) &&& 31).toUInt32).toInt32).toUInt32 >>> ((2 : Int32) &&& 31).toUInt32).toInt32)), .val (.int (7 : Int32))]) (hb hby d9_73) rfl ?_
            refine Go.iloadN X0 hx (hb hby d9_74) rfl ?_
            refine Go.iloadN X0 hx (hb hby d9_75) rfl ?_
            refine Go.iconst X0 hx (1 : Int32) (hb hby d9_76) rfl ?_
            refine Go.iushr X0 hx (hb hby d9_77) ?_
            refine Go.iadd X0 hx (hb hby d9_78) ?_
            refine Go.retI X0 hx hret hlk (hb hby d9_79) (by decide) (by decide) ?_
            exact ⟨by unfold own_nt; rw [if_pos hc9_1, if_neg hc23_2, if_neg hc38_10, if_pos hc52_14, if_pos hc64_15] <;> rfl, N0, e0⟩
          · skip
            refine Go.icmpYes X0 hx (pc' := 74) (hb hby d9_64) (flt hc64_15).2.2.2 (by decide) (by decide) ?_
            show Go p_ e_ below _ _ s₁ (mkF m_ 74 #[.val (.int ((((p1 ^^^ (-1 : Int32)) &&& (p1 - (1 : Int32))).toUInt32 >>> ((4 : Int32) &&& 31).toUInt32).toInt32)), .val (.int (5 : Int32))] [])
            refine Go.iloadN X0 hx (hb hby d9_74) rfl ?_
            refine Go.iloadN X0 hx (hb hby d9_75) rfl ?_
            refine Go.iconst X0 hx (1 : Int32) (hb hby d9_76) rfl ?_
            refine Go.iushr X0 hx (hb hby d9_77) ?_
            refine Go.iadd X0 hx (hb hby d9_78) ?_
            refine Go.retI X0 hx hret hlk (hb hby d9_79) (by decide) (by decide) ?_
            exact ⟨by unfold own_nt; rw [if_pos hc9_1, if_neg hc23_2, if_neg hc38_10, if_pos hc52_14, if_neg hc64_15] <;> rfl, N0, e0⟩
        · skip
          refine Go.icmpYes X0 hx (pc' := 62) (hb hby d9_52) (flt hc52_14).2.2.2 (by decide) (by decide) ?_
          show Go p_ e_ below _ _ s₁ (mkF m_ 62 #[.val (.int ((p1 ^^^ (-1 : Int32)) &&& (p1 - (1 : Int32)))), .val (.int (1 : Int32))] [])
          refine Go.iloadN X0 hx (hb hby d9_62) rfl ?_
          refine Go.iconst X0 hx (4 : Int32) (hb hby d9_63) rfl ?_
          by_cases hc64_16 : (4 : Int32) < ((p1 ^^^ (-1 : Int32)) &&& (p1 - (1 : Int32)))
          · skip
            refine Go.icmpNo X0 hx (hb hby d9_64) (tlt hc64_16).2.2.2 ?_
            show Go p_ e_ below _ _ s₁ (mkF m_ 67 #[.val (.int ((p1 ^^^ (-1 : Int32)) &&& (p1 - (1 : Int32)))), .val (.int (1 : Int32))] [])
            refine Go.iincF X0 hx (l' := #[.val (.int ((p1 ^^^ (-1 : Int32)) &&& (p1 - (1 : Int32)))), .val (.int (3 : Int32))]) (2 : Int32) (3 : Int32) (hb hby d9_67) rfl (by decide) rfl rfl ?_
            refine Go.iloadN X0 hx (hb hby d9_70) rfl ?_
            refine Go.iconst X0 hx (2 : Int32) (hb hby d9_71) rfl ?_
            refine Go.iushr X0 hx (hb hby d9_72) ?_
            refine Go.istoreN X0 hx (l' := #[.val (.int ((((p1 ^^^ (-1 : Int32)) &&& (p1 - (1 : Int32))).toUInt32 >>> ((2 : Int32) &&& 31).toUInt32).toInt32)), .val (.int (3 : Int32))]) (hb hby d9_73) rfl ?_
            refine Go.iloadN X0 hx (hb hby d9_74) rfl ?_
            refine Go.iloadN X0 hx (hb hby d9_75) rfl ?_
            refine Go.iconst X0 hx (1 : Int32) (hb hby d9_76) rfl ?_
            refine Go.iushr X0 hx (hb hby d9_77) ?_
            refine Go.iadd X0 hx (hb hby d9_78) ?_
            refine Go.retI X0 hx hret hlk (hb hby d9_79) (by decide) (by decide) ?_
            exact ⟨by unfold own_nt; rw [if_pos hc9_1, if_neg hc23_2, if_neg hc38_10, if_neg hc52_14, if_pos hc64_16] <;> rfl, N0, e0⟩
          · skip
            refine Go.icmpYes X0 hx (pc' := 74) (hb hby d9_64) (flt hc64_16).2.2.2 (by decide) (by decide) ?_
            show Go p_ e_ below _ _ s₁ (mkF m_ 74 #[.val (.int ((p1 ^^^ (-1 : Int32)) &&& (p1 - (1 : Int32)))), .val (.int (1 : Int32))] [])
            refine Go.iloadN X0 hx (hb hby d9_74) rfl ?_
            refine Go.iloadN X0 hx (hb hby d9_75) rfl ?_
            refine Go.iconst X0 hx (1 : Int32) (hb hby d9_76) rfl ?_
            refine Go.iushr X0 hx (hb hby d9_77) ?_
            refine Go.iadd X0 hx (hb hby d9_78) ?_
            refine Go.retI X0 hx hret hlk (hb hby d9_79) (by decide) (by decide) ?_
            exact ⟨by unfold own_nt; rw [if_pos hc9_1, if_neg hc23_2, if_neg hc38_10, if_neg hc52_14, if_neg hc64_16] <;> rfl, N0, e0⟩
  · skip
    refine Go.ifNo X0 hx (hb hby d9_9) ((if0 _ _).trans (flt hc9_1).2.2.1) ?_
    show Go p_ e_ below _ _ s₁ (mkF m_ 12 #[.val (.int ((p1 ^^^ (-1 : Int32)) &&& (p1 - (1 : Int32)))), .unset] [])
    refine Go.iloadN X0 hx (hb hby d9_12) rfl ?_
    refine Go.bipush X0 hx (32 : Int32) (hb hby d9_13) rfl ?_
    refine Go.iand X0 hx (hb hby d9_15) ?_
    refine Go.retI X0 hx hret hlk (hb hby d9_16) (by decide) (by decide) ?_
    exact ⟨by unfold own_nt; rw [if_neg hc9_1] <;> rfl, N0, e0⟩
theorem pd_oIcI : parseMethodDescriptor "(I)I" = some ⟨[.int], some .int⟩ := by decide +kernel
def own_ntz (p1 : Int64)  : Int32 := (if (p1.toInt32) = (0 : Int32) then ((32 : Int32) + (own_nt (((p1.toUInt64 >>> ((32 : Int32) &&& 0x3f).toInt64.toUInt64).toInt64).toInt32) )) else (own_nt (p1.toInt32) ))
theorem d8_0 : decode jdk_35_method_49_code 0 = .ok (.lload_n 0, 1) := by decide +kernel
theorem d8_1 : decode jdk_35_method_49_code 1 = .ok (.l2i, 1) := by decide +kernel
theorem d8_2 : decode jdk_35_method_49_code 2 = .ok (.istore_n 2, 1) := by decide +kernel
theorem d8_3 : decode jdk_35_method_49_code 3 = .ok (.iload_n 2, 1) := by decide +kernel
theorem d8_4 : decode jdk_35_method_49_code 4 = .ok (.ifCond .ne 17, 3) := by decide +kernel
theorem d8_7 : decode jdk_35_method_49_code 7 = .ok (.bipush 32, 2) := by decide +kernel
theorem d8_9 : decode jdk_35_method_49_code 9 = .ok (.lload_n 0, 1) := by decide +kernel
theorem d8_10 : decode jdk_35_method_49_code 10 = .ok (.bipush 32, 2) := by decide +kernel
theorem d8_12 : decode jdk_35_method_49_code 12 = .ok (.lushr, 1) := by decide +kernel
theorem d8_13 : decode jdk_35_method_49_code 13 = .ok (.l2i, 1) := by decide +kernel
theorem d8_14 : decode jdk_35_method_49_code 14 = .ok (.invokestatic 311, 3) := by decide +kernel
theorem d8_17 : decode jdk_35_method_49_code 17 = .ok (.iadd, 1) := by decide +kernel
theorem d8_18 : decode jdk_35_method_49_code 18 = .ok (.goto 7, 3) := by decide +kernel
theorem d8_21 : decode jdk_35_method_49_code 21 = .ok (.iload_n 2, 1) := by decide +kernel
theorem d8_22 : decode jdk_35_method_49_code 22 = .ok (.invokestatic 311, 3) := by decide +kernel
theorem d8_25 : decode jdk_35_method_49_code 25 = .ok (.ireturn, 1) := by decide +kernel
theorem pn_8 : plainName "java/lang/Long" = true := by first | (simp [plainName, overriddenIn]; done) | decide +kernel
theorem ef_rm8 (m_ : MethodId) (p1 : Int64) : entryFrame m_ #[(.long p1)] 3 = mkF m_ 0 #[.val (.long p1), .second, .unset] [] := by first | (simp [entryFrame, mkF, argsToLocals, Value.category]; done) | rfl
def Q8 (Z : State) (p1 : Int64)  (h0 : Heap) (n0 : Nat) (v : Option Value) (h : Heap) (L : List Loc) : Prop := v = some (.int (own_ntz p1)) ∧ Fr n0 L ∧ h = h0
set_option maxRecDepth 65536 in
set_option maxHeartbeats 40000000 in
theorem rm8 (l : Launch) (Z : State) (a0 : Array Value) (hw : ∀ d ∈ tables_1, d.before a0 Z = true) (ws : List Jvm.Cond) (p1 : Int64)  (h0 : Heap) (n0 : Nat) (Z0 : n0 ≤ h0.size)  :
    MetFree l (⟨"java/lang/Long", "numberOfTrailingZeros", "(J)I"⟩ : MethodName) (head1 (Jvm.Cond.code (⟨"java/lang/Long", "numberOfTrailingZeros", "(J)I"⟩ : MethodName) jdk_35_method_49_code 3 (some .int) :: ws) ({ frames := 1, cells := 0, slots := 0, locals := 14 } : Room)) (fun a_ U_ => a_ = #[(.long p1)] ∧ Z.Warmed39 U_.vm ∧ U_.heap = h0) (fun _ _ _ _ _ => True) (fun _ U_ o_ V_ => ∃ v_ L_, o_ = .returned v_ ∧ Q8 Z p1 h0 n0 v_ V_.heap L_ ∧ FrameEnd U_ o_ V_ L_ ({ frames := 1, cells := 0, slots := 0, locals := 14 } : Room).cells ({ frames := 1, cells := 0, slots := 0, locals := 14 } : Room).slots) := by
  refine metOf (Q := Q8 Z p1 h0 n0) (plainFor_of_name pn_8) ?_
  intro p_ e_ s_ m_ below meth c_ s₁ X0 hx hby hml hret hlk hZ hown hnm e0
  rw [ef_rm8]
  have N0 := Fr.nil n0
  show Go p_ e_ below _ _ s₁ (mkF m_ 0 #[.val (.long p1), .second, .unset] [])
  refine Go.lloadN X0 hx (hb hby d8_0) rfl ?_
  refine Go.l2i X0 hx (hb hby d8_1) ?_
  refine Go.istoreN X0 hx (l' := #[.val (.long p1), .second, .val (.int (p1.toInt32))]) (hb hby d8_2) rfl ?_
  refine Go.iloadN X0 hx (hb hby d8_3) rfl ?_
  by_cases hc4_1 : (p1.toInt32) = (0 : Int32)
  · skip
    refine Go.ifNo X0 hx (hb hby d8_4) ((if0 _ _).trans (teq hc4_1).2) ?_
    show Go p_ e_ below _ _ s₁ (mkF m_ 7 #[.val (.long p1), .second, .val (.int (p1.toInt32))] [])
    refine Go.bipush X0 hx (32 : Int32) (hb hby d8_7) rfl ?_
    refine Go.lloadN X0 hx (hb hby d8_9) rfl ?_
    refine Go.bipush X0 hx (32 : Int32) (hb hby d8_10) rfl ?_
    refine Go.lushr X0 hx (hb hby d8_12) ?_
    refine Go.l2i X0 hx (hb hby d8_13) ?_
    refine Go.callS X0 hx hZ (rm9 l Z a0 hw [] (((p1.toUInt64 >>> ((32 : Int32) &&& 0x3f).toInt64.toUInt64).toInt64).toInt32)  h0 n0 Z0 ) hown (hw _ (List.mem_of_getElem? (i := 53) rfl)) (hw _ (List.mem_of_getElem? (i := 54) rfl)) (hw _ (List.mem_of_getElem? (i := 55) rfl)) (hw _ (List.mem_of_getElem? (i := 56) rfl)) (by decide) e0 (W := 1) (by rw [hml]; rfl) (argsL := [(.int (((p1.toUInt64 >>> ((32 : Int32) &&& 0x3f).toInt64.toUInt64).toInt64).toInt32))]) (S := [(.int (32 : Int32))]) (Nat.le_of_ble_eq_true rfl) (by decide) (by decide) (by decide) (by decide) pd_oIcI rfl rfl (hb hby d8_14) ?_
    rintro _ T2 L2 X2 ⟨rfl, N2q, e2⟩
    have N2 := Fr.app N0 N2q
    show Go p_ e_ below _ _ T2 (mkF m_ 17 #[.val (.long p1), .second, .val (.int (p1.toInt32))] [(.int (own_nt (((p1.toUInt64 >>> ((32 : Int32) &&& 0x3f).toInt64.toUInt64).toInt64).toInt32) )), (.int (32 : Int32))])
    refine Go.iadd X2 hx (hb hby d8_17) ?_
    refine Go.goto X2 hx (pc' := 25) (hb hby d8_18) (by decide) (by decide) ?_
    refine Go.retI X2 hx hret hlk (hb hby d8_25) (by decide) (by decide) ?_
    exact ⟨by unfold own_ntz; rw [if_pos hc4_1] <;> rfl, N2, e2⟩
  · skip
    refine Go.ifYes X0 hx (pc' := 21) (hb hby d8_4) ((if0 _ _).trans (feq hc4_1).2) (by decide) (by decide) ?_
    show Go p_ e_ below _ _ s₁ (mkF m_ 21 #[.val (.long p1), .second, .val (.int (p1.toInt32))] [])
    refine Go.iloadN X0 hx (hb hby d8_21) rfl ?_
    refine Go.callS X0 hx hZ (rm9 l Z a0 hw [] (p1.toInt32)  h0 n0 Z0 ) hown (hw _ (List.mem_of_getElem? (i := 53) rfl)) (hw _ (List.mem_of_getElem? (i := 54) rfl)) (hw _ (List.mem_of_getElem? (i := 55) rfl)) (hw _ (List.mem_of_getElem? (i := 56) rfl)) (by decide) e0 (W := 0) (by rw [hml]; rfl) (argsL := [(.int (p1.toInt32))]) (S := []) (Nat.le_of_ble_eq_true rfl) (by decide) (by decide) (by decide) (by decide) pd_oIcI rfl rfl (hb hby d8_22) ?_
    rintro _ T3 L3 X3 ⟨rfl, N3q, e3⟩
    have N3 := Fr.app N0 N3q
    show Go p_ e_ below _ _ T3 (mkF m_ 25 #[.val (.long p1), .second, .val (.int (p1.toInt32))] [(.int (own_nt (p1.toInt32) ))])
    refine Go.retI X3 hx hret hlk (hb hby d8_25) (by decide) (by decide) ?_
    exact ⟨by unfold own_ntz; rw [if_neg hc4_1] <;> rfl, N3, e3⟩

def own_bit (r : Int64) : Int64 := ((1 : Int64) <<< ((r.toInt32) &&& 0x3f).toInt64)
def own_msk (r : Int64) : Int64 := ((-1 : Int64) <<< ((r.toInt32) &&& 0x3f).toInt64)
def own_B (i : Fin 64) : Int64 := (1 : Int64) <<< Int64.ofNat i
def own_M (i : Fin 64) : Int64 := (-1 : Int64) <<< Int64.ofNat i
theorem own_six (r : Int64) : ((r.toInt32) &&& (0x3f : Int32)).toInt64 = Int64.ofNat (r.toInt % 64).toNat := by
  have h1 := c_mask r.toInt32 0x3f 6 (by decide) (by decide)
  have h2 := c_i2l (r.toInt32 &&& 0x3f)
  have h3 := c_l2i r
  have h4 : (Int64.ofNat (r.toInt % 64).toNat).toInt = ((r.toInt % 64).toNat : Int) := Int64.toInt_ofNat_of_lt (by omega)
  rw [← Int64.toInt_inj]
  omega
def own_ix (r : Int64) : Fin 64 := ⟨(r.toInt % 64).toNat, by omega⟩
theorem own_ixv (r : Int64) : ((own_ix r).val : Int) = r.toInt % 64 := by show ((r.toInt % 64).toNat : Int) = _; omega
theorem own_bitB (r : Int64) : own_bit r = own_B (own_ix r) := by unfold own_bit own_B; rw [own_six]; rfl
theorem own_mskM (r : Int64) : own_msk r = own_M (own_ix r) := by unfold own_msk own_M; rw [own_six]; rfl
set_option maxRecDepth 100000 in
theorem own_D1 : ∀ i j : Fin 64, own_B i &&& own_M j = if j.val ≤ i.val then own_B i else 0 := by decide +kernel
set_option maxRecDepth 100000 in
theorem own_D2 : ∀ i j : Fin 64, i.val ≤ j.val → (own_ntz (own_B i ||| own_B j)).toInt = i.val := by decide +kernel
set_option maxRecDepth 100000 in
theorem own_D4 : ∀ i j : Fin 64, ¬ (own_B i ||| own_B j) = 0 := by decide +kernel
theorem own_D3 (i : Fin 64) : ¬ own_B i = 0 := by have := own_D4 i i; rwa [Int64.or_self] at this
theorem own_D5 (i : Fin 64) : (own_ntz (own_B i)).toInt = i.val := by have := own_D2 i i (Nat.le_refl _); rwa [Int64.or_self] at this
def own_fn (w b : Int64) : Int64 := ((w <<< ((6 : Int32) &&& 0x3f).toInt64) ||| ((own_ntz b).toInt64))
def own_nx (W : Nat → Int64) : Nat → Int64 → Int64 → Int64
  | 0, w, b => if b = 0 then -1 else own_fn w b
  | m + 1, w, b => if b = 0 then own_nx W m (w + 1) (W (w + 1).toInt.toNat) else own_fn w b
theorem own_nx_ne (W : Nat → Int64) (m : Nat) (w b : Int64) (h : ¬ b = 0) : own_nx W m w b = own_fn w b := by cases m <;> simp [own_nx, h]
theorem own_fnv {w b r : Int64} {k : Int} {i : Int} (hw : w.toInt = k) (h0 : 0 ≤ k) (h1 : k < 1000000) (hb : (own_ntz b).toInt = i) (hi : 0 ≤ i ∧ i < 64) (hr : r.toInt = 64 * k + i) : own_fn w b = r := by
  unfold own_fn
  have a1 := c_lshl w 6 6 (by decide)
  have a2 := c_i2l (own_ntz b)
  have g1 := rng64 (w <<< ((6 : Int32) &&& 0x3f).toInt64)
  have a3 := c_orL (w <<< ((6 : Int32) &&& 0x3f).toInt64) (own_ntz b).toInt64 6 (by decide) 64 (by decide) (by omega) (by omega) (by omega)
  have g2 := rng64 ((w <<< ((6 : Int32) &&& 0x3f).toInt64) ||| ((own_ntz b).toInt64))
  rw [← Int64.toInt_inj]
  omega
theorem own_suc {w : Int64} {k : Nat} (hw : w.toInt = k) (h1 : k < 1000000) : (w + 1).toInt = (k + 1 : Nat) := by
  have a := c_ladd w 1
  have e : (1 : Int64).toInt = 1 := rfl
  have g := rng64 (w + 1)
  omega
theorem own_nx_find (W : Nat → Int64) (k' : Nat) (hk' : k' < 1000000) (hW : ¬ W k' = 0) : ∀ (m : Nat) (w : Int64) (k : Nat), w.toInt = k → k < k' → k' ≤ k + m → (∀ j, k < j → j < k' → W j = 0) → ∃ w' : Int64, w'.toInt = k' ∧ own_nx W m w 0 = own_fn w' (W k') := by
  intro m
  induction m with
  | zero => intro w k hw h1 h2; omega
  | succ m ih =>
    intro w k hw h1 h2 h3
    have hs := own_suc hw (by omega)
    have e : (w + 1).toInt.toNat = k + 1 := by omega
    have e2 : own_nx W (m + 1) w 0 = own_nx W m (w + 1) (W (k + 1)) := by rw [own_nx, if_pos rfl, e]
    rw [e2]
    by_cases q : k + 1 = k'
    · subst q
      exact ⟨w + 1, hs, own_nx_ne W m _ _ hW⟩
    · rw [h3 (k + 1) (by omega) (by omega)]
      exact ih (w + 1) (k + 1) hs (by omega) (by omega) (fun j g1 g2 => h3 j (by omega) g2)
theorem own_nx_none (W : Nat → Int64) : ∀ (m : Nat) (w : Int64) (k : Nat), w.toInt = k → k + m < 1000000 → (∀ j, k < j → j ≤ k + m → W j = 0) → own_nx W m w 0 = -1 := by
  intro m
  induction m with
  | zero => intro w k hw h1 h2; rw [own_nx, if_pos rfl]
  | succ m ih =>
    intro w k hw h1 h3
    have hs := own_suc hw (by omega)
    have e : (w + 1).toInt.toNat = k + 1 := by omega
    rw [own_nx, if_pos rfl, e, h3 (k + 1) (by omega) (by omega)]
    exact ih (w + 1) (k + 1) hs (by omega) (fun j g1 g2 => h3 j (by omega) (by omega))
def own_kx (r : Int64) : Nat := r.toInt.toNat / 64
def own_pt (r : Int64) (y : Nat) : Int64 := if y = own_kx r then own_B (own_ix r) else 0
def own_W2 (a b : Int64) (y : Nat) : Int64 := own_pt a y ||| own_pt b y
theorem own_or0 (x : Int64) : (0 : Int64) ||| x = x := Int64.zero_or
theorem own_0or (x : Int64) : x ||| (0 : Int64) = x := Int64.or_zero
theorem own_dis (x y z : Int64) : (x ||| y) &&& z = (x &&& z) ||| (y &&& z) := by
  rw [← Int64.toBitVec_inj]
  simp only [Int64.toBitVec_and, Int64.toBitVec_or]
  ext i
  simp only [BitVec.getElem_and, BitVec.getElem_or]
  cases x.toBitVec[i] <;> cases y.toBitVec[i] <;> cases z.toBitVec[i] <;> rfl
theorem own_0and (x : Int64) : (0 : Int64) &&& x = 0 := Int64.zero_and
theorem own_ptm (r c : Int64) (hr : 0 ≤ r.toInt) (hc : 0 ≤ c.toInt) : own_pt r (own_kx c) &&& own_msk c = if own_kx c = own_kx r ∧ c.toInt ≤ r.toInt then own_B (own_ix r) else 0 := by
  unfold own_pt
  rw [own_mskM]
  by_cases e : own_kx c = own_kx r
  · rw [if_pos e, own_D1]
    have h1 := own_ixv r
    have h2 := own_ixv c
    unfold own_kx at e
    by_cases g : c.toInt ≤ r.toInt
    · rw [if_pos (by omega), if_pos ⟨e, g⟩]
    · rw [if_neg (by omega), if_neg (fun q => g q.2)]
  · rw [if_neg e, own_0and, if_neg (fun q => e q.1)]
theorem own_main (sz a b c : Int64) (hs : sz.toInt ≤ 8388608) (ha : 0 ≤ a.toInt) (hab : a.toInt ≤ b.toInt) (hb : b.toInt < sz.toInt) (hc : 0 ≤ c.toInt) (hcs : c.toInt < sz.toInt) (w : Int64) (hw : w.toInt = own_kx c) (m : Nat) (hm : own_kx c + m = (sz.toInt.toNat + 63) / 64 - 1) :
    own_nx (own_W2 a b) m w (own_W2 a b (own_kx c) &&& own_msk c) = if ¬ a < c then a else if ¬ b < c then b else -1 := by
  have hm1 : own_kx b ≤ own_kx c + m := by unfold own_kx at hm ⊢; omega
  have hm2 : own_kx c + m < 1000000 := by omega
  have hkab : own_kx a ≤ own_kx b := by unfold own_kx; omega
  have va : a.toInt = 64 * (own_kx a : Int) + (own_ix a).val := by have := own_ixv a; unfold own_kx; omega
  have vb : b.toInt = 64 * (own_kx b : Int) + (own_ix b).val := by have := own_ixv b; unfold own_kx; omega
  have vc : c.toInt = 64 * (own_kx c : Int) + (own_ix c).val := by have := own_ixv c; unfold own_kx; omega
  have ia := (own_ix a).isLt
  have ib := (own_ix b).isLt
  have ic := (own_ix c).isLt
  have M : own_W2 a b (own_kx c) &&& own_msk c = (if own_kx c = own_kx a ∧ c.toInt ≤ a.toInt then own_B (own_ix a) else 0) ||| (if own_kx c = own_kx b ∧ c.toInt ≤ b.toInt then own_B (own_ix b) else 0) := by
    unfold own_W2
    rw [own_dis, own_ptm a c ha hc, own_ptm b c (by omega) hc]
  have z : ∀ j, j ≠ own_kx a → j ≠ own_kx b → own_W2 a b j = 0 := fun j h1 h2 => by unfold own_W2 own_pt; rw [if_neg h1, if_neg h2]; rfl
  rw [M]
  simp only [Int64.lt_iff_toInt_lt]
  by_cases c1 : a.toInt < c.toInt
  · rw [if_neg (show ¬ ¬ a.toInt < c.toInt from fun q => q c1)]
    rw [if_neg (show ¬ (own_kx c = own_kx a ∧ c.toInt ≤ a.toInt) by omega), own_or0]
    by_cases c2 : b.toInt < c.toInt
    · rw [if_neg (show ¬ ¬ b.toInt < c.toInt from fun q => q c2), if_neg (show ¬ (own_kx c = own_kx b ∧ c.toInt ≤ b.toInt) by omega)]
      exact own_nx_none _ m w _ hw hm2 (fun j h1 h2 => z j (by omega) (by omega))
    · rw [if_pos c2]
      by_cases e : own_kx c = own_kx b
      · rw [if_pos ⟨e, by omega⟩, own_nx_ne _ _ _ _ (own_D3 _)]
        exact own_fnv hw (by omega) (by omega) (own_D5 _) (by omega) (by omega)
      · rw [if_neg (fun q => e q.1)]
        have hWb : own_W2 a b (own_kx b) = own_B (own_ix b) := by
          unfold own_W2 own_pt
          rw [if_neg (by omega), if_pos rfl, own_or0]
        obtain ⟨w', h1, h2⟩ := own_nx_find (own_W2 a b) (own_kx b) (by omega) (by rw [hWb]; exact own_D3 _) m w _ hw (by omega) hm1 (fun j g1 g2 => z j (by omega) (by omega))
        rw [h2, hWb]
        exact own_fnv h1 (by omega) (by omega) (own_D5 _) (by omega) (by omega)
  · rw [if_pos c1]
    by_cases e : own_kx c = own_kx a
    · rw [if_pos ⟨e, by omega⟩]
      by_cases e2 : own_kx c = own_kx b
      · rw [if_pos ⟨e2, by omega⟩, own_nx_ne _ _ _ _ (own_D4 _ _)]
        exact own_fnv hw (by omega) (by omega) (own_D2 _ _ (by omega)) (by omega) (by omega)
      · rw [if_neg (fun q => e2 q.1), own_0or, own_nx_ne _ _ _ _ (own_D3 _)]
        exact own_fnv hw (by omega) (by omega) (own_D5 _) (by omega) (by omega)
    · rw [if_neg (fun q => e q.1), if_neg (show ¬ (own_kx c = own_kx b ∧ c.toInt ≤ b.toInt) by omega), own_or0]
      by_cases e2 : own_kx a = own_kx b
      · have hWa : own_W2 a b (own_kx a) = own_B (own_ix a) ||| own_B (own_ix b) := by
          unfold own_W2 own_pt
          rw [if_pos rfl, if_pos e2]
        obtain ⟨w', h1, h2⟩ := own_nx_find (own_W2 a b) (own_kx a) (by omega) (by rw [hWa]; exact own_D4 _ _) m w _ hw (by omega) (by omega) (fun j g1 g2 => z j (by omega) (by omega))
        rw [h2, hWa]
        exact own_fnv h1 (by omega) (by omega) (own_D2 _ _ (by omega)) (by omega) (by omega)
      · have hWa : own_W2 a b (own_kx a) = own_B (own_ix a) := by
          unfold own_W2 own_pt
          rw [if_pos rfl, if_neg e2, own_0or]
        obtain ⟨w', h1, h2⟩ := own_nx_find (own_W2 a b) (own_kx a) (by omega) (by rw [hWa]; exact own_D3 _) m w _ hw (by omega) (by omega) (fun j g1 g2 => z j (by omega) (by omega))
        rw [h2, hWa]
        exact own_fnv h1 (by omega) (by omega) (own_D5 _) (by omega) (by omega)
theorem own_W2_comm (a b : Int64) : own_W2 a b = own_W2 b a := by funext y; exact Int64.or_comm _ _


theorem own_clamp {x : Int32} (h : 0 ≤ x.toInt) : (x.toNatClampNeg : Int) = x.toInt := by
  show ((x.toInt.toNat : Nat) : Int) = x.toInt
  omega
theorem own_nlt {x : Int32} (h : 0 ≤ x.toInt) : ¬ x < 0 := by
  rw [Int32.lt_iff_toInt_lt]
  have : (0 : Int32).toInt = 0 := rfl
  omega
theorem own_inb2 {c : Cell} {j : Int32} {n q : Nat} (S : c.slots.size = n) (h : ¬ j < 0 ∧ j.toNatClampNeg = q ∧ q < n) : ¬ (j < 0 ∨ c.slots.size ≤ j.toNatClampNeg) := by
  rintro (g | g)
  · exact h.1 g
  · omega
theorem own_aix (k wd : Int64) (h0 : 0 ≤ k.toInt) (h1 : k.toInt < wd.toInt) (h2 : wd.toInt ≤ 131072) : ¬ (((k.toUInt64 >>> ((16 : Int32) &&& 0x3f).toInt64.toUInt64).toInt64).toInt32) < 0 ∧ (((k.toUInt64 >>> ((16 : Int32) &&& 0x3f).toInt64.toUInt64).toInt64).toInt32).toNatClampNeg = k.toInt.toNat / 65536 ∧ k.toInt.toNat / 65536 < own_np wd := by
  have a1 := c_lushr k 16 16 (by decide) (by decide)
  have a2 := c_l2i ((k.toUInt64 >>> ((16 : Int32) &&& 0x3f).toInt64.toUInt64).toInt64)
  have g := rng32 (((k.toUInt64 >>> ((16 : Int32) &&& 0x3f).toInt64.toUInt64).toInt64).toInt32)
  have p : 0 ≤ (((k.toUInt64 >>> ((16 : Int32) &&& 0x3f).toInt64.toUInt64).toInt64).toInt32).toInt := by omega
  have a3 := own_clamp p
  refine ⟨own_nlt p, by omega, ?_⟩
  unfold own_np
  omega
theorem own_bix (k wd : Int64) (h0 : 0 ≤ k.toInt) (h1 : k.toInt < wd.toInt) (h2 : wd.toInt ≤ 131072) : ¬ ((k.toInt32) &&& (65535 : Int32)) < 0 ∧ ((k.toInt32) &&& (65535 : Int32)).toNatClampNeg = k.toInt.toNat % 65536 ∧ k.toInt.toNat % 65536 < own_pl wd (k.toInt.toNat / 65536) := by
  have a1 := c_mask (k.toInt32) 65535 16 (by decide) (by decide)
  have a2 := c_l2i k
  have p : 0 ≤ ((k.toInt32) &&& (65535 : Int32)).toInt := by omega
  have a3 := own_clamp p
  refine ⟨own_nlt p, by omega, ?_⟩
  unfold own_pl
  omega
theorem own_k6 (r : Int64) (h0 : 0 ≤ r.toInt) : (((r.toUInt64 >>> ((6 : Int32) &&& 0x3f).toInt64.toUInt64).toInt64)).toInt = r.toInt / 64 := by
  have a1 := c_lushr r 6 6 (by decide) (by decide)
  have g := rng64 r
  omega
theorem own_wdv (sz : Int64) (h : 1 ≤ sz.toInt ∧ sz.toInt ≤ 8388608) : (((((sz + (64 : Int64)) - (1 : Int64)).toUInt64 >>> ((6 : Int32) &&& 0x3f).toInt64.toUInt64).toInt64)).toInt = (sz.toInt + 63) / 64 := by
  have b1 := c_ladd sz 64
  have b2 := c_lsub (sz + 64) 1
  have e1 : (64 : Int64).toInt = 64 := rfl
  have e2 : (1 : Int64).toInt = 1 := rfl
  have g1 := rng64 (sz + 64)
  have g2 := rng64 (sz + 64 - 1)
  have a1 := c_lushr ((sz + (64 : Int64)) - (1 : Int64)) 6 6 (by decide) (by decide)
  omega
theorem own_npc (wd : Int64) (h : 1 ≤ wd.toInt ∧ wd.toInt ≤ 131072) : ((((((wd + (65536 : Int64)) - (1 : Int64)).toUInt64 >>> ((16 : Int32) &&& 0x3f).toInt64.toUInt64).toInt64).toInt32) = (1 : Int32) ∧ own_np wd = 1) ∨ ((((((wd + (65536 : Int64)) - (1 : Int64)).toUInt64 >>> ((16 : Int32) &&& 0x3f).toInt64.toUInt64).toInt64).toInt32) = (2 : Int32) ∧ own_np wd = 2) := by
  have b1 := c_ladd wd 65536
  have b2 := c_lsub (wd + 65536) 1
  have e1 : (65536 : Int64).toInt = 65536 := rfl
  have e2 : (1 : Int64).toInt = 1 := rfl
  have g1 := rng64 (wd + 65536)
  have g2 := rng64 (wd + 65536 - 1)
  have a1 := c_lushr ((wd + (65536 : Int64)) - (1 : Int64)) 16 16 (by decide) (by decide)
  have a2 := c_l2i ((((wd + (65536 : Int64)) - (1 : Int64)).toUInt64 >>> ((16 : Int32) &&& 0x3f).toInt64.toUInt64).toInt64)
  have g := rng32 (((((wd + (65536 : Int64)) - (1 : Int64)).toUInt64 >>> ((16 : Int32) &&& 0x3f).toInt64.toUInt64).toInt64).toInt32)
  have f1 : (1 : Int32).toInt = 1 := rfl
  have f2 : (2 : Int32).toInt = 2 := rfl
  simp only [← Int32.toInt_inj]
  unfold own_np
  omega
theorem own_pgn0 (wd : Int64) (h : 1 ≤ wd.toInt ∧ wd.toInt ≤ 131072) : ¬ ((own_minL (65536 : Int64) (wd - (((0 : Int32).toInt64) <<< ((16 : Int32) &&& 0x3f).toInt64))).toInt32) < 0 ∧ ((own_minL (65536 : Int64) (wd - (((0 : Int32).toInt64) <<< ((16 : Int32) &&& 0x3f).toInt64))).toInt32).toNatClampNeg = own_pl wd 0 := by
  have e0 : ((0 : Int32).toInt64 <<< ((16 : Int32) &&& 0x3f).toInt64) = (0 : Int64) := by decide
  rw [e0]
  have b1 := c_lsub wd 0
  have e1 : (0 : Int64).toInt = 0 := rfl
  have e3 : (65536 : Int64).toInt = 65536 := rfl
  have g1 := rng64 (wd - 0)
  have m1 : (own_minL (65536 : Int64) (wd - (0 : Int64))).toInt = min 65536 wd.toInt := by
    unfold own_minL
    split
    · rename_i q; rw [Int64.lt_iff_toInt_lt] at q; omega
    · rename_i q; rw [Int64.lt_iff_toInt_lt] at q; omega
  have a2 := c_l2i (own_minL (65536 : Int64) (wd - (0 : Int64)))
  have g := rng32 (own_minL (65536 : Int64) (wd - (0 : Int64))).toInt32
  have p : 0 ≤ (own_minL (65536 : Int64) (wd - (0 : Int64))).toInt32.toInt := by omega
  have a3 := own_clamp p
  refine ⟨own_nlt p, ?_⟩
  unfold own_pl
  omega
theorem own_pgn1 (wd : Int64) (h : 1 ≤ wd.toInt ∧ wd.toInt ≤ 131072) (h2 : own_np wd = 2) : ¬ ((own_minL (65536 : Int64) (wd - (((1 : Int32).toInt64) <<< ((16 : Int32) &&& 0x3f).toInt64))).toInt32) < 0 ∧ ((own_minL (65536 : Int64) (wd - (((1 : Int32).toInt64) <<< ((16 : Int32) &&& 0x3f).toInt64))).toInt32).toNatClampNeg = own_pl wd 1 := by
  have e0 : ((1 : Int32).toInt64 <<< ((16 : Int32) &&& 0x3f).toInt64) = (65536 : Int64) := by decide
  rw [e0]
  unfold own_np at h2
  have w1 : 65537 ≤ wd.toInt := by omega
  clear h2
  have b1 := c_lsub wd 65536
  have e3 : (65536 : Int64).toInt = 65536 := rfl
  have g1 := rng64 (wd - 65536)
  have m1 : (own_minL (65536 : Int64) (wd - (65536 : Int64))).toInt = min 65536 (wd.toInt - 65536) := by
    unfold own_minL
    split
    · rename_i q; rw [Int64.lt_iff_toInt_lt] at q; omega
    · rename_i q; rw [Int64.lt_iff_toInt_lt] at q; omega
  have a2 := c_l2i (own_minL (65536 : Int64) (wd - (65536 : Int64)))
  have g := rng32 (own_minL (65536 : Int64) (wd - (65536 : Int64))).toInt32
  have p : 0 ≤ (own_minL (65536 : Int64) (wd - (65536 : Int64))).toInt32.toInt := by omega
  have a3 := own_clamp p
  refine ⟨own_nlt p, ?_⟩
  unfold own_pl
  rw [Nat.mul_one]
  have w0 : (wd.toInt.toNat : Int) = wd.toInt := by omega
  have t1 : ((own_minL (65536 : Int64) (wd - (65536 : Int64))).toInt32).toInt = min 65536 (wd.toInt - 65536) := by omega
  rw [t1] at a3
  clear t1 a2 g p m1 g1 b1 e3
  generalize (own_minL (65536 : Int64) (wd - (65536 : Int64))).toInt32.toNatClampNeg = u at a3 ⊢
  generalize wd.toInt.toNat = v at w0 ⊢
  generalize wd.toInt = z at *
  omega
theorem own_ple (wd : Int64) (i : Nat) : own_pl wd i ≤ 65536 := by unfold own_pl; omega
theorem own_pgOf {Z : State} {h : Heap} {t : Addr} {kd : ClassId} {n : Int32} {m : Nat} (V : Arv Z h t kd .long n [] (.long (0 : Int64))) (hn : n.toNatClampNeg = m) : Pg Z h t m (fun _ => 0) := by
  obtain ⟨c, A, -, S, -, H, -⟩ := V
  exact ⟨c, A, S.trans hn, fun j hj => H j (by omega)⟩
section OwnMk
variable {Z : State} {h : Heap} {a P t0 t1 : Addr} {kc kd ke : ClassId} {n m : Int32} {sz wd : Int64}
theorem own_mk1 (E : Exa Z h a "com/example/gatefield/gatefield/model/RecordSet") (Fs : Fld Z h a "com/example/gatefield/gatefield/model/RecordSet" "size" "J" (.long sz)) (Fw : Fld Z h a "com/example/gatefield/gatefield/model/RecordSet" "words" "J" (.long wd)) (Fp : Fld Z h a "com/example/gatefield/gatefield/model/RecordSet" "pages" "[[J" (.ref P)) (V : Arv Z h P kc (.array .long) (1 : Int32) [.ref t0] .null) (V0 : Arv Z h t0 kd .long n [] (.long (0 : Int64))) (hn : n.toNatClampNeg = own_pl wd 0) (hw : own_np wd = 1) (na : a ≠ t0) (nP : P ≠ t0) : RS Z h a P (fun _ => t0) sz wd (fun _ => 0) := by
  refine ⟨E, Fs, Fw, Fp, ?_, ?_, ?_, fun _ _ => na, fun _ _ => nP⟩
  · obtain ⟨c, A, -, S, -, H, -⟩ := V
    refine ⟨c, A, S.trans hw.symm, fun j hj => ?_⟩
    have j0 : j = 0 := by omega
    subst j0
    exact H 0 (by rw [S]; decide)
  · intro i hi
    have i0 : i = 0 := by omega
    subst i0
    exact own_pgOf V0 hn
  · intro i j hi hj _
    omega
theorem own_mk2 (E : Exa Z h a "com/example/gatefield/gatefield/model/RecordSet") (Fs : Fld Z h a "com/example/gatefield/gatefield/model/RecordSet" "size" "J" (.long sz)) (Fw : Fld Z h a "com/example/gatefield/gatefield/model/RecordSet" "words" "J" (.long wd)) (Fp : Fld Z h a "com/example/gatefield/gatefield/model/RecordSet" "pages" "[[J" (.ref P)) (V : Arv Z h P kc (.array .long) (2 : Int32) [.ref t0, .ref t1] .null) (V0 : Arv Z h t0 kd .long n [] (.long (0 : Int64))) (hn : n.toNatClampNeg = own_pl wd 0) (V1 : Arv Z h t1 ke .long m [] (.long (0 : Int64))) (hm : m.toNatClampNeg = own_pl wd 1) (hw : own_np wd = 2) (na : a ≠ t0) (nP : P ≠ t0) (na1 : a ≠ t1) (nP1 : P ≠ t1) (n01 : t0 ≠ t1) : RS Z h a P (fun i => if i = 0 then t0 else t1) sz wd (fun _ => 0) := by
  refine ⟨E, Fs, Fw, Fp, ?_, ?_, ?_, fun i _ => ?_, fun i _ => ?_⟩
  · obtain ⟨c, A, -, S, -, H, -⟩ := V
    refine ⟨c, A, S.trans hw.symm, fun j hj => ?_⟩
    rcases (by omega : j = 0 ∨ j = 1) with rfl | rfl
    · exact H 0 (by rw [S]; decide)
    · exact H 1 (by rw [S]; decide)
  · intro i hi
    rcases (by omega : i = 0 ∨ i = 1) with rfl | rfl
    · exact own_pgOf V0 hn
    · exact own_pgOf V1 hm
  · intro i j hi hj q
    rcases (by omega : i = 0 ∨ i = 1) with rfl | rfl <;> rcases (by omega : j = 0 ∨ j = 1) with rfl | rfl
    · rfl
    · exact absurd q n01
    · exact absurd q.symm n01
    · rfl
  · show a ≠ if i = 0 then t0 else t1
    split <;> assumption
  · show P ≠ if i = 0 then t0 else t1
    split <;> assumption
end OwnMk
def own_next (W : Nat → Int64) (sz wd c : Int64) : Int64 := if c < sz then own_nx W (wd.toInt.toNat - 1 - own_kx c) (((c.toUInt64 >>> ((6 : Int32) &&& 0x3f).toInt64.toUInt64).toInt64)) (W (own_kx c) &&& own_msk c) else (-1 : Int64)
theorem own_kxk {r k : Int64} (h0 : 0 ≤ r.toInt) (hk : k.toInt = r.toInt / 64) : k.toInt.toNat = own_kx r := by unfold own_kx; omega
theorem own_wf (a b : Int64) (y : Nat) : (if y = own_kx b then (if own_kx b = own_kx a then ((0 : Int64) ||| own_bit a) else 0) ||| own_bit b else (if y = own_kx a then ((0 : Int64) ||| own_bit a) else 0)) = own_W2 a b y := by
  unfold own_W2 own_pt
  rw [own_bitB, own_bitB, own_or0]
  by_cases h1 : y = own_kx b
  · subst h1; simp
  · simp [h1]
theorem own_rem (x sz : Int64) (h : 1 ≤ sz.toInt) : 0 ≤ ((x &&& (9223372036854775807 : Int64)) % sz).toInt ∧ ((x &&& (9223372036854775807 : Int64)) % sz).toInt < sz.toInt := by
  have h1 : (x &&& 9223372036854775807).toInt = x.toInt % (2 ^ 63 : Nat) := c_maskL x 9223372036854775807 63 (by decide) (by decide)
  rw [Int64.toInt_mod]
  have p : 0 ≤ (x &&& 9223372036854775807).toInt := by omega
  rw [Int.tmod_eq_emod_of_nonneg p]
  exact ⟨Int.emod_nonneg _ (by omega), Int.emod_lt_of_pos _ (by omega)⟩
theorem own_szr (x : Int64) : 1 ≤ ((x &&& (8388607 : Int64)) + (1 : Int64)).toInt ∧ ((x &&& (8388607 : Int64)) + (1 : Int64)).toInt ≤ 8388608 := by
  have h1 : (x &&& 8388607).toInt = x.toInt % (2 ^ 23 : Nat) := c_maskL x 8388607 23 (by decide) (by decide)
  have h2 := c_ladd (x &&& 8388607) 1
  have e : (1 : Int64).toInt = 1 := rfl
  have g := rng64 ((x &&& 8388607) + 1)
  omega
theorem own_ne0 {x : Int64} (h : 1 ≤ x.toInt) : x ≠ 0 := fun e => by
  subst e
  have : (0 : Int64).toInt = 0 := rfl
  omega
theorem own_sz2 {sz : Int64} (h : 1 ≤ sz.toInt ∧ sz.toInt ≤ 8388608) : (sz + (2 : Int64)).toInt = sz.toInt + 2 := by
  have h2 := c_ladd sz 2
  have e : (2 : Int64).toInt = 2 := rfl
  have g := rng64 (sz + 2)
  omega
theorem own_fin (sz wd a b c ex : Int64) (hs : 1 ≤ sz.toInt ∧ sz.toInt ≤ 8388608) (hwd : wd.toInt = (sz.toInt + 63) / 64) (ha : 0 ≤ a.toInt ∧ a.toInt < sz.toInt) (hb : 0 ≤ b.toInt ∧ b.toInt < sz.toInt) (hc : 0 ≤ c.toInt)
    (h : ex = if own_minL a b < c then (if own_maxL a b < c then (-1 : Int64) else own_maxL a b) else own_minL a b) :
    own_next (fun y => if y = own_kx b then (if own_kx b = own_kx a then ((0 : Int64) ||| own_bit a) else 0) ||| own_bit b else (if y = own_kx a then ((0 : Int64) ||| own_bit a) else 0)) sz wd c = ex := by
  rw [show (fun y => if y = own_kx b then (if own_kx b = own_kx a then ((0 : Int64) ||| own_bit a) else 0) ||| own_bit b else (if y = own_kx a then ((0 : Int64) ||| own_bit a) else 0)) = own_W2 a b from funext (own_wf a b)]
  unfold own_next
  have key : ∀ u v : Int64, 0 ≤ u.toInt → u.toInt ≤ v.toInt → v.toInt < sz.toInt → (if c < sz then own_nx (own_W2 u v) (wd.toInt.toNat - 1 - own_kx c) (((c.toUInt64 >>> ((6 : Int32) &&& 0x3f).toInt64.toUInt64).toInt64)) (own_W2 u v (own_kx c) &&& own_msk c) else (-1 : Int64)) = if ¬ u < c then u else if ¬ v < c then v else -1 := by
    intro u v h1 h2 h3
    by_cases q : c < sz
    · rw [if_pos q]
      rw [Int64.lt_iff_toInt_lt] at q
      have k6 := own_k6 c hc
      exact own_main sz u v c hs.2 h1 h2 h3 hc q _ (by unfold own_kx; omega) _ (by unfold own_kx; omega)
    · rw [if_neg q]
      rw [Int64.lt_iff_toInt_lt] at q
      simp only [Int64.lt_iff_toInt_lt]
      rw [if_neg (by omega), if_neg (by omega)]
  subst h
  have tw : ∀ x y z : Int64, (if x < z then (if y < z then (-1 : Int64) else y) else x) = if ¬ x < z then x else if ¬ y < z then y else -1 := by
    intro x y z
    by_cases q1 : x < z <;> by_cases q2 : y < z <;> simp [q1, q2]
  rw [tw]
  by_cases q : a.toInt ≤ b.toInt
  · have e1 : own_minL a b = a := by
      unfold own_minL
      split
      · rename_i g; rw [Int64.lt_iff_toInt_lt] at g; omega
      · rfl
    have e2 : own_maxL a b = b := by
      unfold own_maxL
      split
      · rfl
      · rename_i g; rw [Int64.lt_iff_toInt_lt] at g; rw [← Int64.toInt_inj]; omega
    rw [e1, e2]
    exact key a b ha.1 q hb.2
  · have e1 : own_minL a b = b := by
      unfold own_minL
      split
      · rfl
      · rename_i g; rw [Int64.lt_iff_toInt_lt] at g; omega
    have e2 : own_maxL a b = a := by
      unfold own_maxL
      split
      · rename_i g; rw [Int64.lt_iff_toInt_lt] at g; omega
      · rfl
    rw [e1, e2, own_W2_comm]
    exact key b a hb.1 (by omega) ha.2

theorem d7_0 : decode prog_54_method_8_code 0 = .ok (.aload_n 0, 1) := by decide +kernel
theorem d7_1 : decode prog_54_method_8_code 1 = .ok (.getfield 24, 3) := by decide +kernel
theorem d7_4 : decode prog_54_method_8_code 4 = .ok (.lload_n 1, 1) := by decide +kernel
theorem d7_5 : decode prog_54_method_8_code 5 = .ok (.bipush 16, 2) := by decide +kernel
theorem d7_7 : decode prog_54_method_8_code 7 = .ok (.lushr, 1) := by decide +kernel
theorem d7_8 : decode prog_54_method_8_code 8 = .ok (.l2i, 1) := by decide +kernel
theorem d7_9 : decode prog_54_method_8_code 9 = .ok (.aaload, 1) := by decide +kernel
theorem d7_10 : decode prog_54_method_8_code 10 = .ok (.lload_n 1, 1) := by decide +kernel
theorem d7_11 : decode prog_54_method_8_code 11 = .ok (.l2i, 1) := by decide +kernel
theorem d7_12 : decode prog_54_method_8_code 12 = .ok (.ldc 34, 2) := by decide +kernel
theorem d7_14 : decode prog_54_method_8_code 14 = .ok (.iand, 1) := by decide +kernel
theorem d7_15 : decode prog_54_method_8_code 15 = .ok (.laload, 1) := by decide +kernel
theorem d7_16 : decode prog_54_method_8_code 16 = .ok (.lreturn, 1) := by decide +kernel
theorem pn_7 : plainName "com/example/gatefield/gatefield/model/RecordSet" = true := by first | (simp [plainName, overriddenIn]; done) | decide +kernel
theorem ef_rm7 (m_ : MethodId) (a : Addr) (k : Int64) : entryFrame m_ #[(.ref a), (.long k)] 3 = mkF m_ 0 #[.val (.ref a), .val (.long k), .second] [] := by first | (simp [entryFrame, mkF, argsToLocals, Value.category]; done) | rfl
def Q7 (Z : State) (a : Addr) (k : Int64) (P : Addr) (tp : Nat → Addr) (sz : Int64) (wd : Int64) (W : Nat → Int64) (h0 : Heap) (n0 : Nat) (v : Option Value) (h : Heap) (L : List Loc) : Prop := v = some (.long (W k.toInt.toNat)) ∧ Fr n0 L ∧ h = h0
set_option maxRecDepth 65536 in
set_option maxHeartbeats 40000000 in
theorem rm7 (l : Launch) (Z : State) (a0 : Array Value) (hw : ∀ d ∈ tables_1, d.before a0 Z = true) (ws : List Jvm.Cond) (a : Addr) (k : Int64) (P : Addr) (tp : Nat → Addr) (sz : Int64) (wd : Int64) (W : Nat → Int64) (h0 : Heap) (n0 : Nat) (Z0 : n0 ≤ h0.size) (R_ : RS Z h0 a P tp sz wd W) (hk0 : 0 ≤ k.toInt) (hk1 : k.toInt < wd.toInt) (hwd2 : wd.toInt ≤ 131072) :
    MetFree l (⟨"com/example/gatefield/gatefield/model/RecordSet", "word", "(J)J"⟩ : MethodName) (head1 (Jvm.Cond.code (⟨"com/example/gatefield/gatefield/model/RecordSet", "word", "(J)J"⟩ : MethodName) prog_54_method_8_code 3 (some .long) :: ws) ({ frames := 0, cells := 0, slots := 0, locals := 0 } : Room)) (fun a_ U_ => a_ = #[(.ref a), (.long k)] ∧ Z.Warmed39 U_.vm ∧ U_.heap = h0) (fun _ _ _ _ _ => True) (fun _ U_ o_ V_ => ∃ v_ L_, o_ = .returned v_ ∧ Q7 Z a k P tp sz wd W h0 n0 v_ V_.heap L_ ∧ FrameEnd U_ o_ V_ L_ ({ frames := 0, cells := 0, slots := 0, locals := 0 } : Room).cells ({ frames := 0, cells := 0, slots := 0, locals := 0 } : Room).slots) := by
  refine metOf (Q := Q7 Z a k P tp sz wd W h0 n0) (plainFor_of_name pn_7) ?_
  intro p_ e_ s_ m_ below meth c_ s₁ X0 hx hby hml hret hlk hZ hown hnm e0
  rw [ef_rm7]
  have N0 := Fr.nil n0
  show Go p_ e_ below _ _ s₁ (mkF m_ 0 #[.val (.ref a), .val (.long k), .second] [])
  refine Go.aloadN X0 hx (hb hby d7_0) rfl rfl ?_
  refine Go.getF X0 hx hZ hown (host := "") (Or.inl (hw _ (List.mem_of_getElem? (i := 20) rfl))) Via.refl e0 R_.2.2.2.1 (hb hby d7_1) ?_
  intro T1 X1 e1
  show Go p_ e_ below _ _ T1 (mkF m_ 4 #[.val (.ref a), .val (.long k), .second] [(.ref P)])
  refine Go.lloadN X1 hx (hb hby d7_4) rfl ?_
  refine Go.bipush X1 hx (16 : Int32) (hb hby d7_5) rfl ?_
  refine Go.lushr X1 hx (hb hby d7_7) ?_
  refine Go.l2i X1 hx (hb hby d7_8) ?_
  obtain ⟨cP, AP, sP, hP⟩ := id R_.2.2.2.2.1
  have ix := own_aix k wd hk0 hk1 hwd2
  refine Go.aaload X1 hx hZ e1 AP rfl (own_inb2 sP ix) (v := .ref (tp (k.toInt.toNat / 65536))) (by rw [ix.2.1]; exact hP _ ix.2.2) (hb hby d7_9) ?_
  refine Go.lloadN X1 hx (hb hby d7_10) rfl ?_
  refine Go.l2i X1 hx (hb hby d7_11) ?_
  refine Go.ldcI X1 hx hZ hown (hw _ (List.mem_of_getElem? (i := 33) rfl)) (hb hby d7_12) ?_
  refine Go.iand X1 hx (hb hby d7_14) ?_
  obtain ⟨ct, At, sT, hT⟩ := id (R_.2.2.2.2.2.1 _ ix.2.2)
  have iy := own_bix k wd hk0 hk1 hwd2
  refine Go.laload X1 hx hZ e1 At (own_inb2 sT iy) (v := .long (W k.toInt.toNat)) (by rw [iy.2.1, hT _ iy.2.2]; show some (Value.long (W (65536 * _ + _))) = _; rw [Nat.div_add_mod]) (hb hby d7_15) ?_
  refine Go.retJ X1 hx hret hlk (hb hby d7_16) (by decide) (by decide) ?_
  exact ⟨rfl, N0, e1⟩
theorem d4_0 : decode prog_54_method_2_code 0 = .ok (.lload_n 1, 1) := by decide +kernel
theorem d4_1 : decode prog_54_method_2_code 1 = .ok (.bipush 6, 2) := by decide +kernel
theorem d4_3 : decode prog_54_method_2_code 3 = .ok (.lushr, 1) := by decide +kernel
theorem d4_4 : decode prog_54_method_2_code 4 = .ok (.lstore_n 3, 1) := by decide +kernel
theorem d4_5 : decode prog_54_method_2_code 5 = .ok (.aload_n 0, 1) := by decide +kernel
theorem d4_6 : decode prog_54_method_2_code 6 = .ok (.getfield 24, 3) := by decide +kernel
theorem d4_9 : decode prog_54_method_2_code 9 = .ok (.lload_n 3, 1) := by decide +kernel
theorem d4_10 : decode prog_54_method_2_code 10 = .ok (.bipush 16, 2) := by decide +kernel
theorem d4_12 : decode prog_54_method_2_code 12 = .ok (.lushr, 1) := by decide +kernel
theorem d4_13 : decode prog_54_method_2_code 13 = .ok (.l2i, 1) := by decide +kernel
theorem d4_14 : decode prog_54_method_2_code 14 = .ok (.aaload, 1) := by decide +kernel
theorem d4_15 : decode prog_54_method_2_code 15 = .ok (.lload_n 3, 1) := by decide +kernel
theorem d4_16 : decode prog_54_method_2_code 16 = .ok (.l2i, 1) := by decide +kernel
theorem d4_17 : decode prog_54_method_2_code 17 = .ok (.ldc 34, 2) := by decide +kernel
theorem d4_19 : decode prog_54_method_2_code 19 = .ok (.iand, 1) := by decide +kernel
theorem d4_20 : decode prog_54_method_2_code 20 = .ok (.dup2, 1) := by decide +kernel
theorem d4_21 : decode prog_54_method_2_code 21 = .ok (.laload, 1) := by decide +kernel
theorem d4_22 : decode prog_54_method_2_code 22 = .ok (.lconst 1, 1) := by decide +kernel
theorem d4_23 : decode prog_54_method_2_code 23 = .ok (.lload_n 1, 1) := by decide +kernel
theorem d4_24 : decode prog_54_method_2_code 24 = .ok (.l2i, 1) := by decide +kernel
theorem d4_25 : decode prog_54_method_2_code 25 = .ok (.lshl, 1) := by decide +kernel
theorem d4_26 : decode prog_54_method_2_code 26 = .ok (.lor, 1) := by decide +kernel
theorem d4_27 : decode prog_54_method_2_code 27 = .ok (.lastore, 1) := by decide +kernel
theorem d4_28 : decode prog_54_method_2_code 28 = .ok (.return_, 1) := by decide +kernel
theorem pn_4 : plainName "com/example/gatefield/gatefield/model/RecordSet" = true := by first | (simp [plainName, overriddenIn]; done) | decide +kernel
theorem ef_rm4 (m_ : MethodId) (a : Addr) (r : Int64) : entryFrame m_ #[(.ref a), (.long r)] 5 = mkF m_ 0 #[.val (.ref a), .val (.long r), .second, .unset, .unset] [] := by first | (simp [entryFrame, mkF, argsToLocals, Value.category]; done) | rfl
def Q4 (Z : State) (a : Addr) (r : Int64) (P : Addr) (tp : Nat → Addr) (sz : Int64) (wd : Int64) (W : Nat → Int64) (h0 : Heap) (n0 : Nat) (v : Option Value) (h : Heap) (L : List Loc) : Prop := v = none ∧ Fr n0 L ∧ n0 ≤ h.size ∧ RS Z h a P tp sz wd (fun y => if y = own_kx r then W (own_kx r) ||| own_bit r else W y)
set_option maxRecDepth 65536 in
set_option maxHeartbeats 40000000 in
theorem rm4 (l : Launch) (Z : State) (a0 : Array Value) (hw : ∀ d ∈ tables_1, d.before a0 Z = true) (ws : List Jvm.Cond) (a : Addr) (r : Int64) (P : Addr) (tp : Nat → Addr) (sz : Int64) (wd : Int64) (W : Nat → Int64) (h0 : Heap) (n0 : Nat) (Z0 : n0 ≤ h0.size) (R_ : RS Z h0 a P tp sz wd W) (hr0 : 0 ≤ r.toInt) (hr1 : r.toInt < sz.toInt) (hwd : wd.toInt = (sz.toInt + 63) / 64) (hwd2 : wd.toInt ≤ 131072) (hn : ∀ i, i < own_np wd → n0 ≤ tp i) :
    MetFree l (⟨"com/example/gatefield/gatefield/model/RecordSet", "add", "(J)V"⟩ : MethodName) (head1 (Jvm.Cond.code (⟨"com/example/gatefield/gatefield/model/RecordSet", "add", "(J)V"⟩ : MethodName) prog_54_method_2_code 5 none :: ws) ({ frames := 0, cells := 0, slots := 0, locals := 0 } : Room)) (fun a_ U_ => a_ = #[(.ref a), (.long r)] ∧ Z.Warmed39 U_.vm ∧ U_.heap = h0) (fun _ _ _ _ _ => True) (fun _ U_ o_ V_ => ∃ v_ L_, o_ = .returned v_ ∧ Q4 Z a r P tp sz wd W h0 n0 v_ V_.heap L_ ∧ FrameEnd U_ o_ V_ L_ ({ frames := 0, cells := 0, slots := 0, locals := 0 } : Room).cells ({ frames := 0, cells := 0, slots := 0, locals := 0 } : Room).slots) := by
  refine metOf (Q := Q4 Z a r P tp sz wd W h0 n0) (plainFor_of_name pn_4) ?_
  intro p_ e_ s_ m_ below meth c_ s₁ X0 hx hby hml hret hlk hZ hown hnm e0
  rw [ef_rm4]
  have N0 := Fr.nil n0
  show Go p_ e_ below _ _ s₁ (mkF m_ 0 #[.val (.ref a), .val (.long r), .second, .unset, .unset] [])
  refine Go.lloadN X0 hx (hb hby d4_0) rfl ?_
  refine Go.bipush X0 hx (6 : Int32) (hb hby d4_1) rfl ?_
  refine Go.lushr X0 hx (hb hby d4_3) ?_
  refine Go.lstoreN X0 hx (l' := #[.val (.ref a), .val (.long r), .second, .val (.long ((r.toUInt64 >>> ((6 : Int32) &&& 0x3f).toInt64.toUInt64).toInt64)), .second]) (hb hby d4_4) rfl ?_
  show Go p_ e_ below _ _ s₁ (mkF m_ 5 #[.val (.ref a), .val (.long r), .second, .val (.long ((r.toUInt64 >>> ((6 : Int32) &&& 0x3f).toInt64.toUInt64).toInt64)), .second] [])
  obtain ⟨k, q_k⟩ : ∃ z, z = ((r.toUInt64 >>> ((6 : Int32) &&& 0x3f).toInt64.toUInt64).toInt64) := ⟨_, rfl⟩
  rw [← q_k]
  have r_k : k.toInt = r.toInt / 64 := by rw [q_k]; exact own_k6 r hr0
  have hk0 : 0 ≤ k.toInt := by omega
  have hk1 : k.toInt < wd.toInt := by omega
  show Go p_ e_ below _ _ s₁ (mkF m_ 5 #[.val (.ref a), .val (.long r), .second, .val (.long k), .second] [])
  refine Go.aloadN X0 hx (hb hby d4_5) rfl rfl ?_
  refine Go.getF X0 hx hZ hown (host := "") (Or.inl (hw _ (List.mem_of_getElem? (i := 20) rfl))) Via.refl e0 R_.2.2.2.1 (hb hby d4_6) ?_
  intro T1 X1 e1
  show Go p_ e_ below _ _ T1 (mkF m_ 9 #[.val (.ref a), .val (.long r), .second, .val (.long k), .second] [(.ref P)])
  refine Go.lloadN X1 hx (hb hby d4_9) rfl ?_
  refine Go.bipush X1 hx (16 : Int32) (hb hby d4_10) rfl ?_
  refine Go.lushr X1 hx (hb hby d4_12) ?_
  refine Go.l2i X1 hx (hb hby d4_13) ?_
  obtain ⟨cP, AP, sP, hP⟩ := id R_.2.2.2.2.1
  have ix := own_aix k wd hk0 hk1 hwd2
  refine Go.aaload X1 hx hZ e1 AP rfl (own_inb2 sP ix) (v := .ref (tp (k.toInt.toNat / 65536))) (by rw [ix.2.1]; exact hP _ ix.2.2) (hb hby d4_14) ?_
  refine Go.lloadN X1 hx (hb hby d4_15) rfl ?_
  refine Go.l2i X1 hx (hb hby d4_16) ?_
  refine Go.ldcI X1 hx hZ hown (hw _ (List.mem_of_getElem? (i := 33) rfl)) (hb hby d4_17) ?_
  refine Go.iand X1 hx (hb hby d4_19) ?_
  refine Go.dup2RI X1 hx (hb hby d4_20) ?_
  obtain ⟨ct, At, sT, hT⟩ := id (R_.2.2.2.2.2.1 _ ix.2.2)
  have iy := own_bix k wd hk0 hk1 hwd2
  refine Go.laload X1 hx hZ e1 At (own_inb2 sT iy) (v := .long (W k.toInt.toNat)) (by rw [iy.2.1, hT _ iy.2.2]; show some (Value.long (W (65536 * _ + _))) = _; rw [Nat.div_add_mod]) (hb hby d4_21) ?_
  refine Go.lconst X1 hx (1 : Int64) (hb hby d4_22) rfl ?_
  refine Go.lloadN X1 hx (hb hby d4_23) rfl ?_
  show Go p_ e_ below _ _ T1 (mkF m_ 24 #[.val (.ref a), .val (.long r), .second, .val (.long k), .second] [(.long r), (.long (1 : Int64)), (.long (W k.toInt.toNat)), (.int ((k.toInt32) &&& (65535 : Int32))), (.ref (tp (k.toInt.toNat / 65536)))])
  refine Go.l2i X1 hx (hb hby d4_24) ?_
  refine Go.lshl X1 hx (hb hby d4_25) ?_
  refine Go.lor X1 hx (hb hby d4_26) ?_
  refine Go.stJ X1 hx hZ e1 At (own_inb2 sT iy) (hb hby d4_27) ?_
  intro T2 h2 X2 e2 W2
  have N2 := Fr.snoc X2 N0 (hn _ ix.2.2)
  rw [iy.2.1] at W2
  have zz : n0 ≤ h2.size := by rw [W2.size]; exact Z0
  have R2 := RS.set R_ ix.2.2 iy.2.2 W2
  rw [Nat.div_add_mod, own_kxk hr0 r_k] at R2
  show Go p_ e_ below _ _ T2 (mkF m_ 28 #[.val (.ref a), .val (.long r), .second, .val (.long k), .second] [])
  refine Go.retV X2 hx hret hlk (hb hby d4_28) (by decide) (by decide) ?_
  rw [e2]
  exact ⟨rfl, N2, zz, R2⟩
theorem pd_oJcJ : parseMethodDescriptor "(J)J" = some ⟨[.long], some .long⟩ := by decide +kernel
theorem pd_oJcI : parseMethodDescriptor "(J)I" = some ⟨[.long], some .int⟩ := by decide +kernel
theorem d6_0 : decode prog_54_method_4_code 0 = .ok (.lload_n 1, 1) := by decide +kernel
theorem d6_1 : decode prog_54_method_4_code 1 = .ok (.aload_n 0, 1) := by decide +kernel
theorem d6_2 : decode prog_54_method_4_code 2 = .ok (.getfield 9, 3) := by decide +kernel
theorem d6_5 : decode prog_54_method_4_code 5 = .ok (.lcmp, 1) := by decide +kernel
theorem d6_6 : decode prog_54_method_4_code 6 = .ok (.ifCond .lt 7, 3) := by decide +kernel
theorem d6_9 : decode prog_54_method_4_code 9 = .ok (.ldc2_w 37, 3) := by decide +kernel
theorem d6_12 : decode prog_54_method_4_code 12 = .ok (.lreturn, 1) := by decide +kernel
theorem d6_13 : decode prog_54_method_4_code 13 = .ok (.lload_n 1, 1) := by decide +kernel
theorem d6_14 : decode prog_54_method_4_code 14 = .ok (.bipush 6, 2) := by decide +kernel
theorem d6_16 : decode prog_54_method_4_code 16 = .ok (.lushr, 1) := by decide +kernel
theorem d6_17 : decode prog_54_method_4_code 17 = .ok (.lstore_n 3, 1) := by decide +kernel
theorem d6_18 : decode prog_54_method_4_code 18 = .ok (.aload_n 0, 1) := by decide +kernel
theorem d6_19 : decode prog_54_method_4_code 19 = .ok (.lload_n 3, 1) := by decide +kernel
theorem d6_20 : decode prog_54_method_4_code 20 = .ok (.invokevirtual 39, 3) := by decide +kernel
theorem d6_23 : decode prog_54_method_4_code 23 = .ok (.ldc2_w 37, 3) := by decide +kernel
theorem d6_26 : decode prog_54_method_4_code 26 = .ok (.lload_n 1, 1) := by decide +kernel
theorem d6_27 : decode prog_54_method_4_code 27 = .ok (.l2i, 1) := by decide +kernel
theorem d6_28 : decode prog_54_method_4_code 28 = .ok (.lshl, 1) := by decide +kernel
theorem d6_29 : decode prog_54_method_4_code 29 = .ok (.land, 1) := by decide +kernel
theorem d6_30 : decode prog_54_method_4_code 30 = .ok (.lstore 5, 2) := by decide +kernel
theorem d6_32 : decode prog_54_method_4_code 32 = .ok (.lload 5, 2) := by decide +kernel
theorem d6_34 : decode prog_54_method_4_code 34 = .ok (.lconst 0, 1) := by decide +kernel
theorem d6_35 : decode prog_54_method_4_code 35 = .ok (.lcmp, 1) := by decide +kernel
theorem d6_36 : decode prog_54_method_4_code 36 = .ok (.ifCond .ne 30, 3) := by decide +kernel
theorem d6_39 : decode prog_54_method_4_code 39 = .ok (.lload_n 3, 1) := by decide +kernel
theorem d6_40 : decode prog_54_method_4_code 40 = .ok (.lconst 1, 1) := by decide +kernel
theorem d6_41 : decode prog_54_method_4_code 41 = .ok (.ladd, 1) := by decide +kernel
theorem d6_42 : decode prog_54_method_4_code 42 = .ok (.dup2, 1) := by decide +kernel
theorem d6_43 : decode prog_54_method_4_code 43 = .ok (.lstore_n 3, 1) := by decide +kernel
theorem d6_44 : decode prog_54_method_4_code 44 = .ok (.aload_n 0, 1) := by decide +kernel
theorem d6_45 : decode prog_54_method_4_code 45 = .ok (.getfield 17, 3) := by decide +kernel
theorem d6_48 : decode prog_54_method_4_code 48 = .ok (.lcmp, 1) := by decide +kernel
theorem d6_49 : decode prog_54_method_4_code 49 = .ok (.ifCond .ne 7, 3) := by decide +kernel
theorem d6_52 : decode prog_54_method_4_code 52 = .ok (.ldc2_w 37, 3) := by decide +kernel
theorem d6_55 : decode prog_54_method_4_code 55 = .ok (.lreturn, 1) := by decide +kernel
theorem d6_56 : decode prog_54_method_4_code 56 = .ok (.aload_n 0, 1) := by decide +kernel
theorem d6_57 : decode prog_54_method_4_code 57 = .ok (.lload_n 3, 1) := by decide +kernel
theorem d6_58 : decode prog_54_method_4_code 58 = .ok (.invokevirtual 39, 3) := by decide +kernel
theorem d6_61 : decode prog_54_method_4_code 61 = .ok (.lstore 5, 2) := by decide +kernel
theorem d6_63 : decode prog_54_method_4_code 63 = .ok (.goto (-31), 3) := by decide +kernel
theorem d6_66 : decode prog_54_method_4_code 66 = .ok (.lload_n 3, 1) := by decide +kernel
theorem d6_67 : decode prog_54_method_4_code 67 = .ok (.bipush 6, 2) := by decide +kernel
theorem d6_69 : decode prog_54_method_4_code 69 = .ok (.lshl, 1) := by decide +kernel
theorem d6_70 : decode prog_54_method_4_code 70 = .ok (.lload 5, 2) := by decide +kernel
theorem d6_72 : decode prog_54_method_4_code 72 = .ok (.invokestatic 43, 3) := by decide +kernel
theorem d6_75 : decode prog_54_method_4_code 75 = .ok (.i2l, 1) := by decide +kernel
theorem d6_76 : decode prog_54_method_4_code 76 = .ok (.lor, 1) := by decide +kernel
theorem d6_77 : decode prog_54_method_4_code 77 = .ok (.lreturn, 1) := by decide +kernel
theorem pn_6 : plainName "com/example/gatefield/gatefield/model/RecordSet" = true := by first | (simp [plainName, overriddenIn]; done) | decide +kernel
theorem ef_rm6 (m_ : MethodId) (a : Addr) (c : Int64) : entryFrame m_ #[(.ref a), (.long c)] 7 = mkF m_ 0 #[.val (.ref a), .val (.long c), .second, .unset, .unset, .unset, .unset] [] := by first | (simp [entryFrame, mkF, argsToLocals, Value.category]; done) | rfl
def Q6 (Z : State) (a : Addr) (c : Int64) (P : Addr) (tp : Nat → Addr) (sz : Int64) (wd : Int64) (W : Nat → Int64) (h0 : Heap) (n0 : Nat) (v : Option Value) (h : Heap) (L : List Loc) : Prop := v = some (.long (own_next W sz wd c)) ∧ Fr n0 L ∧ h = h0
set_option maxRecDepth 65536 in
set_option maxHeartbeats 40000000 in
theorem rm6 (l : Launch) (Z : State) (a0 : Array Value) (hw : ∀ d ∈ tables_1, d.before a0 Z = true) (ws : List Jvm.Cond) (a : Addr) (c : Int64) (P : Addr) (tp : Nat → Addr) (sz : Int64) (wd : Int64) (W : Nat → Int64) (h0 : Heap) (n0 : Nat) (Z0 : n0 ≤ h0.size) (R_ : RS Z h0 a P tp sz wd W) (hc0 : 0 ≤ c.toInt) (hwd : wd.toInt = (sz.toInt + 63) / 64) (hwd2 : wd.toInt ≤ 131072) :
    MetFree l (⟨"com/example/gatefield/gatefield/model/RecordSet", "next", "(J)J"⟩ : MethodName) (head1 (Jvm.Cond.code (⟨"com/example/gatefield/gatefield/model/RecordSet", "next", "(J)J"⟩ : MethodName) prog_54_method_4_code 7 (some .long) :: ws) ({ frames := 2, cells := 0, slots := 0, locals := 30 } : Room)) (fun a_ U_ => a_ = #[(.ref a), (.long c)] ∧ Z.Warmed39 U_.vm ∧ U_.heap = h0) (fun _ _ _ _ _ => True) (fun _ U_ o_ V_ => ∃ v_ L_, o_ = .returned v_ ∧ Q6 Z a c P tp sz wd W h0 n0 v_ V_.heap L_ ∧ FrameEnd U_ o_ V_ L_ ({ frames := 2, cells := 0, slots := 0, locals := 30 } : Room).cells ({ frames := 2, cells := 0, slots := 0, locals := 30 } : Room).slots) := by
  refine metOf (Q := Q6 Z a c P tp sz wd W h0 n0) (plainFor_of_name pn_6) ?_
  intro p_ e_ s_ m_ below meth c_ s₁ X0 hx hby hml hret hlk hZ hown hnm e0
  rw [ef_rm6]
  have N0 := Fr.nil n0
  show Go p_ e_ below _ _ s₁ (mkF m_ 0 #[.val (.ref a), .val (.long c), .second, .unset, .unset, .unset, .unset] [])
  refine Go.lloadN X0 hx (hb hby d6_0) rfl ?_
  refine Go.aloadN X0 hx (hb hby d6_1) rfl rfl ?_
  refine Go.getF X0 hx hZ hown (host := "") (Or.inl (hw _ (List.mem_of_getElem? (i := 12) rfl))) Via.refl e0 R_.2.1 (hb hby d6_2) ?_
  intro T1 X1 e1
  show Go p_ e_ below _ _ T1 (mkF m_ 5 #[.val (.ref a), .val (.long c), .second, .unset, .unset, .unset, .unset] [(.long sz), (.long c)])
  refine Go.lcmp X1 hx (hb hby d6_5) ?_
  by_cases hc6_2 : c < sz
  · skip
    refine Go.ifYes X1 hx (pc' := 13) (hb hby d6_6) (XT.ll_lt_t hc6_2) (by decide) (by decide) ?_
    show Go p_ e_ below _ _ T1 (mkF m_ 13 #[.val (.ref a), .val (.long c), .second, .unset, .unset, .unset, .unset] [])
    refine Go.lloadN X1 hx (hb hby d6_13) rfl ?_
    refine Go.bipush X1 hx (6 : Int32) (hb hby d6_14) rfl ?_
    refine Go.lushr X1 hx (hb hby d6_16) ?_
    refine Go.lstoreN X1 hx (l' := #[.val (.ref a), .val (.long c), .second, .val (.long ((c.toUInt64 >>> ((6 : Int32) &&& 0x3f).toInt64.toUInt64).toInt64)), .second, .unset, .unset]) (hb hby d6_17) rfl ?_
    show Go p_ e_ below _ _ T1 (mkF m_ 18 #[.val (.ref a), .val (.long c), .second, .val (.long ((c.toUInt64 >>> ((6 : Int32) &&& 0x3f).toInt64.toUInt64).toInt64)), .second, .unset, .unset] [])
    obtain ⟨k, q_k⟩ : ∃ z, z = ((c.toUInt64 >>> ((6 : Int32) &&& 0x3f).toInt64.toUInt64).toInt64) := ⟨_, rfl⟩
    rw [← q_k]
    have r_k : k.toInt = c.toInt / 64 := by rw [q_k]; exact own_k6 c hc0
    have hcs := Int64.lt_iff_toInt_lt.mp hc6_2
    have hk0 : 0 ≤ k.toInt := by omega
    have hk1 : k.toInt < wd.toInt := by omega
    show Go p_ e_ below _ _ T1 (mkF m_ 18 #[.val (.ref a), .val (.long c), .second, .val (.long k), .second, .unset, .unset] [])
    refine Go.aloadN X1 hx (hb hby d6_18) rfl rfl ?_
    refine Go.lloadN X1 hx (hb hby d6_19) rfl ?_
    refine Go.callP X1 hx hZ (rm7 l Z a0 hw [] a k P tp sz wd W h0 n0 Z0 R_ hk0 hk1 hwd2) (by decide) hown (hw _ (List.mem_of_getElem? (i := 44) rfl)) (hw _ (List.mem_of_getElem? (i := 45) rfl)) (hw _ (List.mem_of_getElem? (i := 46) rfl)) (hw _ (List.mem_of_getElem? (i := 5) rfl)) (y2 := (⟨"com/example/gatefield/gatefield/model/RecordSet", "add", "(J)V"⟩ : MethodName)) rfl (hw _ (List.mem_of_getElem? (i := 31) rfl)) (hw _ (List.mem_of_getElem? (i := 47) rfl)) e1 R_.1 (W := 0) (by rw [hml]; rfl) (argsL := [(.long k)]) (S := []) (Nat.le_of_ble_eq_true rfl) (by decide) (by decide) (by decide) (by decide) pd_oJcJ rfl rfl (hb hby d6_20) ?_
    rintro _ T3 L3 X3 ⟨rfl, N3q, e3⟩
    have N3 := Fr.app N0 N3q
    show Go p_ e_ below _ _ T3 (mkF m_ 23 #[.val (.ref a), .val (.long c), .second, .val (.long k), .second, .unset, .unset] [(.long (W k.toInt.toNat))])
    refine Go.ldc2J X3 hx hZ hown (hw _ (List.mem_of_getElem? (i := 48) rfl)) (hb hby d6_23) ?_
    refine Go.lloadN X3 hx (hb hby d6_26) rfl ?_
    refine Go.l2i X3 hx (hb hby d6_27) ?_
    refine Go.lshl X3 hx (hb hby d6_28) ?_
    refine Go.land X3 hx (hb hby d6_29) ?_
    refine Go.lstore X3 hx (l' := #[.val (.ref a), .val (.long c), .second, .val (.long k), .second, .val (.long ((W k.toInt.toNat) &&& ((-1 : Int64) <<< ((c.toInt32) &&& 0x3f).toInt64))), .second]) (hb hby d6_30) rfl ?_
    have loop : ∀ (n : Nat) (T1 : State) (l1 : List Loc) (w b : Int64), Stand p_ l e_ ({ frames := 2, cells := 0, slots := 0, locals := 30 } : Room) s_ m_ #[(.ref a), (.long c)] below meth c_ T1 l1 0 0 → Fr n0 l1 → T1.heap = h0 → 0 ≤ w.toInt → w.toInt + n + 1 = wd.toInt → own_next W sz wd c = own_nx W n w b → Go p_ e_ below (FE s_ ({ frames := 2, cells := 0, slots := 0, locals := 30 } : Room).cells ({ frames := 2, cells := 0, slots := 0, locals := 30 } : Room).slots) (Q6 Z a c P tp sz wd W h0 n0) T1 (mkF m_ 32 #[.val (.ref a), .val (.long c), .second, .val (.long w), .second, .val (.long b), .second] []) := by
      intro n
      induction n with
      | zero =>
        intro T1 l1 w b X1 N1 e1 g0 g1 H
        have hE : (w + (1 : Int64)) = wd := by rw [← Int64.toInt_inj]; have := own_suc (w := w) (k := w.toInt.toNat) (by omega) (by omega); omega
        show Go p_ e_ below _ _ T1 (mkF m_ 32 #[.val (.ref a), .val (.long c), .second, .val (.long w), .second, .val (.long b), .second] [])
        refine Go.lload X1 hx (hb hby d6_32) rfl ?_
        refine Go.lconst X1 hx (0 : Int64) (hb hby d6_34) rfl ?_
        refine Go.lcmp X1 hx (hb hby d6_35) ?_
        by_cases hc36_4 : b = (0 : Int64)
        · skip
          refine Go.ifNo X1 hx (hb hby d6_36) (XT.ll_ne_f hc36_4) ?_
          show Go p_ e_ below _ _ T1 (mkF m_ 39 #[.val (.ref a), .val (.long c), .second, .val (.long w), .second, .val (.long b), .second] [])
          refine Go.lloadN X1 hx (hb hby d6_39) rfl ?_
          refine Go.lconst X1 hx (1 : Int64) (hb hby d6_40) rfl ?_
          refine Go.ladd X1 hx (hb hby d6_41) ?_
          refine Go.dup2J X1 hx (hb hby d6_42) ?_
          refine Go.lstoreN X1 hx (l' := #[.val (.ref a), .val (.long c), .second, .val (.long (w + (1 : Int64))), .second, .val (.long b), .second]) (hb hby d6_43) rfl ?_
          refine Go.aloadN X1 hx (hb hby d6_44) rfl rfl ?_
          refine Go.getF X1 hx hZ hown (host := "") (Or.inl (hw _ (List.mem_of_getElem? (i := 15) rfl))) Via.refl e1 R_.2.2.1 (hb hby d6_45) ?_
          intro T5 X5 e5
          show Go p_ e_ below _ _ T5 (mkF m_ 48 #[.val (.ref a), .val (.long c), .second, .val (.long (w + (1 : Int64))), .second, .val (.long b), .second] [(.long wd), (.long (w + (1 : Int64)))])
          refine Go.lcmp X5 hx (hb hby d6_48) ?_
          refine Go.ifNo X5 hx (hb hby d6_49) (XT.ll_ne_f hE) ?_
          show Go p_ e_ below _ _ T5 (mkF m_ 52 #[.val (.ref a), .val (.long c), .second, .val (.long (w + (1 : Int64))), .second, .val (.long b), .second] [])
          refine Go.ldc2J X5 hx hZ hown (hw _ (List.mem_of_getElem? (i := 48) rfl)) (hb hby d6_52) ?_
          refine Go.retJ X5 hx hret hlk (hb hby d6_55) (by decide) (by decide) ?_
          exact ⟨by rw [H, own_nx, if_pos hc36_4], N1, e5⟩
        · skip
          refine Go.ifYes X1 hx (pc' := 66) (hb hby d6_36) (XT.ll_ne_t hc36_4) (by decide) (by decide) ?_
          show Go p_ e_ below _ _ T1 (mkF m_ 66 #[.val (.ref a), .val (.long c), .second, .val (.long w), .second, .val (.long b), .second] [])
          refine Go.lloadN X1 hx (hb hby d6_66) rfl ?_
          refine Go.bipush X1 hx (6 : Int32) (hb hby d6_67) rfl ?_
          refine Go.lshl X1 hx (hb hby d6_69) ?_
          refine Go.lload X1 hx (hb hby d6_70) rfl ?_
          refine Go.callS X1 hx hZ (rm8 l Z a0 hw [] b  h0 n0 Z0 ) hown (hw _ (List.mem_of_getElem? (i := 49) rfl)) (hw _ (List.mem_of_getElem? (i := 50) rfl)) (hw _ (List.mem_of_getElem? (i := 51) rfl)) (hw _ (List.mem_of_getElem? (i := 52) rfl)) (by decide) e1 (W := 2) (by rw [hml]; rfl) (argsL := [(.long b)]) (S := [(.long (w <<< ((6 : Int32) &&& 0x3f).toInt64))]) (Nat.le_of_ble_eq_true rfl) (by decide) (by decide) (by decide) (by decide) pd_oJcI rfl rfl (hb hby d6_72) ?_
          rintro _ T6 L6 X6 ⟨rfl, N6q, e6⟩
          have N6 := Fr.app N1 N6q
          show Go p_ e_ below _ _ T6 (mkF m_ 75 #[.val (.ref a), .val (.long c), .second, .val (.long w), .second, .val (.long b), .second] [(.int (own_ntz b )), (.long (w <<< ((6 : Int32) &&& 0x3f).toInt64))])
          refine Go.i2l X6 hx (hb hby d6_75) ?_
          refine Go.lor X6 hx (hb hby d6_76) ?_
          refine Go.retJ X6 hx hret hlk (hb hby d6_77) (by decide) (by decide) ?_
          exact ⟨by rw [H, own_nx_ne _ _ _ _ hc36_4]; rfl, N6, e6⟩
      | succ n ih =>
        intro T1 l1 w b X1 N1 e1 g0 g1 H
        have hS : (w + (1 : Int64)).toInt = w.toInt + 1 := by have := own_suc (w := w) (k := w.toInt.toNat) (by omega) (by omega); omega
        have hE : ¬ (w + (1 : Int64)) = wd := fun q => by rw [q] at hS; omega
        show Go p_ e_ below _ _ T1 (mkF m_ 32 #[.val (.ref a), .val (.long c), .second, .val (.long w), .second, .val (.long b), .second] [])
        refine Go.lload X1 hx (hb hby d6_32) rfl ?_
        refine Go.lconst X1 hx (0 : Int64) (hb hby d6_34) rfl ?_
        refine Go.lcmp X1 hx (hb hby d6_35) ?_
        by_cases hc36_7 : b = (0 : Int64)
        · skip
          refine Go.ifNo X1 hx (hb hby d6_36) (XT.ll_ne_f hc36_7) ?_
          show Go p_ e_ below _ _ T1 (mkF m_ 39 #[.val (.ref a), .val (.long c), .second, .val (.long w), .second, .val (.long b), .second] [])
          refine Go.lloadN X1 hx (hb hby d6_39) rfl ?_
          refine Go.lconst X1 hx (1 : Int64) (hb hby d6_40) rfl ?_
          refine Go.ladd X1 hx (hb hby d6_41) ?_
          refine Go.dup2J X1 hx (hb hby d6_42) ?_
          refine Go.lstoreN X1 hx (l' := #[.val (.ref a), .val (.long c), .second, .val (.long (w + (1 : Int64))), .second, .val (.long b), .second]) (hb hby d6_43) rfl ?_
          refine Go.aloadN X1 hx (hb hby d6_44) rfl rfl ?_
          refine Go.getF X1 hx hZ hown (host := "") (Or.inl (hw _ (List.mem_of_getElem? (i := 15) rfl))) Via.refl e1 R_.2.2.1 (hb hby d6_45) ?_
          intro T8 X8 e8
          show Go p_ e_ below _ _ T8 (mkF m_ 48 #[.val (.ref a), .val (.long c), .second, .val (.long (w + (1 : Int64))), .second, .val (.long b), .second] [(.long wd), (.long (w + (1 : Int64)))])
          refine Go.lcmp X8 hx (hb hby d6_48) ?_
          refine Go.ifYes X8 hx (pc' := 56) (hb hby d6_49) (XT.ll_ne_t hE) (by decide) (by decide) ?_
          show Go p_ e_ below _ _ T8 (mkF m_ 56 #[.val (.ref a), .val (.long c), .second, .val (.long (w + (1 : Int64))), .second, .val (.long b), .second] [])
          refine Go.aloadN X8 hx (hb hby d6_56) rfl rfl ?_
          refine Go.lloadN X8 hx (hb hby d6_57) rfl ?_
          refine Go.callP X8 hx hZ (rm7 l Z a0 hw [] a (w + (1 : Int64)) P tp sz wd W h0 n0 Z0 R_ (by omega) (by omega) hwd2) (by decide) hown (hw _ (List.mem_of_getElem? (i := 44) rfl)) (hw _ (List.mem_of_getElem? (i := 45) rfl)) (hw _ (List.mem_of_getElem? (i := 46) rfl)) (hw _ (List.mem_of_getElem? (i := 5) rfl)) (y2 := (⟨"com/example/gatefield/gatefield/model/RecordSet", "add", "(J)V"⟩ : MethodName)) rfl (hw _ (List.mem_of_getElem? (i := 31) rfl)) (hw _ (List.mem_of_getElem? (i := 47) rfl)) e8 R_.1 (W := 0) (by rw [hml]; rfl) (argsL := [(.long (w + (1 : Int64)))]) (S := []) (Nat.le_of_ble_eq_true rfl) (by decide) (by decide) (by decide) (by decide) pd_oJcJ rfl rfl (hb hby d6_58) ?_
          rintro _ T9 L9 X9 ⟨rfl, N9q, e9⟩
          have N9 := Fr.app N1 N9q
          show Go p_ e_ below _ _ T9 (mkF m_ 61 #[.val (.ref a), .val (.long c), .second, .val (.long (w + (1 : Int64))), .second, .val (.long b), .second] [(.long (W (w + (1 : Int64)).toInt.toNat))])
          refine Go.lstore X9 hx (l' := #[.val (.ref a), .val (.long c), .second, .val (.long (w + (1 : Int64))), .second, .val (.long (W (w + (1 : Int64)).toInt.toNat)), .second]) (hb hby d6_61) rfl ?_
          refine Go.goto X9 hx (pc' := 32) (hb hby d6_63) (by decide) (by decide) ?_
          show Go p_ e_ below _ _ T9 (mkF m_ 32 #[.val (.ref a), .val (.long c), .second, .val (.long (w + (1 : Int64))), .second, .val (.long (W (w + (1 : Int64)).toInt.toNat)), .second] [])
          exact ih _ _ _ _ X9 N9 e9 (by omega) (by omega) (H.trans (by rw [own_nx, if_pos hc36_7]))
        · skip
          refine Go.ifYes X1 hx (pc' := 66) (hb hby d6_36) (XT.ll_ne_t hc36_7) (by decide) (by decide) ?_
          show Go p_ e_ below _ _ T1 (mkF m_ 66 #[.val (.ref a), .val (.long c), .second, .val (.long w), .second, .val (.long b), .second] [])
          refine Go.lloadN X1 hx (hb hby d6_66) rfl ?_
          refine Go.bipush X1 hx (6 : Int32) (hb hby d6_67) rfl ?_
          refine Go.lshl X1 hx (hb hby d6_69) ?_
          refine Go.lload X1 hx (hb hby d6_70) rfl ?_
          refine Go.callS X1 hx hZ (rm8 l Z a0 hw [] b  h0 n0 Z0 ) hown (hw _ (List.mem_of_getElem? (i := 49) rfl)) (hw _ (List.mem_of_getElem? (i := 50) rfl)) (hw _ (List.mem_of_getElem? (i := 51) rfl)) (hw _ (List.mem_of_getElem? (i := 52) rfl)) (by decide) e1 (W := 2) (by rw [hml]; rfl) (argsL := [(.long b)]) (S := [(.long (w <<< ((6 : Int32) &&& 0x3f).toInt64))]) (Nat.le_of_ble_eq_true rfl) (by decide) (by decide) (by decide) (by decide) pd_oJcI rfl rfl (hb hby d6_72) ?_
          rintro _ T10 L10 X10 ⟨rfl, N10q, e10⟩
          have N10 := Fr.app N1 N10q
          show Go p_ e_ below _ _ T10 (mkF m_ 75 #[.val (.ref a), .val (.long c), .second, .val (.long w), .second, .val (.long b), .second] [(.int (own_ntz b )), (.long (w <<< ((6 : Int32) &&& 0x3f).toInt64))])
          refine Go.i2l X10 hx (hb hby d6_75) ?_
          refine Go.lor X10 hx (hb hby d6_76) ?_
          refine Go.retJ X10 hx hret hlk (hb hby d6_77) (by decide) (by decide) ?_
          exact ⟨by rw [H, own_nx_ne _ _ _ _ hc36_7]; rfl, N10, e10⟩
    have hkn := own_kxk hc0 r_k
    exact loop (wd.toInt.toNat - 1 - own_kx c) _ _ _ _ X3 N3 e3 (by omega) (by have := hkn; omega) (by unfold own_next; rw [if_pos hc6_2, ← hkn, ← q_k]; rfl)
  · skip
    refine Go.ifNo X1 hx (hb hby d6_6) (XT.ll_lt_f hc6_2) ?_
    show Go p_ e_ below _ _ T1 (mkF m_ 9 #[.val (.ref a), .val (.long c), .second, .unset, .unset, .unset, .unset] [])
    refine Go.ldc2J X1 hx hZ hown (hw _ (List.mem_of_getElem? (i := 48) rfl)) (hb hby d6_9) ?_
    refine Go.retJ X1 hx hret hlk (hb hby d6_12) (by decide) (by decide) ?_
    exact ⟨by unfold own_next; rw [if_neg hc6_2], N0, e1⟩
theorem pd_oJJcJ : parseMethodDescriptor "(JJ)J" = some ⟨[.long, .long], some .long⟩ := by decide +kernel
theorem d1_0 : decode prog_54_method_1_code 0 = .ok (.aload_n 0, 1) := by decide +kernel
theorem d1_1 : decode prog_54_method_1_code 1 = .ok (.invokespecial 3, 3) := by decide +kernel
theorem d1_4 : decode prog_54_method_1_code 4 = .ok (.aload_n 0, 1) := by decide +kernel
theorem d1_5 : decode prog_54_method_1_code 5 = .ok (.lload_n 1, 1) := by decide +kernel
theorem d1_6 : decode prog_54_method_1_code 6 = .ok (.putfield 9, 3) := by decide +kernel
theorem d1_9 : decode prog_54_method_1_code 9 = .ok (.aload_n 0, 1) := by decide +kernel
theorem d1_10 : decode prog_54_method_1_code 10 = .ok (.lload_n 1, 1) := by decide +kernel
theorem d1_11 : decode prog_54_method_1_code 11 = .ok (.ldc2_w 15, 3) := by decide +kernel
theorem d1_14 : decode prog_54_method_1_code 14 = .ok (.ladd, 1) := by decide +kernel
theorem d1_15 : decode prog_54_method_1_code 15 = .ok (.lconst 1, 1) := by decide +kernel
theorem d1_16 : decode prog_54_method_1_code 16 = .ok (.lsub, 1) := by decide +kernel
theorem d1_17 : decode prog_54_method_1_code 17 = .ok (.bipush 6, 2) := by decide +kernel
theorem d1_19 : decode prog_54_method_1_code 19 = .ok (.lushr, 1) := by decide +kernel
theorem d1_20 : decode prog_54_method_1_code 20 = .ok (.putfield 17, 3) := by decide +kernel
theorem d1_23 : decode prog_54_method_1_code 23 = .ok (.aload_n 0, 1) := by decide +kernel
theorem d1_24 : decode prog_54_method_1_code 24 = .ok (.aload_n 0, 1) := by decide +kernel
theorem d1_25 : decode prog_54_method_1_code 25 = .ok (.getfield 17, 3) := by decide +kernel
theorem d1_28 : decode prog_54_method_1_code 28 = .ok (.ldc2_w 20, 3) := by decide +kernel
theorem d1_31 : decode prog_54_method_1_code 31 = .ok (.ladd, 1) := by decide +kernel
theorem d1_32 : decode prog_54_method_1_code 32 = .ok (.lconst 1, 1) := by decide +kernel
theorem d1_33 : decode prog_54_method_1_code 33 = .ok (.lsub, 1) := by decide +kernel
theorem d1_34 : decode prog_54_method_1_code 34 = .ok (.bipush 16, 2) := by decide +kernel
theorem d1_36 : decode prog_54_method_1_code 36 = .ok (.lushr, 1) := by decide +kernel
theorem d1_37 : decode prog_54_method_1_code 37 = .ok (.l2i, 1) := by decide +kernel
theorem d1_38 : decode prog_54_method_1_code 38 = .ok (.anewarray 22, 3) := by decide +kernel
theorem d1_41 : decode prog_54_method_1_code 41 = .ok (.putfield 24, 3) := by decide +kernel
theorem d1_44 : decode prog_54_method_1_code 44 = .ok (.iconst 0, 1) := by decide +kernel
theorem d1_45 : decode prog_54_method_1_code 45 = .ok (.istore_n 3, 1) := by decide +kernel
theorem d1_46 : decode prog_54_method_1_code 46 = .ok (.iload_n 3, 1) := by decide +kernel
theorem d1_47 : decode prog_54_method_1_code 47 = .ok (.aload_n 0, 1) := by decide +kernel
theorem d1_48 : decode prog_54_method_1_code 48 = .ok (.getfield 24, 3) := by decide +kernel
theorem d1_51 : decode prog_54_method_1_code 51 = .ok (.arraylength, 1) := by decide +kernel
theorem d1_52 : decode prog_54_method_1_code 52 = .ok (.if_icmp .ge 34, 3) := by decide +kernel
theorem d1_55 : decode prog_54_method_1_code 55 = .ok (.aload_n 0, 1) := by decide +kernel
theorem d1_56 : decode prog_54_method_1_code 56 = .ok (.getfield 24, 3) := by decide +kernel
theorem d1_59 : decode prog_54_method_1_code 59 = .ok (.iload_n 3, 1) := by decide +kernel
theorem d1_60 : decode prog_54_method_1_code 60 = .ok (.ldc2_w 20, 3) := by decide +kernel
theorem d1_63 : decode prog_54_method_1_code 63 = .ok (.aload_n 0, 1) := by decide +kernel
theorem d1_64 : decode prog_54_method_1_code 64 = .ok (.getfield 17, 3) := by decide +kernel
theorem d1_67 : decode prog_54_method_1_code 67 = .ok (.iload_n 3, 1) := by decide +kernel
theorem d1_68 : decode prog_54_method_1_code 68 = .ok (.i2l, 1) := by decide +kernel
theorem d1_69 : decode prog_54_method_1_code 69 = .ok (.bipush 16, 2) := by decide +kernel
theorem d1_71 : decode prog_54_method_1_code 71 = .ok (.lshl, 1) := by decide +kernel
theorem d1_72 : decode prog_54_method_1_code 72 = .ok (.lsub, 1) := by decide +kernel
theorem d1_73 : decode prog_54_method_1_code 73 = .ok (.invokestatic 28, 3) := by decide +kernel
theorem d1_76 : decode prog_54_method_1_code 76 = .ok (.l2i, 1) := by decide +kernel
theorem d1_77 : decode prog_54_method_1_code 77 = .ok (.newarray .long, 2) := by decide +kernel
theorem d1_79 : decode prog_54_method_1_code 79 = .ok (.aastore, 1) := by decide +kernel
theorem d1_80 : decode prog_54_method_1_code 80 = .ok (.iinc 3 1, 3) := by decide +kernel
theorem d1_83 : decode prog_54_method_1_code 83 = .ok (.goto (-37), 3) := by decide +kernel
theorem d1_86 : decode prog_54_method_1_code 86 = .ok (.return_, 1) := by decide +kernel
theorem pn_1 : plainName "com/example/gatefield/gatefield/model/RecordSet" = true := by first | (simp [plainName, overriddenIn]; done) | decide +kernel
theorem ef_rm1 (m_ : MethodId) (a : Addr) (sz : Int64) : entryFrame m_ #[(.ref a), (.long sz)] 4 = mkF m_ 0 #[.val (.ref a), .val (.long sz), .second, .unset] [] := by first | (simp [entryFrame, mkF, argsToLocals, Value.category]; done) | rfl
def Q1 (Z : State) (a : Addr) (sz : Int64)  (h0 : Heap) (n0 : Nat) (v : Option Value) (h : Heap) (L : List Loc) : Prop := v = none ∧ Fr n0 L ∧ n0 ≤ h.size ∧ ∃ (P : Addr) (tp : Nat → Addr) (wd : Int64), wd.toInt = (sz.toInt + 63) / 64 ∧ (∀ i, i < own_np wd → n0 ≤ tp i) ∧ RS Z h a P tp sz wd (fun _ => 0)
set_option maxRecDepth 65536 in
set_option maxHeartbeats 40000000 in
theorem rm1 (l : Launch) (Z : State) (a0 : Array Value) (hw : ∀ d ∈ tables_1, d.before a0 Z = true) (ws : List Jvm.Cond) (a : Addr) (sz : Int64)  (h0 : Heap) (n0 : Nat) (Z0 : n0 ≤ h0.size) (E_a : Exa Z h0 a "com/example/gatefield/gatefield/model/RecordSet") (F_size : Fld Z h0 a "com/example/gatefield/gatefield/model/RecordSet" "size" "J" (.long (0 : Int64))) (F_words : Fld Z h0 a "com/example/gatefield/gatefield/model/RecordSet" "words" "J" (.long (0 : Int64))) (F_pages : Fld Z h0 a "com/example/gatefield/gatefield/model/RecordSet" "pages" "[[J" .null) (g_a : n0 ≤ a) (hs : 1 ≤ sz.toInt ∧ sz.toInt ≤ 8388608) :
    MetFree l (⟨"com/example/gatefield/gatefield/model/RecordSet", "<init>", "(J)V"⟩ : MethodName) (head1 (Jvm.Cond.code (⟨"com/example/gatefield/gatefield/model/RecordSet", "<init>", "(J)V"⟩ : MethodName) prog_54_method_1_code 4 none :: ws) ({ frames := 1, cells := 3, slots := 131074, locals := 17 } : Room)) (fun a_ U_ => a_ = #[(.ref a), (.long sz)] ∧ Z.Warmed39 U_.vm ∧ U_.heap = h0) (fun _ _ _ _ _ => True) (fun _ U_ o_ V_ => ∃ v_ L_, o_ = .returned v_ ∧ Q1 Z a sz h0 n0 v_ V_.heap L_ ∧ FrameEnd U_ o_ V_ L_ ({ frames := 1, cells := 3, slots := 131074, locals := 17 } : Room).cells ({ frames := 1, cells := 3, slots := 131074, locals := 17 } : Room).slots) := by
  refine metOf (Q := Q1 Z a sz h0 n0) (plainFor_of_name pn_1) ?_
  intro p_ e_ s_ m_ below meth c_ s₁ X0 hx hby hml hret hlk hZ hown hnm e0
  rw [ef_rm1]
  have N0 := Fr.nil n0
  show Go p_ e_ below _ _ s₁ (mkF m_ 0 #[.val (.ref a), .val (.long sz), .second, .unset] [])
  refine Go.aloadN X0 hx (hb hby d1_0) rfl rfl ?_
  refine Go.initO X0 hx hZ hown (hw _ (List.mem_of_getElem? (i := 9) rfl)) (hw _ (List.mem_of_getElem? (i := 10) rfl)) (hw _ (List.mem_of_getElem? (i := 11) rfl)) e0 (by rw [hml]; rfl) (hb hby d1_1) (by decide) (W := 0) (Nat.le_of_ble_eq_true rfl) (by decide) ?_
  intro T1 X1 e1
  show Go p_ e_ below _ _ T1 (mkF m_ 4 #[.val (.ref a), .val (.long sz), .second, .unset] [])
  refine Go.aloadN X1 hx (hb hby d1_4) rfl rfl ?_
  refine Go.lloadN X1 hx (hb hby d1_5) rfl ?_
  refine Go.putF X1 hx hZ hown (host := "") (Or.inl (hw _ (List.mem_of_getElem? (i := 12) rfl))) Via.refl e1 F_size E_a (Or.inr ⟨(hw _ (List.mem_of_getElem? (i := 13) rfl)), rfl, hnm⟩) (hw _ (List.mem_of_getElem? (i := 4) rfl)) (ty := .long) (by decide) rfl rfl (hb hby d1_6) ?_
  intro T2 h2 X2 e2 W2
  have N2 := Fr.snoc X2 N0 g_a
  have E_2_a := E_a.wr W2
  have F_2_a_size := F_size.same W2
  have F_2_a_words := F_words.other W2 (Or.inr (slot_ne (Or.inr (hw _ (List.mem_of_getElem? (i := 16) rfl))) (Or.inr (hw _ (List.mem_of_getElem? (i := 13) rfl))) (by decide) (t := .long) (t' := .long) (by decide) (by decide)))
  have F_2_a_pages := F_pages.other W2 (Or.inr (slot_ne (Or.inr (hw _ (List.mem_of_getElem? (i := 21) rfl))) (Or.inr (hw _ (List.mem_of_getElem? (i := 13) rfl))) (by decide) (t := (.array (.array .long))) (t' := .long) (by decide) (by decide)))
  have Z2 : n0 ≤ h2.size := (by rw [W2.size]; exact Z0)
  show Go p_ e_ below _ _ T2 (mkF m_ 9 #[.val (.ref a), .val (.long sz), .second, .unset] [])
  refine Go.aloadN X2 hx (hb hby d1_9) rfl rfl ?_
  refine Go.lloadN X2 hx (hb hby d1_10) rfl ?_
  refine Go.ldc2J X2 hx hZ hown (hw _ (List.mem_of_getElem? (i := 14) rfl)) (hb hby d1_11) ?_
  refine Go.ladd X2 hx (hb hby d1_14) ?_
  refine Go.lconst X2 hx (1 : Int64) (hb hby d1_15) rfl ?_
  refine Go.lsub X2 hx (hb hby d1_16) ?_
  refine Go.bipush X2 hx (6 : Int32) (hb hby d1_17) rfl ?_
  refine Go.lushr X2 hx (hb hby d1_19) ?_
  show Go p_ e_ below _ _ T2 (mkF m_ 20 #[.val (.ref a), .val (.long sz), .second, .unset] [(.long ((((sz + (64 : Int64)) - (1 : Int64)).toUInt64 >>> ((6 : Int32) &&& 0x3f).toInt64.toUInt64).toInt64)), (.ref a)])
  obtain ⟨wd, q_wd⟩ : ∃ z, z = ((((sz + (64 : Int64)) - (1 : Int64)).toUInt64 >>> ((6 : Int32) &&& 0x3f).toInt64.toUInt64).toInt64) := ⟨_, rfl⟩
  rw [← q_wd]
  have r_wd : wd.toInt = (sz.toInt + 63) / 64 := by rw [q_wd]; exact own_wdv sz hs
  have hwr : 1 ≤ wd.toInt ∧ wd.toInt ≤ 131072 := by omega
  show Go p_ e_ below _ _ T2 (mkF m_ 20 #[.val (.ref a), .val (.long sz), .second, .unset] [(.long wd), (.ref a)])
  refine Go.putF X2 hx hZ hown (host := "") (Or.inl (hw _ (List.mem_of_getElem? (i := 15) rfl))) Via.refl e2 F_2_a_words E_2_a (Or.inr ⟨(hw _ (List.mem_of_getElem? (i := 16) rfl)), rfl, hnm⟩) (hw _ (List.mem_of_getElem? (i := 4) rfl)) (ty := .long) (by decide) rfl rfl (hb hby d1_20) ?_
  intro T3 h3 X3 e3 W3
  have N3 := Fr.snoc X3 N2 g_a
  have E_3_a := E_2_a.wr W3
  have F_3_a_size := F_2_a_size.other W3 (Or.inr (slot_ne (Or.inr (hw _ (List.mem_of_getElem? (i := 13) rfl))) (Or.inr (hw _ (List.mem_of_getElem? (i := 16) rfl))) (by decide) (t := .long) (t' := .long) (by decide) (by decide)))
  have F_3_a_words := F_2_a_words.same W3
  have F_3_a_pages := F_2_a_pages.other W3 (Or.inr (slot_ne (Or.inr (hw _ (List.mem_of_getElem? (i := 21) rfl))) (Or.inr (hw _ (List.mem_of_getElem? (i := 16) rfl))) (by decide) (t := (.array (.array .long))) (t' := .long) (by decide) (by decide)))
  have Z3 : n0 ≤ h3.size := (by rw [W3.size]; exact Z2)
  show Go p_ e_ below _ _ T3 (mkF m_ 23 #[.val (.ref a), .val (.long sz), .second, .unset] [])
  refine Go.aloadN X3 hx (hb hby d1_23) rfl rfl ?_
  refine Go.aloadN X3 hx (hb hby d1_24) rfl rfl ?_
  refine Go.getF X3 hx hZ hown (host := "") (Or.inl (hw _ (List.mem_of_getElem? (i := 15) rfl))) Via.refl e3 F_3_a_words (hb hby d1_25) ?_
  intro T4 X4 e4
  show Go p_ e_ below _ _ T4 (mkF m_ 28 #[.val (.ref a), .val (.long sz), .second, .unset] [(.long wd), (.ref a)])
  refine Go.ldc2J X4 hx hZ hown (hw _ (List.mem_of_getElem? (i := 17) rfl)) (hb hby d1_28) ?_
  refine Go.ladd X4 hx (hb hby d1_31) ?_
  refine Go.lconst X4 hx (1 : Int64) (hb hby d1_32) rfl ?_
  refine Go.lsub X4 hx (hb hby d1_33) ?_
  refine Go.bipush X4 hx (16 : Int32) (hb hby d1_34) rfl ?_
  refine Go.lushr X4 hx (hb hby d1_36) ?_
  refine Go.l2i X4 hx (hb hby d1_37) ?_
  show Go p_ e_ below _ _ T4 (mkF m_ 38 #[.val (.ref a), .val (.long sz), .second, .unset] [(.int (((((wd + (65536 : Int64)) - (1 : Int64)).toUInt64 >>> ((16 : Int32) &&& 0x3f).toInt64.toUInt64).toInt64).toInt32)), (.ref a)])
  rcases own_npc wd hwr with ⟨qn, qw⟩ | ⟨qn, qw⟩
  · rw [qn]
    show Go p_ e_ below _ _ T4 (mkF m_ 38 #[.val (.ref a), .val (.long sz), .second, .unset] [(.int (1 : Int32)), (.ref a)])
    refine Go.newRA X4 hx hZ hown (C := "[J") (ty := .long) (by decide) (hw _ (List.mem_of_getElem? (i := 18) rfl)) (hw _ (List.mem_of_getElem? (i := 19) rfl)) e4 (hb hby d1_38) (by decide) (cap := 1) (by decide) (by decide) (by decide) (by decide) (ad := "[[J") (by decide) ?_
    intro T5 h5 kc5 b5 zq5 X5 e5 E5 A5 Y5 Ov
    have ne_a_b5 : a ≠ b5 := Nat.ne_of_lt (Nat.lt_of_lt_of_le E_3_a.lt (Nat.le_of_eq zq5.symm))
    have g_b5 : n0 ≤ b5 := Nat.le_trans Z3 (Nat.le_of_eq zq5.symm)
    have Z5 : n0 ≤ h5.size := Nat.le_trans Z3 E5.1
    have E_5_a := E_3_a.ext E5
    have F_5_a_size := F_3_a_size.ext E5
    have F_5_a_words := F_3_a_words.ext E5
    have F_5_a_pages := F_3_a_pages.ext E5
    have V5 : Arv Z h5 b5 kc5 (.array .long) (1 : Int32) [.null] .null := (Arv.new A5 (by decide)).pad (pad_rep [] .null 1)
    show Go p_ e_ below _ _ T5 (mkF m_ 41 #[.val (.ref a), .val (.long sz), .second, .unset] [(.ref b5), (.ref a)])
    refine Go.putF X5 hx hZ hown (host := "") (Or.inl (hw _ (List.mem_of_getElem? (i := 20) rfl))) Via.refl e5 F_5_a_pages E_5_a (Or.inr ⟨(hw _ (List.mem_of_getElem? (i := 21) rfl)), rfl, hnm⟩) (hw _ (List.mem_of_getElem? (i := 4) rfl)) (ty := (.array (.array .long))) (by decide) rfl rfl (hb hby d1_41) ?_
    intro T6 h6 X6 e6 W6
    have N6 := Fr.snoc X6 N3 g_a
    have E_6_a := E_5_a.wr W6
    have F_6_a_size := F_5_a_size.other W6 (Or.inr (slot_ne (Or.inr (hw _ (List.mem_of_getElem? (i := 13) rfl))) (Or.inr (hw _ (List.mem_of_getElem? (i := 21) rfl))) (by decide) (t := .long) (t' := (.array (.array .long))) (by decide) (by decide)))
    have F_6_a_words := F_5_a_words.other W6 (Or.inr (slot_ne (Or.inr (hw _ (List.mem_of_getElem? (i := 16) rfl))) (Or.inr (hw _ (List.mem_of_getElem? (i := 21) rfl))) (by decide) (t := .long) (t' := (.array (.array .long))) (by decide) (by decide)))
    have F_6_a_pages := F_5_a_pages.same W6
    have V_6_b5 := V5.other W6 (Ne.symm ne_a_b5)
    have Z6 : n0 ≤ h6.size := (by rw [W6.size]; exact Z5)
    show Go p_ e_ below _ _ T6 (mkF m_ 44 #[.val (.ref a), .val (.long sz), .second, .unset] [])
    refine Go.iconst X6 hx (0 : Int32) (hb hby d1_44) rfl ?_
    refine Go.istoreN X6 hx (l' := #[.val (.ref a), .val (.long sz), .second, .val (.int (0 : Int32))]) (hb hby d1_45) rfl ?_
    refine Go.iloadN X6 hx (hb hby d1_46) rfl ?_
    refine Go.aloadN X6 hx (hb hby d1_47) rfl rfl ?_
    refine Go.getF X6 hx hZ hown (host := "") (Or.inl (hw _ (List.mem_of_getElem? (i := 20) rfl))) Via.refl e6 F_6_a_pages (hb hby d1_48) ?_
    intro T7 X7 e7
    show Go p_ e_ below _ _ T7 (mkF m_ 51 #[.val (.ref a), .val (.long sz), .second, .val (.int (0 : Int32))] [(.ref b5), (.int (0 : Int32))])
    obtain ⟨cl8, Ar8, -, S8, M8, -, -⟩ := id V_6_b5
    refine Go.arraylength X7 hx hZ e7 Ar8 S8 M8 (hb hby d1_51) ?_
    refine Go.icmpNo X7 hx (hb hby d1_52) (tlt (by decide)).2.1 ?_
    show Go p_ e_ below _ _ T7 (mkF m_ 55 #[.val (.ref a), .val (.long sz), .second, .val (.int (0 : Int32))] [])
    refine Go.aloadN X7 hx (hb hby d1_55) rfl rfl ?_
    refine Go.getF X7 hx hZ hown (host := "") (Or.inl (hw _ (List.mem_of_getElem? (i := 20) rfl))) Via.refl e7 F_6_a_pages (hb hby d1_56) ?_
    intro T9 X9 e9
    show Go p_ e_ below _ _ T9 (mkF m_ 59 #[.val (.ref a), .val (.long sz), .second, .val (.int (0 : Int32))] [(.ref b5)])
    refine Go.iloadN X9 hx (hb hby d1_59) rfl ?_
    refine Go.ldc2J X9 hx hZ hown (hw _ (List.mem_of_getElem? (i := 17) rfl)) (hb hby d1_60) ?_
    refine Go.aloadN X9 hx (hb hby d1_63) rfl rfl ?_
    refine Go.getF X9 hx hZ hown (host := "") (Or.inl (hw _ (List.mem_of_getElem? (i := 15) rfl))) Via.refl e9 F_6_a_words (hb hby d1_64) ?_
    intro T10 X10 e10
    show Go p_ e_ below _ _ T10 (mkF m_ 67 #[.val (.ref a), .val (.long sz), .second, .val (.int (0 : Int32))] [(.long wd), (.long (65536 : Int64)), (.int (0 : Int32)), (.ref b5)])
    refine Go.iloadN X10 hx (hb hby d1_67) rfl ?_
    refine Go.i2l X10 hx (hb hby d1_68) ?_
    refine Go.bipush X10 hx (16 : Int32) (hb hby d1_69) rfl ?_
    refine Go.lshl X10 hx (hb hby d1_71) ?_
    refine Go.lsub X10 hx (hb hby d1_72) ?_
    refine Go.callS X10 hx hZ (rm3 l Z a0 hw [] (65536 : Int64) (wd - (((0 : Int32).toInt64) <<< ((16 : Int32) &&& 0x3f).toInt64))  h6 n0 Z6 ) hown (hw _ (List.mem_of_getElem? (i := 22) rfl)) (hw _ (List.mem_of_getElem? (i := 23) rfl)) (hw _ (List.mem_of_getElem? (i := 24) rfl)) (hw _ (List.mem_of_getElem? (i := 25) rfl)) (by decide) e10 (W := 2) (by rw [hml]; rfl) (argsL := [(.long (65536 : Int64)), (.long (wd - (((0 : Int32).toInt64) <<< ((16 : Int32) &&& 0x3f).toInt64)))]) (S := [(.int (0 : Int32)), (.ref b5)]) (Nat.le_of_ble_eq_true rfl) (by decide) (by decide) (by decide) (by decide) pd_oJJcJ rfl rfl (hb hby d1_73) ?_
    rintro _ T11 L11 X11 ⟨rfl, N11q, e11⟩
    have N11 := Fr.app N6 N11q
    show Go p_ e_ below _ _ T11 (mkF m_ 76 #[.val (.ref a), .val (.long sz), .second, .val (.int (0 : Int32))] [(.long (own_minL (65536 : Int64) (wd - (((0 : Int32).toInt64) <<< ((16 : Int32) &&& 0x3f).toInt64)) )), (.int (0 : Int32)), (.ref b5)])
    refine Go.l2i X11 hx (hb hby d1_76) ?_
    have pn12 := own_pgn0 wd hwr
    refine Go.newPE X11 hx hZ (hw _ (List.mem_of_getElem? (i := 26) rfl)) e11 (hb hby d1_77) pn12.1 (cap := 65536) (pn12.2 ▸ own_ple wd 0) (by decide) (by decide) (by decide) (ad := "[J") (by decide) ?_
    intro T12 h12 kc12 b12 zq12 X12 e12 E12 A12 Y12
    have ne_a_b12 : a ≠ b12 := Nat.ne_of_lt (Nat.lt_of_lt_of_le E_6_a.lt (Nat.le_of_eq zq12.symm))
    have ne_b5_b12 : b5 ≠ b12 := Nat.ne_of_lt (Nat.lt_of_lt_of_le V_6_b5.lt (Nat.le_of_eq zq12.symm))
    have g_b12 : n0 ≤ b12 := Nat.le_trans Z6 (Nat.le_of_eq zq12.symm)
    have Z12 : n0 ≤ h12.size := Nat.le_trans Z6 E12.1
    have E_12_a := E_6_a.ext E12
    have F_12_a_size := F_6_a_size.ext E12
    have F_12_a_words := F_6_a_words.ext E12
    have F_12_a_pages := F_6_a_pages.ext E12
    have V_12_b5 := V_6_b5.ext E12
    have V12 : Arv Z h12 b12 kc12 .long ((own_minL (65536 : Int64) (wd - (((0 : Int32).toInt64) <<< ((16 : Int32) &&& 0x3f).toInt64)) ).toInt32) [] (.long (0 : Int64)) := Arv.new A12 pn12.1
    show Go p_ e_ below _ _ T12 (mkF m_ 79 #[.val (.ref a), .val (.long sz), .second, .val (.int (0 : Int32))] [(.ref b12), (.int (0 : Int32)), (.ref b5)])
    obtain ⟨cl13, Ar13, q13, S13, M13, H13, G13⟩ := V_12_b5
    refine Go.stR X12 hx hZ e12 Ar13 (inb_of S13 ⟨by decide, by decide⟩) rfl (Sto.ofVA Ar13 q13 Ov (Ins.of_exa Y12 (hw _ (List.mem_of_getElem? (i := 27) rfl)))) (hb hby d1_79) ?_
    intro T13 h13 X13 e13 W13
    have N13 := Fr.snoc X13 N11 g_b5
    have V13 : Arv Z h13 b5 kc5 (.array .long) (1 : Int32) [(.ref b12)] .null := Arv.set Ar13 q13 S13 M13 H13 G13 rfl W13 0 rfl (Nat.le_of_ble_eq_true rfl)
    have E_13_a := E_12_a.wr W13
    have F_13_a_size := F_12_a_size.other W13 (Or.inl ne_a_b5)
    have F_13_a_words := F_12_a_words.other W13 (Or.inl ne_a_b5)
    have F_13_a_pages := F_12_a_pages.other W13 (Or.inl ne_a_b5)
    have V_13_b12 := V12.other W13 (Ne.symm ne_b5_b12)
    have Z13 : n0 ≤ h13.size := (by rw [W13.size]; exact Z12)
    show Go p_ e_ below _ _ T13 (mkF m_ 80 #[.val (.ref a), .val (.long sz), .second, .val (.int (0 : Int32))] [])
    refine Go.iincF X13 hx (l' := #[.val (.ref a), .val (.long sz), .second, .val (.int (1 : Int32))]) (1 : Int32) (1 : Int32) (hb hby d1_80) rfl (by decide) rfl rfl ?_
    refine Go.goto X13 hx (pc' := 46) (hb hby d1_83) (by decide) (by decide) ?_
    refine Go.iloadN X13 hx (hb hby d1_46) rfl ?_
    refine Go.aloadN X13 hx (hb hby d1_47) rfl rfl ?_
    refine Go.getF X13 hx hZ hown (host := "") (Or.inl (hw _ (List.mem_of_getElem? (i := 20) rfl))) Via.refl e13 F_13_a_pages (hb hby d1_48) ?_
    intro T14 X14 e14
    show Go p_ e_ below _ _ T14 (mkF m_ 51 #[.val (.ref a), .val (.long sz), .second, .val (.int (1 : Int32))] [(.ref b5), (.int (1 : Int32))])
    obtain ⟨cl15, Ar15, -, S15, M15, -, -⟩ := id V13
    refine Go.arraylength X14 hx hZ e14 Ar15 S15 M15 (hb hby d1_51) ?_
    refine Go.icmpYes X14 hx (pc' := 86) (hb hby d1_52) (flt (by decide)).2.1 (by decide) (by decide) ?_
    show Go p_ e_ below _ _ T14 (mkF m_ 86 #[.val (.ref a), .val (.long sz), .second, .val (.int (1 : Int32))] [])
    refine Go.retV X14 hx hret hlk (hb hby d1_86) (by decide) (by decide) ?_
    rw [e14]
    exact ⟨rfl, N13, Z13, b5, _, wd, r_wd, fun _ _ => g_b12, own_mk1 E_13_a F_13_a_size F_13_a_words F_13_a_pages V13 V_13_b12 pn12.2 qw ne_a_b12 ne_b5_b12⟩
  · rw [qn]
    show Go p_ e_ below _ _ T4 (mkF m_ 38 #[.val (.ref a), .val (.long sz), .second, .unset] [(.int (2 : Int32)), (.ref a)])
    refine Go.newRA X4 hx hZ hown (C := "[J") (ty := .long) (by decide) (hw _ (List.mem_of_getElem? (i := 18) rfl)) (hw _ (List.mem_of_getElem? (i := 19) rfl)) e4 (hb hby d1_38) (by decide) (cap := 2) (by decide) (by decide) (by decide) (by decide) (ad := "[[J") (by decide) ?_
    intro T16 h16 kc16 b16 zq16 X16 e16 E16 A16 Y16 Ov
    have ne_a_b16 : a ≠ b16 := Nat.ne_of_lt (Nat.lt_of_lt_of_le E_3_a.lt (Nat.le_of_eq zq16.symm))
    have g_b16 : n0 ≤ b16 := Nat.le_trans Z3 (Nat.le_of_eq zq16.symm)
    have Z16 : n0 ≤ h16.size := Nat.le_trans Z3 E16.1
    have E_16_a := E_3_a.ext E16
    have F_16_a_size := F_3_a_size.ext E16
    have F_16_a_words := F_3_a_words.ext E16
    have F_16_a_pages := F_3_a_pages.ext E16
    have V16 : Arv Z h16 b16 kc16 (.array .long) (2 : Int32) [.null, .null] .null := (Arv.new A16 (by decide)).pad (pad_rep [] .null 2)
    show Go p_ e_ below _ _ T16 (mkF m_ 41 #[.val (.ref a), .val (.long sz), .second, .unset] [(.ref b16), (.ref a)])
    refine Go.putF X16 hx hZ hown (host := "") (Or.inl (hw _ (List.mem_of_getElem? (i := 20) rfl))) Via.refl e16 F_16_a_pages E_16_a (Or.inr ⟨(hw _ (List.mem_of_getElem? (i := 21) rfl)), rfl, hnm⟩) (hw _ (List.mem_of_getElem? (i := 4) rfl)) (ty := (.array (.array .long))) (by decide) rfl rfl (hb hby d1_41) ?_
    intro T17 h17 X17 e17 W17
    have N17 := Fr.snoc X17 N3 g_a
    have E_17_a := E_16_a.wr W17
    have F_17_a_size := F_16_a_size.other W17 (Or.inr (slot_ne (Or.inr (hw _ (List.mem_of_getElem? (i := 13) rfl))) (Or.inr (hw _ (List.mem_of_getElem? (i := 21) rfl))) (by decide) (t := .long) (t' := (.array (.array .long))) (by decide) (by decide)))
    have F_17_a_words := F_16_a_words.other W17 (Or.inr (slot_ne (Or.inr (hw _ (List.mem_of_getElem? (i := 16) rfl))) (Or.inr (hw _ (List.mem_of_getElem? (i := 21) rfl))) (by decide) (t := .long) (t' := (.array (.array .long))) (by decide) (by decide)))
    have F_17_a_pages := F_16_a_pages.same W17
    have V_17_b16 := V16.other W17 (Ne.symm ne_a_b16)
    have Z17 : n0 ≤ h17.size := (by rw [W17.size]; exact Z16)
    show Go p_ e_ below _ _ T17 (mkF m_ 44 #[.val (.ref a), .val (.long sz), .second, .unset] [])
    refine Go.iconst X17 hx (0 : Int32) (hb hby d1_44) rfl ?_
    refine Go.istoreN X17 hx (l' := #[.val (.ref a), .val (.long sz), .second, .val (.int (0 : Int32))]) (hb hby d1_45) rfl ?_
    refine Go.iloadN X17 hx (hb hby d1_46) rfl ?_
    refine Go.aloadN X17 hx (hb hby d1_47) rfl rfl ?_
    refine Go.getF X17 hx hZ hown (host := "") (Or.inl (hw _ (List.mem_of_getElem? (i := 20) rfl))) Via.refl e17 F_17_a_pages (hb hby d1_48) ?_
    intro T18 X18 e18
    show Go p_ e_ below _ _ T18 (mkF m_ 51 #[.val (.ref a), .val (.long sz), .second, .val (.int (0 : Int32))] [(.ref b16), (.int (0 : Int32))])
    obtain ⟨cl19, Ar19, -, S19, M19, -, -⟩ := id V_17_b16
    refine Go.arraylength X18 hx hZ e18 Ar19 S19 M19 (hb hby d1_51) ?_
    refine Go.icmpNo X18 hx (hb hby d1_52) (tlt (by decide)).2.1 ?_
    show Go p_ e_ below _ _ T18 (mkF m_ 55 #[.val (.ref a), .val (.long sz), .second, .val (.int (0 : Int32))] [])
    refine Go.aloadN X18 hx (hb hby d1_55) rfl rfl ?_
    refine Go.getF X18 hx hZ hown (host := "") (Or.inl (hw _ (List.mem_of_getElem? (i := 20) rfl))) Via.refl e18 F_17_a_pages (hb hby d1_56) ?_
    intro T20 X20 e20
    show Go p_ e_ below _ _ T20 (mkF m_ 59 #[.val (.ref a), .val (.long sz), .second, .val (.int (0 : Int32))] [(.ref b16)])
    refine Go.iloadN X20 hx (hb hby d1_59) rfl ?_
    refine Go.ldc2J X20 hx hZ hown (hw _ (List.mem_of_getElem? (i := 17) rfl)) (hb hby d1_60) ?_
    refine Go.aloadN X20 hx (hb hby d1_63) rfl rfl ?_
    refine Go.getF X20 hx hZ hown (host := "") (Or.inl (hw _ (List.mem_of_getElem? (i := 15) rfl))) Via.refl e20 F_17_a_words (hb hby d1_64) ?_
    intro T21 X21 e21
    show Go p_ e_ below _ _ T21 (mkF m_ 67 #[.val (.ref a), .val (.long sz), .second, .val (.int (0 : Int32))] [(.long wd), (.long (65536 : Int64)), (.int (0 : Int32)), (.ref b16)])
    refine Go.iloadN X21 hx (hb hby d1_67) rfl ?_
    refine Go.i2l X21 hx (hb hby d1_68) ?_
    refine Go.bipush X21 hx (16 : Int32) (hb hby d1_69) rfl ?_
    refine Go.lshl X21 hx (hb hby d1_71) ?_
    refine Go.lsub X21 hx (hb hby d1_72) ?_
    refine Go.callS X21 hx hZ (rm3 l Z a0 hw [] (65536 : Int64) (wd - (((0 : Int32).toInt64) <<< ((16 : Int32) &&& 0x3f).toInt64))  h17 n0 Z17 ) hown (hw _ (List.mem_of_getElem? (i := 22) rfl)) (hw _ (List.mem_of_getElem? (i := 23) rfl)) (hw _ (List.mem_of_getElem? (i := 24) rfl)) (hw _ (List.mem_of_getElem? (i := 25) rfl)) (by decide) e21 (W := 2) (by rw [hml]; rfl) (argsL := [(.long (65536 : Int64)), (.long (wd - (((0 : Int32).toInt64) <<< ((16 : Int32) &&& 0x3f).toInt64)))]) (S := [(.int (0 : Int32)), (.ref b16)]) (Nat.le_of_ble_eq_true rfl) (by decide) (by decide) (by decide) (by decide) pd_oJJcJ rfl rfl (hb hby d1_73) ?_
    rintro _ T22 L22 X22 ⟨rfl, N22q, e22⟩
    have N22 := Fr.app N17 N22q
    show Go p_ e_ below _ _ T22 (mkF m_ 76 #[.val (.ref a), .val (.long sz), .second, .val (.int (0 : Int32))] [(.long (own_minL (65536 : Int64) (wd - (((0 : Int32).toInt64) <<< ((16 : Int32) &&& 0x3f).toInt64)) )), (.int (0 : Int32)), (.ref b16)])
    refine Go.l2i X22 hx (hb hby d1_76) ?_
    have pn23 := own_pgn0 wd hwr
    refine Go.newPE X22 hx hZ (hw _ (List.mem_of_getElem? (i := 26) rfl)) e22 (hb hby d1_77) pn23.1 (cap := 65536) (pn23.2 ▸ own_ple wd 0) (by decide) (by decide) (by decide) (ad := "[J") (by decide) ?_
    intro T23 h23 kc23 b23 zq23 X23 e23 E23 A23 Y23
    have ne_a_b23 : a ≠ b23 := Nat.ne_of_lt (Nat.lt_of_lt_of_le E_17_a.lt (Nat.le_of_eq zq23.symm))
    have ne_b16_b23 : b16 ≠ b23 := Nat.ne_of_lt (Nat.lt_of_lt_of_le V_17_b16.lt (Nat.le_of_eq zq23.symm))
    have g_b23 : n0 ≤ b23 := Nat.le_trans Z17 (Nat.le_of_eq zq23.symm)
    have Z23 : n0 ≤ h23.size := Nat.le_trans Z17 E23.1
    have E_23_a := E_17_a.ext E23
    have F_23_a_size := F_17_a_size.ext E23
    have F_23_a_words := F_17_a_words.ext E23
    have F_23_a_pages := F_17_a_pages.ext E23
    have V_23_b16 := V_17_b16.ext E23
    have V23 : Arv Z h23 b23 kc23 .long ((own_minL (65536 : Int64) (wd - (((0 : Int32).toInt64) <<< ((16 : Int32) &&& 0x3f).toInt64)) ).toInt32) [] (.long (0 : Int64)) := Arv.new A23 pn23.1
    show Go p_ e_ below _ _ T23 (mkF m_ 79 #[.val (.ref a), .val (.long sz), .second, .val (.int (0 : Int32))] [(.ref b23), (.int (0 : Int32)), (.ref b16)])
    obtain ⟨cl24, Ar24, q24, S24, M24, H24, G24⟩ := V_23_b16
    refine Go.stR X23 hx hZ e23 Ar24 (inb_of S24 ⟨by decide, by decide⟩) rfl (Sto.ofVA Ar24 q24 Ov (Ins.of_exa Y23 (hw _ (List.mem_of_getElem? (i := 27) rfl)))) (hb hby d1_79) ?_
    intro T24 h24 X24 e24 W24
    have N24 := Fr.snoc X24 N22 g_b16
    have V24 : Arv Z h24 b16 kc16 (.array .long) (2 : Int32) [(.ref b23), .null] .null := Arv.set Ar24 q24 S24 M24 H24 G24 rfl W24 0 rfl (Nat.le_of_ble_eq_true rfl)
    have E_24_a := E_23_a.wr W24
    have F_24_a_size := F_23_a_size.other W24 (Or.inl ne_a_b16)
    have F_24_a_words := F_23_a_words.other W24 (Or.inl ne_a_b16)
    have F_24_a_pages := F_23_a_pages.other W24 (Or.inl ne_a_b16)
    have V_24_b23 := V23.other W24 (Ne.symm ne_b16_b23)
    have Z24 : n0 ≤ h24.size := (by rw [W24.size]; exact Z23)
    show Go p_ e_ below _ _ T24 (mkF m_ 80 #[.val (.ref a), .val (.long sz), .second, .val (.int (0 : Int32))] [])
    refine Go.iincF X24 hx (l' := #[.val (.ref a), .val (.long sz), .second, .val (.int (1 : Int32))]) (1 : Int32) (1 : Int32) (hb hby d1_80) rfl (by decide) rfl rfl ?_
    refine Go.goto X24 hx (pc' := 46) (hb hby d1_83) (by decide) (by decide) ?_
    refine Go.iloadN X24 hx (hb hby d1_46) rfl ?_
    refine Go.aloadN X24 hx (hb hby d1_47) rfl rfl ?_
    refine Go.getF X24 hx hZ hown (host := "") (Or.inl (hw _ (List.mem_of_getElem? (i := 20) rfl))) Via.refl e24 F_24_a_pages (hb hby d1_48) ?_
    intro T25 X25 e25
    show Go p_ e_ below _ _ T25 (mkF m_ 51 #[.val (.ref a), .val (.long sz), .second, .val (.int (1 : Int32))] [(.ref b16), (.int (1 : Int32))])
    obtain ⟨cl26, Ar26, -, S26, M26, -, -⟩ := id V24
    refine Go.arraylength X25 hx hZ e25 Ar26 S26 M26 (hb hby d1_51) ?_
    refine Go.icmpNo X25 hx (hb hby d1_52) (tlt (by decide)).2.1 ?_
    show Go p_ e_ below _ _ T25 (mkF m_ 55 #[.val (.ref a), .val (.long sz), .second, .val (.int (1 : Int32))] [])
    refine Go.aloadN X25 hx (hb hby d1_55) rfl rfl ?_
    refine Go.getF X25 hx hZ hown (host := "") (Or.inl (hw _ (List.mem_of_getElem? (i := 20) rfl))) Via.refl e25 F_24_a_pages (hb hby d1_56) ?_
    intro T27 X27 e27
    show Go p_ e_ below _ _ T27 (mkF m_ 59 #[.val (.ref a), .val (.long sz), .second, .val (.int (1 : Int32))] [(.ref b16)])
    refine Go.iloadN X27 hx (hb hby d1_59) rfl ?_
    refine Go.ldc2J X27 hx hZ hown (hw _ (List.mem_of_getElem? (i := 17) rfl)) (hb hby d1_60) ?_
    refine Go.aloadN X27 hx (hb hby d1_63) rfl rfl ?_
    refine Go.getF X27 hx hZ hown (host := "") (Or.inl (hw _ (List.mem_of_getElem? (i := 15) rfl))) Via.refl e27 F_24_a_words (hb hby d1_64) ?_
    intro T28 X28 e28
    show Go p_ e_ below _ _ T28 (mkF m_ 67 #[.val (.ref a), .val (.long sz), .second, .val (.int (1 : Int32))] [(.long wd), (.long (65536 : Int64)), (.int (1 : Int32)), (.ref b16)])
    refine Go.iloadN X28 hx (hb hby d1_67) rfl ?_
    refine Go.i2l X28 hx (hb hby d1_68) ?_
    refine Go.bipush X28 hx (16 : Int32) (hb hby d1_69) rfl ?_
    refine Go.lshl X28 hx (hb hby d1_71) ?_
    refine Go.lsub X28 hx (hb hby d1_72) ?_
    refine Go.callS X28 hx hZ (rm3 l Z a0 hw [] (65536 : Int64) (wd - (((1 : Int32).toInt64) <<< ((16 : Int32) &&& 0x3f).toInt64))  h24 n0 Z24 ) hown (hw _ (List.mem_of_getElem? (i := 22) rfl)) (hw _ (List.mem_of_getElem? (i := 23) rfl)) (hw _ (List.mem_of_getElem? (i := 24) rfl)) (hw _ (List.mem_of_getElem? (i := 25) rfl)) (by decide) e28 (W := 2) (by rw [hml]; rfl) (argsL := [(.long (65536 : Int64)), (.long (wd - (((1 : Int32).toInt64) <<< ((16 : Int32) &&& 0x3f).toInt64)))]) (S := [(.int (1 : Int32)), (.ref b16)]) (Nat.le_of_ble_eq_true rfl) (by decide) (by decide) (by decide) (by decide) pd_oJJcJ rfl rfl (hb hby d1_73) ?_
    rintro _ T29 L29 X29 ⟨rfl, N29q, e29⟩
    have N29 := Fr.app N24 N29q
    show Go p_ e_ below _ _ T29 (mkF m_ 76 #[.val (.ref a), .val (.long sz), .second, .val (.int (1 : Int32))] [(.long (own_minL (65536 : Int64) (wd - (((1 : Int32).toInt64) <<< ((16 : Int32) &&& 0x3f).toInt64)) )), (.int (1 : Int32)), (.ref b16)])
    refine Go.l2i X29 hx (hb hby d1_76) ?_
    have pn30 := own_pgn1 wd hwr qw
    refine Go.newPE X29 hx hZ (hw _ (List.mem_of_getElem? (i := 26) rfl)) e29 (hb hby d1_77) pn30.1 (cap := 65536) (pn30.2 ▸ own_ple wd 1) (by decide) (by decide) (by decide) (ad := "[J") (by decide) ?_
    intro T30 h30 kc30 b30 zq30 X30 e30 E30 A30 Y30
    have ne_a_b30 : a ≠ b30 := Nat.ne_of_lt (Nat.lt_of_lt_of_le E_24_a.lt (Nat.le_of_eq zq30.symm))
    have ne_b23_b30 : b23 ≠ b30 := Nat.ne_of_lt (Nat.lt_of_lt_of_le V_24_b23.lt (Nat.le_of_eq zq30.symm))
    have ne_b16_b30 : b16 ≠ b30 := Nat.ne_of_lt (Nat.lt_of_lt_of_le V24.lt (Nat.le_of_eq zq30.symm))
    have g_b30 : n0 ≤ b30 := Nat.le_trans Z24 (Nat.le_of_eq zq30.symm)
    have Z30 : n0 ≤ h30.size := Nat.le_trans Z24 E30.1
    have E_30_a := E_24_a.ext E30
    have F_30_a_size := F_24_a_size.ext E30
    have F_30_a_words := F_24_a_words.ext E30
    have F_30_a_pages := F_24_a_pages.ext E30
    have V_30_b23 := V_24_b23.ext E30
    have V_30_b16 := V24.ext E30
    have V30 : Arv Z h30 b30 kc30 .long ((own_minL (65536 : Int64) (wd - (((1 : Int32).toInt64) <<< ((16 : Int32) &&& 0x3f).toInt64)) ).toInt32) [] (.long (0 : Int64)) := Arv.new A30 pn30.1
    show Go p_ e_ below _ _ T30 (mkF m_ 79 #[.val (.ref a), .val (.long sz), .second, .val (.int (1 : Int32))] [(.ref b30), (.int (1 : Int32)), (.ref b16)])
    obtain ⟨cl31, Ar31, q31, S31, M31, H31, G31⟩ := V_30_b16
    refine Go.stR X30 hx hZ e30 Ar31 (inb_of S31 ⟨by decide, by decide⟩) rfl (Sto.ofVA Ar31 q31 Ov (Ins.of_exa Y30 (hw _ (List.mem_of_getElem? (i := 27) rfl)))) (hb hby d1_79) ?_
    intro T31 h31 X31 e31 W31
    have N31 := Fr.snoc X31 N29 g_b16
    have V31 : Arv Z h31 b16 kc16 (.array .long) (2 : Int32) [(.ref b23), (.ref b30)] .null := Arv.set Ar31 q31 S31 M31 H31 G31 rfl W31 1 rfl (Nat.le_of_ble_eq_true rfl)
    have E_31_a := E_30_a.wr W31
    have F_31_a_size := F_30_a_size.other W31 (Or.inl ne_a_b16)
    have F_31_a_words := F_30_a_words.other W31 (Or.inl ne_a_b16)
    have F_31_a_pages := F_30_a_pages.other W31 (Or.inl ne_a_b16)
    have V_31_b23 := V_30_b23.other W31 (Ne.symm ne_b16_b23)
    have V_31_b30 := V30.other W31 (Ne.symm ne_b16_b30)
    have Z31 : n0 ≤ h31.size := (by rw [W31.size]; exact Z30)
    show Go p_ e_ below _ _ T31 (mkF m_ 80 #[.val (.ref a), .val (.long sz), .second, .val (.int (1 : Int32))] [])
    refine Go.iincF X31 hx (l' := #[.val (.ref a), .val (.long sz), .second, .val (.int (2 : Int32))]) (1 : Int32) (2 : Int32) (hb hby d1_80) rfl (by decide) rfl rfl ?_
    refine Go.goto X31 hx (pc' := 46) (hb hby d1_83) (by decide) (by decide) ?_
    refine Go.iloadN X31 hx (hb hby d1_46) rfl ?_
    refine Go.aloadN X31 hx (hb hby d1_47) rfl rfl ?_
    refine Go.getF X31 hx hZ hown (host := "") (Or.inl (hw _ (List.mem_of_getElem? (i := 20) rfl))) Via.refl e31 F_31_a_pages (hb hby d1_48) ?_
    intro T32 X32 e32
    show Go p_ e_ below _ _ T32 (mkF m_ 51 #[.val (.ref a), .val (.long sz), .second, .val (.int (2 : Int32))] [(.ref b16), (.int (2 : Int32))])
    obtain ⟨cl33, Ar33, -, S33, M33, -, -⟩ := id V31
    refine Go.arraylength X32 hx hZ e32 Ar33 S33 M33 (hb hby d1_51) ?_
    refine Go.icmpYes X32 hx (pc' := 86) (hb hby d1_52) (flt (by decide)).2.1 (by decide) (by decide) ?_
    show Go p_ e_ below _ _ T32 (mkF m_ 86 #[.val (.ref a), .val (.long sz), .second, .val (.int (2 : Int32))] [])
    refine Go.retV X32 hx hret hlk (hb hby d1_86) (by decide) (by decide) ?_
    rw [e32]
    exact ⟨rfl, N31, Z31, b16, _, wd, r_wd, fun i _ => by (show n0 ≤ if i = 0 then b23 else b30); split <;> assumption, own_mk2 E_31_a F_31_a_size F_31_a_words F_31_a_pages V31 V_31_b23 pn23.2 V_31_b30 pn30.2 qw ne_a_b23 ne_b16_b23 ne_a_b30 ne_b16_b30 ne_b23_b30⟩
theorem pd_oJcV : parseMethodDescriptor "(J)V" = some ⟨[.long], none⟩ := by decide +kernel
theorem pn_0 : plainName "com/example/gatefield/gatefield/model/RecordSetAddPinLaw" = true := by first | (simp [plainName, overriddenIn]; done) | decide +kernel
theorem ef_rm0 (m_ : MethodId) (p0 : Int64) (p1 : Int64) (p2 : Int64) (p3 : Int64) : entryFrame m_ #[(.long p0), (.long p1), (.long p2), (.long p3)] maxLocals = mkF m_ 0 #[.val (.long p0), .second, .val (.long p1), .second, .val (.long p2), .second, .val (.long p3), .second, .unset, .unset, .unset, .unset, .unset, .unset, .unset, .unset, .unset, .unset, .unset, .unset, .unset, .unset, .unset] [] := by first | (simp [entryFrame, mkF, argsToLocals, Value.category, maxLocals]; done) | rfl
def Q0 (Z : State) (p0 : Int64) (p1 : Int64) (p2 : Int64) (p3 : Int64)  (h0 : Heap) (n0 : Nat) (v : Option Value) (h : Heap) (L : List Loc) : Prop := v = some (.int 1) ∧ Fr n0 L
set_option maxRecDepth 65536 in
set_option maxHeartbeats 40000000 in
theorem rm0 (l : Launch) (Z : State) (a0 : Array Value) (hw : ∀ d ∈ tables_1, d.before a0 Z = true) (ws : List Jvm.Cond) (p0 : Int64) (p1 : Int64) (p2 : Int64) (p3 : Int64)  (h0 : Heap) (n0 : Nat) (Z0 : n0 ≤ h0.size)  :
    MetFree l x (head1 (Jvm.Cond.code x code maxLocals ret :: ws) room_1) (fun a_ U_ => a_ = #[(.long p0), (.long p1), (.long p2), (.long p3)] ∧ Z.Warmed39 U_.vm ∧ U_.heap = h0) (fun _ _ _ _ _ => True) (fun _ U_ o_ V_ => ∃ v_ L_, o_ = .returned v_ ∧ Q0 Z p0 p1 p2 p3 h0 n0 v_ V_.heap L_ ∧ FrameEnd U_ o_ V_ L_ room_1.cells room_1.slots) := by
  refine metOf (Q := Q0 Z p0 p1 p2 p3 h0 n0) (plainFor_of_name pn_0) ?_
  intro p_ e_ s_ m_ below meth c_ s₁ X0 hx hby hml hret hlk hZ hown hnm e0
  rw [ef_rm0]
  have N0 := Fr.nil n0
  show Go p_ e_ below _ _ s₁ (mkF m_ 0 #[.val (.long p0), .second, .val (.long p1), .second, .val (.long p2), .second, .val (.long p3), .second, .unset, .unset, .unset, .unset, .unset, .unset, .unset, .unset, .unset, .unset, .unset, .unset, .unset, .unset, .unset] [])
  refine Go.lloadN X0 hx (hb hby at_0) rfl ?_
  refine Go.ldc2J X0 hx hZ hown (hw _ (List.mem_of_getElem? (i := 0) rfl)) (hb hby at_1) ?_
  refine Go.land X0 hx (hb hby at_4) ?_
  refine Go.lconst X0 hx (1 : Int64) (hb hby at_5) rfl ?_
  refine Go.ladd X0 hx (hb hby at_6) ?_
  refine Go.lstore X0 hx (l' := #[.val (.long p0), .second, .val (.long p1), .second, .val (.long p2), .second, .val (.long p3), .second, .val (.long ((p0 &&& (8388607 : Int64)) + (1 : Int64))), .second, .unset, .unset, .unset, .unset, .unset, .unset, .unset, .unset, .unset, .unset, .unset, .unset, .unset]) (hb hby at_7) rfl ?_
  show Go p_ e_ below _ _ s₁ (mkF m_ 9 #[.val (.long p0), .second, .val (.long p1), .second, .val (.long p2), .second, .val (.long p3), .second, .val (.long ((p0 &&& (8388607 : Int64)) + (1 : Int64))), .second, .unset, .unset, .unset, .unset, .unset, .unset, .unset, .unset, .unset, .unset, .unset, .unset, .unset] [])
  obtain ⟨sz, q_sz⟩ : ∃ z, z = ((p0 &&& (8388607 : Int64)) + (1 : Int64)) := ⟨_, rfl⟩
  rw [← q_sz]
  have r_sz : 1 ≤ sz.toInt ∧ sz.toInt ≤ 8388608 := by rw [q_sz]; exact own_szr _
  show Go p_ e_ below _ _ s₁ (mkF m_ 9 #[.val (.long p0), .second, .val (.long p1), .second, .val (.long p2), .second, .val (.long p3), .second, .val (.long sz), .second, .unset, .unset, .unset, .unset, .unset, .unset, .unset, .unset, .unset, .unset, .unset, .unset, .unset] [])
  refine Go.lloadN X0 hx (hb hby at_9) rfl ?_
  refine Go.ldc2J X0 hx hZ hown (hw _ (List.mem_of_getElem? (i := 1) rfl)) (hb hby at_10) ?_
  refine Go.land X0 hx (hb hby at_13) ?_
  refine Go.lload X0 hx (hb hby at_14) rfl ?_
  refine Go.lrem X0 hx (hb hby at_16) (own_ne0 r_sz.1) ?_
  refine Go.lstore X0 hx (l' := #[.val (.long p0), .second, .val (.long p1), .second, .val (.long p2), .second, .val (.long p3), .second, .val (.long sz), .second, .val (.long ((p1 &&& (9223372036854775807 : Int64)) % sz)), .second, .unset, .unset, .unset, .unset, .unset, .unset, .unset, .unset, .unset, .unset, .unset]) (hb hby at_17) rfl ?_
  refine Go.lload X0 hx (hb hby at_19) rfl ?_
  refine Go.ldc2J X0 hx hZ hown (hw _ (List.mem_of_getElem? (i := 1) rfl)) (hb hby at_21) ?_
  refine Go.land X0 hx (hb hby at_24) ?_
  refine Go.lload X0 hx (hb hby at_25) rfl ?_
  refine Go.lrem X0 hx (hb hby at_27) (own_ne0 r_sz.1) ?_
  refine Go.lstore X0 hx (l' := #[.val (.long p0), .second, .val (.long p1), .second, .val (.long p2), .second, .val (.long p3), .second, .val (.long sz), .second, .val (.long ((p1 &&& (9223372036854775807 : Int64)) % sz)), .second, .val (.long ((p2 &&& (9223372036854775807 : Int64)) % sz)), .second, .unset, .unset, .unset, .unset, .unset, .unset, .unset, .unset, .unset]) (hb hby at_28) rfl ?_
  refine Go.lload X0 hx (hb hby at_30) rfl ?_
  show Go p_ e_ below _ _ s₁ (mkF m_ 32 #[.val (.long p0), .second, .val (.long p1), .second, .val (.long p2), .second, .val (.long p3), .second, .val (.long sz), .second, .val (.long ((p1 &&& (9223372036854775807 : Int64)) % sz)), .second, .val (.long ((p2 &&& (9223372036854775807 : Int64)) % sz)), .second, .unset, .unset, .unset, .unset, .unset, .unset, .unset, .unset, .unset] [(.long p3)])
  refine Go.ldc2J X0 hx hZ hown (hw _ (List.mem_of_getElem? (i := 1) rfl)) (hb hby at_32) ?_
  refine Go.land X0 hx (hb hby at_35) ?_
  refine Go.lload X0 hx (hb hby at_36) rfl ?_
  refine Go.ldc2J X0 hx hZ hown (hw _ (List.mem_of_getElem? (i := 2) rfl)) (hb hby at_38) ?_
  refine Go.ladd X0 hx (hb hby at_41) ?_
  refine Go.lrem X0 hx (hb hby at_42) (own_ne0 (by rw [own_sz2 r_sz]; omega)) ?_
  refine Go.lstore X0 hx (l' := #[.val (.long p0), .second, .val (.long p1), .second, .val (.long p2), .second, .val (.long p3), .second, .val (.long sz), .second, .val (.long ((p1 &&& (9223372036854775807 : Int64)) % sz)), .second, .val (.long ((p2 &&& (9223372036854775807 : Int64)) % sz)), .second, .val (.long ((p3 &&& (9223372036854775807 : Int64)) % (sz + (2 : Int64)))), .second, .unset, .unset, .unset, .unset, .unset, .unset, .unset]) (hb hby at_43) rfl ?_
  show Go p_ e_ below _ _ s₁ (mkF m_ 45 #[.val (.long p0), .second, .val (.long p1), .second, .val (.long p2), .second, .val (.long p3), .second, .val (.long sz), .second, .val (.long ((p1 &&& (9223372036854775807 : Int64)) % sz)), .second, .val (.long ((p2 &&& (9223372036854775807 : Int64)) % sz)), .second, .val (.long ((p3 &&& (9223372036854775807 : Int64)) % (sz + (2 : Int64)))), .second, .unset, .unset, .unset, .unset, .unset, .unset, .unset] [])
  obtain ⟨ra, q_ra⟩ : ∃ z, z = ((p1 &&& (9223372036854775807 : Int64)) % sz) := ⟨_, rfl⟩
  rw [← q_ra]
  have r_ra : 0 ≤ ra.toInt ∧ ra.toInt < sz.toInt := by rw [q_ra]; exact own_rem _ _ r_sz.1
  show Go p_ e_ below _ _ s₁ (mkF m_ 45 #[.val (.long p0), .second, .val (.long p1), .second, .val (.long p2), .second, .val (.long p3), .second, .val (.long sz), .second, .val (.long ra), .second, .val (.long ((p2 &&& (9223372036854775807 : Int64)) % sz)), .second, .val (.long ((p3 &&& (9223372036854775807 : Int64)) % (sz + (2 : Int64)))), .second, .unset, .unset, .unset, .unset, .unset, .unset, .unset] [])
  obtain ⟨rb, q_rb⟩ : ∃ z, z = ((p2 &&& (9223372036854775807 : Int64)) % sz) := ⟨_, rfl⟩
  rw [← q_rb]
  have r_rb : 0 ≤ rb.toInt ∧ rb.toInt < sz.toInt := by rw [q_rb]; exact own_rem _ _ r_sz.1
  show Go p_ e_ below _ _ s₁ (mkF m_ 45 #[.val (.long p0), .second, .val (.long p1), .second, .val (.long p2), .second, .val (.long p3), .second, .val (.long sz), .second, .val (.long ra), .second, .val (.long rb), .second, .val (.long ((p3 &&& (9223372036854775807 : Int64)) % (sz + (2 : Int64)))), .second, .unset, .unset, .unset, .unset, .unset, .unset, .unset] [])
  obtain ⟨rc, q_rc⟩ : ∃ z, z = ((p3 &&& (9223372036854775807 : Int64)) % (sz + (2 : Int64))) := ⟨_, rfl⟩
  rw [← q_rc]
  have r_rc : 0 ≤ rc.toInt := by rw [q_rc]; exact (own_rem _ _ (by rw [own_sz2 r_sz]; omega)).1
  show Go p_ e_ below _ _ s₁ (mkF m_ 45 #[.val (.long p0), .second, .val (.long p1), .second, .val (.long p2), .second, .val (.long p3), .second, .val (.long sz), .second, .val (.long ra), .second, .val (.long rb), .second, .val (.long rc), .second, .unset, .unset, .unset, .unset, .unset, .unset, .unset] [])
  refine Go.newO X0 hx hZ hown (hw _ (List.mem_of_getElem? (i := 3) rfl)) (hw _ (List.mem_of_getElem? (i := 4) rfl)) (hw _ (List.mem_of_getElem? (i := 5) rfl)) e0 (hb hby at_45) (by decide) (by decide) ?_
  intro T1 h1 b1 zq1 X1 e1 E1 A1 D1
  have g_b1 : n0 ≤ b1 := Nat.le_trans Z0 (Nat.le_of_eq zq1.symm)
  have Z1 : n0 ≤ h1.size := Nat.le_trans Z0 E1.1
  have F_b1_size : Fld Z h1 b1 "com/example/gatefield/gatefield/model/RecordSet" "size" "J" (.long (0 : Int64)) := D1 (Or.inr (hw _ (List.mem_of_getElem? (i := 13) rfl))) (ty := .long) (by decide)
  have F_b1_words : Fld Z h1 b1 "com/example/gatefield/gatefield/model/RecordSet" "words" "J" (.long (0 : Int64)) := D1 (Or.inr (hw _ (List.mem_of_getElem? (i := 16) rfl))) (ty := .long) (by decide)
  have F_b1_pages : Fld Z h1 b1 "com/example/gatefield/gatefield/model/RecordSet" "pages" "[[J" .null := D1 (Or.inr (hw _ (List.mem_of_getElem? (i := 21) rfl))) (ty := (.array (.array .long))) (by decide)
  show Go p_ e_ below _ _ T1 (mkF m_ 48 #[.val (.long p0), .second, .val (.long p1), .second, .val (.long p2), .second, .val (.long p3), .second, .val (.long sz), .second, .val (.long ra), .second, .val (.long rb), .second, .val (.long rc), .second, .unset, .unset, .unset, .unset, .unset, .unset, .unset] [(.ref b1)])
  refine Go.dup X1 hx (hb hby at_48) rfl ?_
  refine Go.lload X1 hx (hb hby at_49) rfl ?_
  refine Go.callI X1 hx hZ (rm1 l Z a0 hw [] b1 sz h1 n0 Z1 A1 F_b1_size F_b1_words F_b1_pages g_b1 r_sz) rfl hown (hw _ (List.mem_of_getElem? (i := 6) rfl)) (hw _ (List.mem_of_getElem? (i := 7) rfl)) (hw _ (List.mem_of_getElem? (i := 5) rfl)) (hw _ (List.mem_of_getElem? (i := 8) rfl)) (by decide) e1 (a := b1) (W := 1) (by rw [hml]; rfl) (argsL := [(.long sz)]) (S := [(.ref b1)]) (Nat.le_of_ble_eq_true rfl) (by decide) (by decide) (by decide) (by decide) pd_oJcV rfl rfl (hb hby at_51) ?_
  rintro _ T2 L2 X2 ⟨rfl, N2q, zz2, P, tp, wd, hwd, htp, R0⟩
  have N2 := Fr.app N0 N2q
  have hwd2 : wd.toInt ≤ 131072 := by have := r_sz; omega
  show Go p_ e_ below _ _ T2 (mkF m_ 54 #[.val (.long p0), .second, .val (.long p1), .second, .val (.long p2), .second, .val (.long p3), .second, .val (.long sz), .second, .val (.long ra), .second, .val (.long rb), .second, .val (.long rc), .second, .unset, .unset, .unset, .unset, .unset, .unset, .unset] [(.ref b1)])
  refine Go.astore X2 hx (l' := #[.val (.long p0), .second, .val (.long p1), .second, .val (.long p2), .second, .val (.long p3), .second, .val (.long sz), .second, .val (.long ra), .second, .val (.long rb), .second, .val (.long rc), .second, .val (.ref b1), .unset, .unset, .unset, .unset, .unset, .unset]) (hb hby at_54) rfl rfl ?_
  refine Go.aload X2 hx (hb hby at_56) rfl rfl ?_
  refine Go.lload X2 hx (hb hby at_58) rfl ?_
  refine Go.callV X2 hx hZ (y0 := (⟨"com/example/gatefield/gatefield/model/RecordSet", "add", "(J)V"⟩ : MethodName)) (rm4 l Z a0 hw [] b1 ra P tp sz wd (fun _ => (0 : Int64)) T2.heap n0 zz2 R0 r_ra.1 r_ra.2 hwd hwd2 htp) (by decide) hown (hw _ (List.mem_of_getElem? (i := 28) rfl)) (hw _ (List.mem_of_getElem? (i := 29) rfl)) (notFace_of_selects (args := #[]) (mvT hZ (hw _ (List.mem_of_getElem? (i := 31) rfl)))) (hw _ (List.mem_of_getElem? (i := 31) rfl)) (hw _ (List.mem_of_getElem? (i := 30) rfl)) (hw _ (List.mem_of_getElem? (i := 5) rfl)) (hw _ (List.mem_of_getElem? (i := 32) rfl)) rfl R0.1 (W := 0) (by rw [hml]; rfl) (argsL := [(.long ra)]) (S := []) (Nat.le_of_ble_eq_true rfl) (by decide) (by decide) (by decide) (by decide) pd_oJcV rfl rfl (hb hby at_60) ?_
  rintro _ T3 L3 X3 ⟨rfl, N3q, zz3, R3⟩
  have N3 := Fr.app N2 N3q
  show Go p_ e_ below _ _ T3 (mkF m_ 63 #[.val (.long p0), .second, .val (.long p1), .second, .val (.long p2), .second, .val (.long p3), .second, .val (.long sz), .second, .val (.long ra), .second, .val (.long rb), .second, .val (.long rc), .second, .val (.ref b1), .unset, .unset, .unset, .unset, .unset, .unset] [])
  refine Go.aload X3 hx (hb hby at_63) rfl rfl ?_
  refine Go.lload X3 hx (hb hby at_65) rfl ?_
  refine Go.callV X3 hx hZ (y0 := (⟨"com/example/gatefield/gatefield/model/RecordSet", "add", "(J)V"⟩ : MethodName)) (rm4 l Z a0 hw [] b1 rb P tp sz wd (fun y => if y = own_kx ra then (fun _ => (0 : Int64)) (own_kx ra) ||| own_bit ra else (fun _ => (0 : Int64)) y) T3.heap n0 zz3 R3 r_rb.1 r_rb.2 hwd hwd2 htp) (by decide) hown (hw _ (List.mem_of_getElem? (i := 28) rfl)) (hw _ (List.mem_of_getElem? (i := 29) rfl)) (notFace_of_selects (args := #[]) (mvT hZ (hw _ (List.mem_of_getElem? (i := 31) rfl)))) (hw _ (List.mem_of_getElem? (i := 31) rfl)) (hw _ (List.mem_of_getElem? (i := 30) rfl)) (hw _ (List.mem_of_getElem? (i := 5) rfl)) (hw _ (List.mem_of_getElem? (i := 32) rfl)) rfl R3.1 (W := 0) (by rw [hml]; rfl) (argsL := [(.long rb)]) (S := []) (Nat.le_of_ble_eq_true rfl) (by decide) (by decide) (by decide) (by decide) pd_oJcV rfl rfl (hb hby at_67) ?_
  rintro _ T4 L4 X4 ⟨rfl, N4q, zz4, R4⟩
  have N4 := Fr.app N3 N4q
  show Go p_ e_ below _ _ T4 (mkF m_ 70 #[.val (.long p0), .second, .val (.long p1), .second, .val (.long p2), .second, .val (.long p3), .second, .val (.long sz), .second, .val (.long ra), .second, .val (.long rb), .second, .val (.long rc), .second, .val (.ref b1), .unset, .unset, .unset, .unset, .unset, .unset] [])
  refine Go.lload X4 hx (hb hby at_70) rfl ?_
  refine Go.lload X4 hx (hb hby at_72) rfl ?_
  refine Go.callS X4 hx hZ (rm3 l Z a0 hw [] ra rb  T4.heap n0 zz4 ) hown (hw _ (List.mem_of_getElem? (i := 34) rfl)) (hw _ (List.mem_of_getElem? (i := 23) rfl)) (hw _ (List.mem_of_getElem? (i := 24) rfl)) (hw _ (List.mem_of_getElem? (i := 25) rfl)) (by decide) rfl (W := 0) (by rw [hml]; rfl) (argsL := [(.long ra), (.long rb)]) (S := []) (Nat.le_of_ble_eq_true rfl) (by decide) (by decide) (by decide) (by decide) pd_oJJcJ rfl rfl (hb hby at_74) ?_
  rintro _ T5 L5 X5 ⟨rfl, N5q, e5⟩
  have N5 := Fr.app N4 N5q
  show Go p_ e_ below _ _ T5 (mkF m_ 77 #[.val (.long p0), .second, .val (.long p1), .second, .val (.long p2), .second, .val (.long p3), .second, .val (.long sz), .second, .val (.long ra), .second, .val (.long rb), .second, .val (.long rc), .second, .val (.ref b1), .unset, .unset, .unset, .unset, .unset, .unset] [(.long (own_minL ra rb ))])
  refine Go.lstore X5 hx (l' := #[.val (.long p0), .second, .val (.long p1), .second, .val (.long p2), .second, .val (.long p3), .second, .val (.long sz), .second, .val (.long ra), .second, .val (.long rb), .second, .val (.long rc), .second, .val (.ref b1), .val (.long (own_minL ra rb )), .second, .unset, .unset, .unset, .unset]) (hb hby at_77) rfl ?_
  refine Go.lload X5 hx (hb hby at_79) rfl ?_
  refine Go.lload X5 hx (hb hby at_81) rfl ?_
  refine Go.callS X5 hx hZ (rm5 l Z a0 hw [] ra rb  T4.heap n0 zz4 ) hown (hw _ (List.mem_of_getElem? (i := 35) rfl)) (hw _ (List.mem_of_getElem? (i := 36) rfl)) (hw _ (List.mem_of_getElem? (i := 24) rfl)) (hw _ (List.mem_of_getElem? (i := 37) rfl)) (by decide) e5 (W := 0) (by rw [hml]; rfl) (argsL := [(.long ra), (.long rb)]) (S := []) (Nat.le_of_ble_eq_true rfl) (by decide) (by decide) (by decide) (by decide) pd_oJJcJ rfl rfl (hb hby at_83) ?_
  rintro _ T6 L6 X6 ⟨rfl, N6q, e6⟩
  have N6 := Fr.app N5 N6q
  show Go p_ e_ below _ _ T6 (mkF m_ 86 #[.val (.long p0), .second, .val (.long p1), .second, .val (.long p2), .second, .val (.long p3), .second, .val (.long sz), .second, .val (.long ra), .second, .val (.long rb), .second, .val (.long rc), .second, .val (.ref b1), .val (.long (own_minL ra rb )), .second, .unset, .unset, .unset, .unset] [(.long (own_maxL ra rb ))])
  refine Go.lstore X6 hx (l' := #[.val (.long p0), .second, .val (.long p1), .second, .val (.long p2), .second, .val (.long p3), .second, .val (.long sz), .second, .val (.long ra), .second, .val (.long rb), .second, .val (.long rc), .second, .val (.ref b1), .val (.long (own_minL ra rb )), .second, .val (.long (own_maxL ra rb )), .second, .unset, .unset]) (hb hby at_86) rfl ?_
  have j7 : ∀ (T8 : State) (l8 : List Loc) (ex : Int64), Stand p_ l e_ room_1 s_ m_ #[(.long p0), (.long p1), (.long p2), (.long p3)] below meth c_ T8 l8 4 131077 → Fr n0 l8 → T8.heap = T4.heap → (ex = (if (own_minL ra rb ) < rc then (if (own_maxL ra rb ) < rc then (-1 : Int64) else (own_maxL ra rb )) else (own_minL ra rb ))) → Go p_ e_ below (FE s_ room_1.cells room_1.slots) (Q0 Z p0 p1 p2 p3 h0 n0) T8 (mkF m_ 123 #[.val (.long p0), .second, .val (.long p1), .second, .val (.long p2), .second, .val (.long p3), .second, .val (.long sz), .second, .val (.long ra), .second, .val (.long rb), .second, .val (.long rc), .second, .val (.ref b1), .val (.long (own_minL ra rb )), .second, .val (.long (own_maxL ra rb )), .second, .val (.long ex), .second] []) := by
    intro T8 l8 ex X8 N8 e8  h_ex
    show Go p_ e_ below _ _ T8 (mkF m_ 123 #[.val (.long p0), .second, .val (.long p1), .second, .val (.long p2), .second, .val (.long p3), .second, .val (.long sz), .second, .val (.long ra), .second, .val (.long rb), .second, .val (.long rc), .second, .val (.ref b1), .val (.long (own_minL ra rb )), .second, .val (.long (own_maxL ra rb )), .second, .val (.long ex), .second] [])
    refine Go.aload X8 hx (hb hby at_123) rfl rfl ?_
    refine Go.lload X8 hx (hb hby at_125) rfl ?_
    refine Go.callV X8 hx hZ (y0 := (⟨"com/example/gatefield/gatefield/model/RecordSet", "next", "(J)J"⟩ : MethodName)) (rm6 l Z a0 hw [] b1 rc P tp sz wd (fun y => if y = own_kx rb then (fun y => if y = own_kx ra then (fun _ => (0 : Int64)) (own_kx ra) ||| own_bit ra else (fun _ => (0 : Int64)) y) (own_kx rb) ||| own_bit rb else (fun y => if y = own_kx ra then (fun _ => (0 : Int64)) (own_kx ra) ||| own_bit ra else (fun _ => (0 : Int64)) y) y) T4.heap n0 zz4 R4 r_rc hwd hwd2) (by decide) hown (hw _ (List.mem_of_getElem? (i := 39) rfl)) (hw _ (List.mem_of_getElem? (i := 40) rfl)) (notFace_of_selects (args := #[]) (mvT hZ (hw _ (List.mem_of_getElem? (i := 42) rfl)))) (hw _ (List.mem_of_getElem? (i := 42) rfl)) (hw _ (List.mem_of_getElem? (i := 41) rfl)) (hw _ (List.mem_of_getElem? (i := 5) rfl)) (hw _ (List.mem_of_getElem? (i := 43) rfl)) e8 R4.1 (W := 0) (by rw [hml]; rfl) (argsL := [(.long rc)]) (S := []) (Nat.le_of_ble_eq_true rfl) (by decide) (by decide) (by decide) (by decide) pd_oJcJ rfl rfl (hb hby at_127) ?_
    rintro _ T9 L9 X9 ⟨rfl, N9q, e9⟩
    have N9 := Fr.app N8 N9q
    show Go p_ e_ below _ _ T9 (mkF m_ 130 #[.val (.long p0), .second, .val (.long p1), .second, .val (.long p2), .second, .val (.long p3), .second, .val (.long sz), .second, .val (.long ra), .second, .val (.long rb), .second, .val (.long rc), .second, .val (.ref b1), .val (.long (own_minL ra rb )), .second, .val (.long (own_maxL ra rb )), .second, .val (.long ex), .second] [(.long (own_next (fun y => if y = own_kx rb then (fun y => if y = own_kx ra then (fun _ => (0 : Int64)) (own_kx ra) ||| own_bit ra else (fun _ => (0 : Int64)) y) (own_kx rb) ||| own_bit rb else (fun y => if y = own_kx ra then (fun _ => (0 : Int64)) (own_kx ra) ||| own_bit ra else (fun _ => (0 : Int64)) y) y) sz wd rc))])
    refine Go.lload X9 hx (hb hby at_130) rfl ?_
    refine Go.lcmp X9 hx (hb hby at_132) ?_
    refine Go.ifNo X9 hx (hb hby at_133) (XT.ll_ne_f (own_fin _ _ _ _ _ _ r_sz hwd r_ra r_rb r_rc h_ex)) ?_
    show Go p_ e_ below _ _ T9 (mkF m_ 136 #[.val (.long p0), .second, .val (.long p1), .second, .val (.long p2), .second, .val (.long p3), .second, .val (.long sz), .second, .val (.long ra), .second, .val (.long rb), .second, .val (.long rc), .second, .val (.ref b1), .val (.long (own_minL ra rb )), .second, .val (.long (own_maxL ra rb )), .second, .val (.long ex), .second] [])
    refine Go.iconst X9 hx (1 : Int32) (hb hby at_136) rfl ?_
    refine Go.goto X9 hx (pc' := 141) (hb hby at_137) (by decide) (by decide) ?_
    refine Go.retN X9 hx hret hlk (by simp) (hb hby at_141) (by decide) (by decide) ?_
    exact ⟨rfl, N9⟩
  refine Go.lload X6 hx (hb hby at_88) rfl ?_
  refine Go.lload X6 hx (hb hby at_90) rfl ?_
  refine Go.lcmp X6 hx (hb hby at_92) ?_
  by_cases hc93_10 : (own_minL ra rb ) < rc
  · skip
    refine Go.ifYes X6 hx (pc' := 103) (hb hby at_93) (XT.ll_gt_t hc93_10) (by decide) (by decide) ?_
    show Go p_ e_ below _ _ T6 (mkF m_ 103 #[.val (.long p0), .second, .val (.long p1), .second, .val (.long p2), .second, .val (.long p3), .second, .val (.long sz), .second, .val (.long ra), .second, .val (.long rb), .second, .val (.long rc), .second, .val (.ref b1), .val (.long (own_minL ra rb )), .second, .val (.long (own_maxL ra rb )), .second, .unset, .unset] [])
    refine Go.lload X6 hx (hb hby at_103) rfl ?_
    refine Go.lload X6 hx (hb hby at_105) rfl ?_
    refine Go.lcmp X6 hx (hb hby at_107) ?_
    by_cases hc108_11 : (own_maxL ra rb ) < rc
    · skip
      refine Go.ifYes X6 hx (pc' := 118) (hb hby at_108) (XT.ll_gt_t hc108_11) (by decide) (by decide) ?_
      show Go p_ e_ below _ _ T6 (mkF m_ 118 #[.val (.long p0), .second, .val (.long p1), .second, .val (.long p2), .second, .val (.long p3), .second, .val (.long sz), .second, .val (.long ra), .second, .val (.long rb), .second, .val (.long rc), .second, .val (.ref b1), .val (.long (own_minL ra rb )), .second, .val (.long (own_maxL ra rb )), .second, .unset, .unset] [])
      refine Go.ldc2J X6 hx hZ hown (hw _ (List.mem_of_getElem? (i := 38) rfl)) (hb hby at_118) ?_
      refine Go.lstore X6 hx (l' := #[.val (.long p0), .second, .val (.long p1), .second, .val (.long p2), .second, .val (.long p3), .second, .val (.long sz), .second, .val (.long ra), .second, .val (.long rb), .second, .val (.long rc), .second, .val (.ref b1), .val (.long (own_minL ra rb )), .second, .val (.long (own_maxL ra rb )), .second, .val (.long (-1 : Int64)), .second]) (hb hby at_121) rfl ?_
      show Go p_ e_ below _ _ T6 (mkF m_ 123 #[.val (.long p0), .second, .val (.long p1), .second, .val (.long p2), .second, .val (.long p3), .second, .val (.long sz), .second, .val (.long ra), .second, .val (.long rb), .second, .val (.long rc), .second, .val (.ref b1), .val (.long (own_minL ra rb )), .second, .val (.long (own_maxL ra rb )), .second, .val (.long (-1 : Int64)), .second] [])
      exact j7 _ _ _ X6 N6 e6 (by rw [if_pos hc93_10, if_pos hc108_11])
    · skip
      refine Go.ifNo X6 hx (hb hby at_108) (XT.ll_gt_f hc108_11) ?_
      show Go p_ e_ below _ _ T6 (mkF m_ 111 #[.val (.long p0), .second, .val (.long p1), .second, .val (.long p2), .second, .val (.long p3), .second, .val (.long sz), .second, .val (.long ra), .second, .val (.long rb), .second, .val (.long rc), .second, .val (.ref b1), .val (.long (own_minL ra rb )), .second, .val (.long (own_maxL ra rb )), .second, .unset, .unset] [])
      refine Go.lload X6 hx (hb hby at_111) rfl ?_
      refine Go.lstore X6 hx (l' := #[.val (.long p0), .second, .val (.long p1), .second, .val (.long p2), .second, .val (.long p3), .second, .val (.long sz), .second, .val (.long ra), .second, .val (.long rb), .second, .val (.long rc), .second, .val (.ref b1), .val (.long (own_minL ra rb )), .second, .val (.long (own_maxL ra rb )), .second, .val (.long (own_maxL ra rb )), .second]) (hb hby at_113) rfl ?_
      refine Go.goto X6 hx (pc' := 123) (hb hby at_115) (by decide) (by decide) ?_
      show Go p_ e_ below _ _ T6 (mkF m_ 123 #[.val (.long p0), .second, .val (.long p1), .second, .val (.long p2), .second, .val (.long p3), .second, .val (.long sz), .second, .val (.long ra), .second, .val (.long rb), .second, .val (.long rc), .second, .val (.ref b1), .val (.long (own_minL ra rb )), .second, .val (.long (own_maxL ra rb )), .second, .val (.long (own_maxL ra rb )), .second] [])
      exact j7 _ _ _ X6 N6 e6 (by rw [if_pos hc93_10, if_neg hc108_11])
  · skip
    refine Go.ifNo X6 hx (hb hby at_93) (XT.ll_gt_f hc93_10) ?_
    show Go p_ e_ below _ _ T6 (mkF m_ 96 #[.val (.long p0), .second, .val (.long p1), .second, .val (.long p2), .second, .val (.long p3), .second, .val (.long sz), .second, .val (.long ra), .second, .val (.long rb), .second, .val (.long rc), .second, .val (.ref b1), .val (.long (own_minL ra rb )), .second, .val (.long (own_maxL ra rb )), .second, .unset, .unset] [])
    refine Go.lload X6 hx (hb hby at_96) rfl ?_
    refine Go.lstore X6 hx (l' := #[.val (.long p0), .second, .val (.long p1), .second, .val (.long p2), .second, .val (.long p3), .second, .val (.long sz), .second, .val (.long ra), .second, .val (.long rb), .second, .val (.long rc), .second, .val (.ref b1), .val (.long (own_minL ra rb )), .second, .val (.long (own_maxL ra rb )), .second, .val (.long (own_minL ra rb )), .second]) (hb hby at_98) rfl ?_
    refine Go.goto X6 hx (pc' := 123) (hb hby at_100) (by decide) (by decide) ?_
    show Go p_ e_ below _ _ T6 (mkF m_ 123 #[.val (.long p0), .second, .val (.long p1), .second, .val (.long p2), .second, .val (.long p3), .second, .val (.long sz), .second, .val (.long ra), .second, .val (.long rb), .second, .val (.long rc), .second, .val (.ref b1), .val (.long (own_minL ra rb )), .second, .val (.long (own_maxL ra rb )), .second, .val (.long (own_minL ra rb )), .second] [])
    exact j7 _ _ _ X6 N6 e6 (by rw [if_neg hc93_10])
set_option maxRecDepth 65536 in
set_option maxHeartbeats 40000000 in
theorem comes_1 {Post : Tables → Env → Array Value → State → Outcome → State → Prop} (hpost : ∀ tb e args s v u, (limb_1_1.after args s (.returned v) u = true ∧ limb_1_2.after args s (.returned v) u = true ∧ True) → FrameEnd s (.returned v) u (Jvm.fieldLocs frame_1_writes args s ++ Jvm.arrayLocs frame_1_arrays args s ++ Jvm.staticLocs frame_1_statics s) 16 157312 → Post tb e args s (.returned v) u) :
    ArmFor flags0 classFile x code maxLocals ret World_1 tables_1 room_1 Calls_1 rest_1 Pre_1 Post := by
  intro l hfl _ _ p e ha hc hk s m args below hf hA hF happ hP
  obtain ⟨hcalls, hrest, hpre⟩ := hP
  obtain ⟨-, -, -, hnamed, -, -, -, hat⟩ := (Spec.applies_iff hf).mp happ
  obtain ⟨hg, hn⟩ := and_e (Cond.before_iff.mp (show (Jvm.Cond.and given_1 narrow_1).before args s = true from hpre))
  obtain ⟨g1, g2⟩ := and_e hg
  obtain ⟨g3, g4⟩ := and_e g2
  obtain ⟨g5, g6⟩ := and_e g4
  obtain ⟨g7, g8⟩ := and_e g6
  obtain ⟨w0, w1, w2, w3, rfl⟩ : ∃ w0 w1 w2 w3 : Value, args = #[w0, w1, w2, w3] := by
    have hs : args.size = 4 := by simpa [Cond.value, given_1] using g1
    obtain ⟨L⟩ := args
    match L, hs with
    | [w0, w1, w2, w3], _ => exact ⟨w0, w1, w2, w3, rfl⟩
  have hw := fun d (hd : d ∈ tables_1) => atoms_spec (ws := Jvm.Cond.code x code maxLocals ret :: tables_1) hat d (List.mem_cons_of_mem _ hd)
  have hfit : Fit s := fun {y c} hc i hi => by
    obtain ⟨ha, rfl⟩ := Array.getElem?_eq_some_iff.mp hc
    have q := List.all_eq_true.mp ((Array.all_eq_true_iff_forall_mem.mp hF) _ (Array.getElem_mem ha)) i (List.mem_range.mpr hi)
    simpa [Array.getElem?_eq_getElem hi] using q
  obtain ⟨i0, ei0⟩ := isL_v g3
  obtain rfl : w0 = (.long i0) := Option.some.inj ei0
  obtain ⟨i1, ei1⟩ := isL_v g5
  obtain rfl : w1 = (.long i1) := Option.some.inj ei1
  obtain ⟨i2, ei2⟩ := isL_v g7
  obtain rfl : w2 = (.long i2) := Option.some.inj ei2
  obtain ⟨i3, ei3⟩ := isL_v g8
  obtain rfl : w3 = (.long i3) := Option.some.inj ei3
  obtain ⟨n, o, h1, h2, h3, _, L, rfl, ⟨rfl, N⟩, hq⟩ := rm0 l s _ hw tables_1 i0 i1 i2 i3  s.heap s.heap.size (Nat.le_refl _)  p e ha hc hk s m _ below hf ((Spec.applies_iff_loose hf).mp happ).1 ⟨rfl, State.Warmed39.refl s, rfl⟩ trivial
  refine ⟨n, _, h1, h2, h3, hpost _ _ _ _ _ _ ⟨Cond.after_iff.mpr rfl, Cond.after_iff.mpr (eq_i res_at (Term.int_eval (1)) rfl), trivial⟩ ⟨hq.1, hq.2.1, (hq.2.2.sift fun y hy => Or.inr (N y hy)).mono (by decide) (by decide)⟩⟩
theorem main_1_1 : Claimed_1_1 := comes_1 fun _ _ _ _ _ _ h hF => ⟨h.1, hF⟩
theorem main_1_2 : Claimed_1_2 := comes_1 fun _ _ _ _ _ _ h hF => ⟨h.2.1, hF⟩
end Jvm.Pilot.@@N@@
namespace Jvm.Pilot.@@N@@
open Jvm Jvm.ClassFile Sem Op Lib Jvm.Free Jvm.Stand Jvm.Pilot.@@N@@.Jvm.D
/-! MADE BY PROGRAM (witnessworld.py) out of the Statement's table words and the real class files: 18 classes; the members and pool entries that the words name. The judged class is class 1, her method 1. -/
namespace start1
open Jvm.ClassFile
def u (s : String) : CpInfo := .utf8 (stringToUtf16 s)
/-- a pool by its gaps: so many unusable entries, then the entry; so many at the end -/
def gap : Nat → List CpInfo → List CpInfo
  | 0, r => r
  | n + 1, r => .unusable :: gap n r
def poolList (es : List (Nat × CpInfo)) (last : Nat) : List CpInfo := es.foldr (fun e r => gap e.1 (e.2 :: r)) (gap last [])
def pool (es : List (Nat × CpInfo)) (last : Nat) : Array CpInfo := ⟨poolList es last⟩
def fileOf (pool : Array CpInfo) (this : Nat) (attrs : Array Attribute := #[]) (ms : Array MethodInfo := #[]) (fl : Nat := 33) (sup : Nat := 0) (ifs : Array Nat := #[]) (fds : Array FieldInfo := #[]) : ClassFile where
  minorVersion := 0
  majorVersion := 65
  constantPool := pool
  accessFlags := fl
  thisClass := this
  superClass := sup
  interfaces := ifs
  fields := fds
  methods := ms
  attributes := attrs
def plain (name : String) (sup : Option ClassId) : Class where
  name := name
  kind := .ordinary
  loader := none
  accessFlags := 33
  super := sup
  interfaces := #[]
  cf := none
  fields := #[]
  methods := #[]
  instanceTypes := #[]
  staticTypes := #[]
  resolved := #[]
  callSites := []
  init := .initialized
  statics := none
  mirror := none

def pool0 : Array CpInfo := pool [(5, u "<init>"), (0, u "()V"), (1, .class_ 10), (1, u "java/lang/Object")] 113

def k0c0 : Code := { maxStack := 0, maxLocals := 1, code := object_method_1_code, exceptionTable := #[], attributes := #[] }
def k0m0 : Method := { name := "<init>", desc := "()V", sig := { parameters := [], returnType := none }, accessFlags := 1, code := some k0c0 }
/-- java/lang/Object -/
def k0 : Class := { plain "java/lang/Object" none with
  accessFlags := 33
  interfaces := #[]
  cf := some (fileOf pool0 8 #[] #[{ accessFlags := 1, nameIndex := 5, descriptorIndex := 6, attributes := #[] }] 33 0 #[] #[])
  fields := #[]
  methods := #[k0m0]
  instanceTypes := #[]
  staticTypes := #[]
  resolved := Array.replicate 124 none
  statics := none }

def pool1 : Array CpInfo := pool [(2, .class_ 4), (1, u "java/lang/Object"), (0, u "<init>"), (0, u "()V"), (0, .long 8388607), (3, .long 9223372036854775807), (1, .long 2), (1, .class_ 16), (0, u "com/example/gatefield/gatefield/model/RecordSet"), (0, .methodref 15 18), (0, .nameAndType 5 19), (0, u "(J)V"), (0, .methodref 15 21), (0, .nameAndType 22 19), (0, u "add"), (0, .methodref 24 25), (0, .class_ 26), (0, .nameAndType 27 28), (0, u "java/lang/Math"), (0, u "min"), (0, u "(JJ)J"), (0, .methodref 24 30), (0, .nameAndType 31 28), (0, u "max"), (0, .long 18446744073709551615), (1, .methodref 15 35), (0, .nameAndType 36 37), (0, u "next"), (0, u "(J)J"), (0, .class_ 39), (0, u "com/example/gatefield/gatefield/model/RecordSetAddPinLaw"), (2, u "law"), (0, u "(JJJJ)Z")] 3

def k1m0 : Method := { name := "<init>", desc := "()V", sig := { parameters := [], returnType := none }, accessFlags := 1, code := none }
def k1c1 : Code := { maxStack := 6, maxLocals := 23, code := code, exceptionTable := #[], attributes := #[] }
def k1m1 : Method := { name := "law", desc := "(JJJJ)Z", sig := { parameters := [.long, .long, .long, .long], returnType := some .boolean }, accessFlags := 9, code := some k1c1 }
/-- com/example/gatefield/gatefield/model/RecordSetAddPinLaw -/
def k1 : Class := { plain "com/example/gatefield/gatefield/model/RecordSetAddPinLaw" (some 0) with
  accessFlags := 49
  interfaces := #[]
  cf := some (fileOf pool1 38 #[] #[{ accessFlags := 1, nameIndex := 5, descriptorIndex := 6, attributes := #[] }, { accessFlags := 9, nameIndex := 42, descriptorIndex := 43, attributes := #[] }] 49 2 #[] #[])
  fields := #[]
  methods := #[k1m0, k1m1]
  instanceTypes := #[]
  staticTypes := #[]
  resolved := Array.replicate 47 none
  statics := none }

def pool2 : Array CpInfo := pool [(1, .class_ 2), (0, u "com/example/gatefield/gatefield/model/RecordSet"), (0, .methodref 4 5), (0, .class_ 6), (0, .nameAndType 7 8), (0, u "java/lang/Object"), (0, u "<init>"), (0, u "()V"), (0, .fieldref 1 10), (0, .nameAndType 11 12), (0, u "size"), (0, u "J"), (0, .class_ 14), (0, u "java/lang/Long"), (0, .long 64), (1, .fieldref 1 18), (0, .nameAndType 19 12), (0, u "words"), (0, .long 65536), (1, .class_ 23), (0, u "[J"), (0, .fieldref 1 25), (0, .nameAndType 26 27), (0, u "pages"), (0, u "[[J"), (0, .methodref 29 30), (0, .class_ 31), (0, .nameAndType 32 33), (0, u "java/lang/Math"), (0, u "min"), (0, u "(JJ)J"), (0, .integer 65535), (2, .long 18446744073709551615), (1, .methodref 1 40), (0, .nameAndType 41 42), (0, u "word"), (0, u "(J)J"), (0, .methodref 13 44), (0, .nameAndType 45 46), (0, u "numberOfTrailingZeros"), (0, u "(J)I"), (3, u "PAGE_BITS"), (0, u "I"), (2, u "PAGE"), (1, u "(J)V"), (3, u "add"), (2, u "next")] 8

def k2c0 : Code := { maxStack := 9, maxLocals := 4, code := prog_54_method_1_code, exceptionTable := #[], attributes := #[] }
def k2m0 : Method := { name := "<init>", desc := "(J)V", sig := { parameters := [.long], returnType := none }, accessFlags := 0, code := some k2c0 }
def k2c1 : Code := { maxStack := 8, maxLocals := 5, code := prog_54_method_2_code, exceptionTable := #[], attributes := #[] }
def k2m1 : Method := { name := "add", desc := "(J)V", sig := { parameters := [.long], returnType := none }, accessFlags := 0, code := some k2c1 }
def k2c2 : Code := { maxStack := 6, maxLocals := 7, code := prog_54_method_4_code, exceptionTable := #[], attributes := #[] }
def k2m2 : Method := { name := "next", desc := "(J)J", sig := { parameters := [.long], returnType := some .long }, accessFlags := 0, code := some k2c2 }
def k2c3 : Code := { maxStack := 4, maxLocals := 3, code := prog_54_method_8_code, exceptionTable := #[], attributes := #[] }
def k2m3 : Method := { name := "word", desc := "(J)J", sig := { parameters := [.long], returnType := some .long }, accessFlags := 2, code := some k2c3 }
/-- com/example/gatefield/gatefield/model/RecordSet -/
def k2 : Class := { plain "com/example/gatefield/gatefield/model/RecordSet" (some 0) with
  accessFlags := 48
  interfaces := #[]
  cf := some (fileOf pool2 1 #[] #[{ accessFlags := 0, nameIndex := 7, descriptorIndex := 56, attributes := #[] }, { accessFlags := 0, nameIndex := 60, descriptorIndex := 56, attributes := #[] }, { accessFlags := 0, nameIndex := 63, descriptorIndex := 42, attributes := #[] }, { accessFlags := 2, nameIndex := 41, descriptorIndex := 42, attributes := #[] }] 48 4 #[] #[{ accessFlags := 26, nameIndex := 50, descriptorIndex := 51, attributes := #[] }, { accessFlags := 26, nameIndex := 54, descriptorIndex := 51, attributes := #[] }, { accessFlags := 18, nameIndex := 11, descriptorIndex := 12, attributes := #[] }, { accessFlags := 18, nameIndex := 19, descriptorIndex := 12, attributes := #[] }, { accessFlags := 18, nameIndex := 26, descriptorIndex := 27, attributes := #[] }])
  fields := #[{ name := "PAGE_BITS", type := .int, accessFlags := 26, slot := 0, constantValue := 0 }, { name := "PAGE", type := .int, accessFlags := 26, slot := 1, constantValue := 0 }, { name := "size", type := .long, accessFlags := 18, slot := 0, constantValue := 0 }, { name := "words", type := .long, accessFlags := 18, slot := 1, constantValue := 0 }, { name := "pages", type := (.array (.array .long)), accessFlags := 18, slot := 2, constantValue := 0 }]
  methods := #[k2m0, k2m1, k2m2, k2m3]
  instanceTypes := #[.long, .long, (.array (.array .long))]
  staticTypes := #[.int, .int]
  resolved := Array.replicate 72 none
  statics := none }

def pool3 : Array CpInfo := pool [(1, .class_ 2), (0, u "java/lang/Math"), (1, .class_ 6), (1, u "java/lang/Object"), (0, u "<init>"), (0, u "()V"), (89, .class_ 100), (1, u "java/lang/Math$RandomNumberGeneratorHolder"), (20, u "(JJ)J"), (50, u "negativeZeroFloatBits"), (0, u "J"), (2, u "negativeZeroDoubleBits"), (21, u "max"), (2, u "min"), (43, u "$assertionsDisabled"), (0, u "Z"), (91, u "twoToTheDoubleScaleDown"), (0, u "D"), (4, u "twoToTheDoubleScaleUp"), (9, u "E"), (3, u "PI"), (2, u "TAU"), (2, u "DEGREES_TO_RADIANS"), (0, u "RADIANS_TO_DEGREES")] 94

def k3m0 : Method := { name := "<init>", desc := "()V", sig := { parameters := [], returnType := none }, accessFlags := 2, code := none }
def k3c1 : Code := { maxStack := 4, maxLocals := 4, code := jdk_29_method_66_code, exceptionTable := #[], attributes := #[] }
def k3m1 : Method := { name := "max", desc := "(JJ)J", sig := { parameters := [.long, .long], returnType := some .long }, accessFlags := 9, code := some k3c1 }
def k3c2 : Code := { maxStack := 4, maxLocals := 4, code := jdk_29_method_70_code, exceptionTable := #[], attributes := #[] }
def k3m2 : Method := { name := "min", desc := "(JJ)J", sig := { parameters := [.long, .long], returnType := some .long }, accessFlags := 9, code := some k3c2 }
/-- java/lang/Math -/
def k3 : Class := { plain "java/lang/Math" (some 0) with
  accessFlags := 49
  interfaces := #[]
  cf := some (fileOf pool3 1 #[.nestMembers #[98]] #[{ accessFlags := 2, nameIndex := 7, descriptorIndex := 8, attributes := #[] }, { accessFlags := 9, nameIndex := 198, descriptorIndex := 121, attributes := #[] }, { accessFlags := 9, nameIndex := 201, descriptorIndex := 121, attributes := #[] }] 49 4 #[] #[{ accessFlags := 25, nameIndex := 354, descriptorIndex := 339, attributes := #[] }, { accessFlags := 25, nameIndex := 358, descriptorIndex := 339, attributes := #[] }, { accessFlags := 25, nameIndex := 361, descriptorIndex := 339, attributes := #[] }, { accessFlags := 26, nameIndex := 364, descriptorIndex := 339, attributes := #[] }, { accessFlags := 26, nameIndex := 365, descriptorIndex := 339, attributes := #[] }, { accessFlags := 26, nameIndex := 172, descriptorIndex := 173, attributes := #[] }, { accessFlags := 26, nameIndex := 176, descriptorIndex := 173, attributes := #[] }, { accessFlags := 8, nameIndex := 344, descriptorIndex := 339, attributes := #[] }, { accessFlags := 8, nameIndex := 338, descriptorIndex := 339, attributes := #[] }, { accessFlags := 4120, nameIndex := 245, descriptorIndex := 246, attributes := #[] }])
  fields := #[{ name := "E", type := .double, accessFlags := 25, slot := 0, constantValue := 0 }, { name := "PI", type := .double, accessFlags := 25, slot := 1, constantValue := 0 }, { name := "TAU", type := .double, accessFlags := 25, slot := 2, constantValue := 0 }, { name := "DEGREES_TO_RADIANS", type := .double, accessFlags := 26, slot := 3, constantValue := 0 }, { name := "RADIANS_TO_DEGREES", type := .double, accessFlags := 26, slot := 4, constantValue := 0 }, { name := "negativeZeroFloatBits", type := .long, accessFlags := 26, slot := 5, constantValue := 0 }, { name := "negativeZeroDoubleBits", type := .long, accessFlags := 26, slot := 6, constantValue := 0 }, { name := "twoToTheDoubleScaleUp", type := .double, accessFlags := 8, slot := 7, constantValue := 0 }, { name := "twoToTheDoubleScaleDown", type := .double, accessFlags := 8, slot := 8, constantValue := 0 }, { name := "$assertionsDisabled", type := .boolean, accessFlags := 4120, slot := 9, constantValue := 0 }]
  methods := #[k3m0, k3m1, k3m2]
  instanceTypes := #[]
  staticTypes := #[.double, .double, .double, .double, .double, .long, .long, .double, .double, .boolean]
  resolved := Array.replicate 460 none
  statics := none }

def pool4 : Array CpInfo := pool [(1, .class_ 2), (0, u "java/io/Serializable"), (0, .class_ 4), (0, u "java/lang/Object")] 2

/-- java/io/Serializable -/
def k4 : Class := { plain "java/io/Serializable" (some 0) with
  accessFlags := 1537
  interfaces := #[]
  cf := some (fileOf pool4 1 #[] #[] 1537 3 #[] #[])
  fields := #[]
  methods := #[]
  instanceTypes := #[]
  staticTypes := #[]
  resolved := Array.replicate 7 none
  statics := none }

def pool5 : Array CpInfo := pool [(2, .class_ 4), (1, u "java/lang/Object"), (0, u "<init>"), (0, u "()V"), (1, .class_ 10), (1, u "java/lang/Number"), (2, .class_ 14), (0, u "java/io/Serializable"), (0, u "serialVersionUID"), (0, u "J")] 20

def k5m0 : Method := { name := "<init>", desc := "()V", sig := { parameters := [], returnType := none }, accessFlags := 1, code := none }
/-- java/lang/Number -/
def k5 : Class := { plain "java/lang/Number" (some 0) with
  accessFlags := 1057
  interfaces := #[4]
  cf := some (fileOf pool5 8 #[] #[{ accessFlags := 1, nameIndex := 5, descriptorIndex := 6, attributes := #[] }] 1057 2 #[13] #[{ accessFlags := 26, nameIndex := 15, descriptorIndex := 16, attributes := #[] }])
  fields := #[{ name := "serialVersionUID", type := .long, accessFlags := 26, slot := 0, constantValue := 0 }]
  methods := #[k5m0]
  instanceTypes := #[]
  staticTypes := #[.long]
  resolved := Array.replicate 37 none
  statics := none }

def pool6 : Array CpInfo := pool [(1, .class_ 2), (0, u "java/lang/Comparable"), (0, .class_ 4), (0, u "java/lang/Object")] 7

/-- java/lang/Comparable -/
def k6 : Class := { plain "java/lang/Comparable" (some 0) with
  accessFlags := 1537
  interfaces := #[]
  cf := some (fileOf pool6 1 #[] #[] 1537 3 #[] #[])
  fields := #[]
  methods := #[]
  instanceTypes := #[]
  staticTypes := #[]
  resolved := Array.replicate 12 none
  statics := none }

def pool7 : Array CpInfo := pool [(1, .class_ 2), (0, u "java/lang/constant/Constable"), (0, .class_ 4), (0, u "java/lang/Object")] 6

/-- java/lang/constant/Constable -/
def k7 : Class := { plain "java/lang/constant/Constable" (some 0) with
  accessFlags := 1537
  interfaces := #[]
  cf := some (fileOf pool7 1 #[] #[] 1537 3 #[] #[])
  fields := #[]
  methods := #[]
  instanceTypes := #[]
  staticTypes := #[]
  resolved := Array.replicate 11 none
  statics := none }

def pool8 : Array CpInfo := pool [(1, .class_ 2), (0, u "java/lang/constant/ConstantDesc"), (0, .class_ 4), (0, u "java/lang/Object")] 32

/-- java/lang/constant/ConstantDesc -/
def k8 : Class := { plain "java/lang/constant/ConstantDesc" (some 0) with
  accessFlags := 1537
  interfaces := #[]
  cf := some (fileOf pool8 1 #[] #[] 1537 3 #[] #[])
  fields := #[]
  methods := #[]
  instanceTypes := #[]
  staticTypes := #[]
  resolved := Array.replicate 37 none
  statics := none }

def pool9 : Array CpInfo := pool [(1, .class_ 2), (0, u "java/lang/Long"), (15, .class_ 20), (1, u "java/lang/Integer"), (80, u "(J)I"), (133, .class_ 237), (1, u "java/lang/Long$LongCache"), (33, .class_ 272), (0, u "java/lang/Number"), (2, u "value"), (0, u "J"), (33, u "(I)I"), (0, .methodref 18 312), (0, .nameAndType 313 310), (0, u "numberOfTrailingZeros"), (47, u "TYPE"), (0, u "Ljava/lang/Class;"), (0, .class_ 364), (0, u "java/lang/Comparable"), (0, .class_ 366), (0, u "java/lang/constant/Constable"), (0, .class_ 368), (0, u "java/lang/constant/ConstantDesc"), (0, u "MIN_VALUE"), (1, u "MAX_VALUE"), (4, u "SIZE"), (0, u "I"), (1, u "BYTES"), (1, u "serialVersionUID")] 142

def k9c0 : Code := { maxStack := 4, maxLocals := 3, code := jdk_35_method_49_code, exceptionTable := #[], attributes := #[] }
def k9m0 : Method := { name := "numberOfTrailingZeros", desc := "(J)I", sig := { parameters := [.long], returnType := some .int }, accessFlags := 9, code := some k9c0 }
/-- java/lang/Long -/
def k9 : Class := { plain "java/lang/Long" (some 5) with
  accessFlags := 49
  interfaces := #[6, 7, 8]
  cf := some (fileOf pool9 1 #[.nestMembers #[235]] #[{ accessFlags := 9, nameIndex := 313, descriptorIndex := 101, attributes := #[] }] 49 271 #[363, 365, 367] #[{ accessFlags := 25, nameIndex := 369, descriptorIndex := 276, attributes := #[] }, { accessFlags := 25, nameIndex := 371, descriptorIndex := 276, attributes := #[] }, { accessFlags := 25, nameIndex := 361, descriptorIndex := 362, attributes := #[] }, { accessFlags := 18, nameIndex := 275, descriptorIndex := 276, attributes := #[] }, { accessFlags := 25, nameIndex := 376, descriptorIndex := 377, attributes := #[] }, { accessFlags := 25, nameIndex := 379, descriptorIndex := 377, attributes := #[] }, { accessFlags := 26, nameIndex := 381, descriptorIndex := 276, attributes := #[] }])
  fields := #[{ name := "MIN_VALUE", type := .long, accessFlags := 25, slot := 0, constantValue := 0 }, { name := "MAX_VALUE", type := .long, accessFlags := 25, slot := 1, constantValue := 0 }, { name := "TYPE", type := (.object "java/lang/Class"), accessFlags := 25, slot := 2, constantValue := 0 }, { name := "value", type := .long, accessFlags := 18, slot := 0, constantValue := 0 }, { name := "SIZE", type := .int, accessFlags := 25, slot := 3, constantValue := 0 }, { name := "BYTES", type := .int, accessFlags := 25, slot := 4, constantValue := 0 }, { name := "serialVersionUID", type := .long, accessFlags := 26, slot := 5, constantValue := 0 }]
  methods := #[k9m0]
  instanceTypes := #[.long]
  staticTypes := #[.long, .long, (.object "java/lang/Class"), .int, .int, .long]
  resolved := Array.replicate 524 none
  statics := none }

def pool10 : Array CpInfo := pool [(1, .class_ 2), (0, u "java/lang/Integer"), (16, u "digits"), (0, u "[C"), (33, u "(I)I"), (30, u "DigitOnes"), (0, u "[B"), (2, u "DigitTens"), (99, .class_ 190), (0, u "java/lang/Integer$IntegerCache"), (3, u "I"), (8, .class_ 204), (0, u "java/lang/Number"), (2, u "value"), (56, .integer 65536), (37, u "TYPE"), (0, u "Ljava/lang/Class;"), (0, .class_ 305), (0, u "java/lang/Comparable"), (0, .class_ 307), (0, u "java/lang/constant/Constable"), (0, .class_ 309), (0, u "java/lang/constant/ConstantDesc"), (0, u "MIN_VALUE"), (1, u "MAX_VALUE"), (3, u "SIZE"), (1, u "BYTES"), (1, u "serialVersionUID"), (0, u "J"), (84, u "numberOfTrailingZeros")] 46

def k10c0 : Code := { maxStack := 3, maxLocals := 2, code := jdk_33_method_48_code, exceptionTable := #[], attributes := #[] }
def k10m0 : Method := { name := "numberOfTrailingZeros", desc := "(I)I", sig := { parameters := [.int], returnType := some .int }, accessFlags := 9, code := some k10c0 }
/-- java/lang/Integer -/
def k10 : Class := { plain "java/lang/Integer" (some 5) with
  accessFlags := 49
  interfaces := #[6, 7, 8]
  cf := some (fileOf pool10 1 #[.nestMembers #[189]] #[{ accessFlags := 9, nameIndex := 406, descriptorIndex := 54, attributes := #[] }] 49 203 #[304, 306, 308] #[{ accessFlags := 25, nameIndex := 310, descriptorIndex := 194, attributes := #[] }, { accessFlags := 25, nameIndex := 312, descriptorIndex := 194, attributes := #[] }, { accessFlags := 25, nameIndex := 302, descriptorIndex := 303, attributes := #[] }, { accessFlags := 24, nameIndex := 19, descriptorIndex := 20, attributes := #[] }, { accessFlags := 24, nameIndex := 89, descriptorIndex := 86, attributes := #[] }, { accessFlags := 24, nameIndex := 85, descriptorIndex := 86, attributes := #[] }, { accessFlags := 18, nameIndex := 207, descriptorIndex := 194, attributes := #[] }, { accessFlags := 25, nameIndex := 316, descriptorIndex := 194, attributes := #[] }, { accessFlags := 25, nameIndex := 318, descriptorIndex := 194, attributes := #[] }, { accessFlags := 26, nameIndex := 320, descriptorIndex := 321, attributes := #[] }])
  fields := #[{ name := "MIN_VALUE", type := .int, accessFlags := 25, slot := 0, constantValue := 0 }, { name := "MAX_VALUE", type := .int, accessFlags := 25, slot := 1, constantValue := 0 }, { name := "TYPE", type := (.object "java/lang/Class"), accessFlags := 25, slot := 2, constantValue := 0 }, { name := "digits", type := (.array .char), accessFlags := 24, slot := 3, constantValue := 0 }, { name := "DigitTens", type := (.array .byte), accessFlags := 24, slot := 4, constantValue := 0 }, { name := "DigitOnes", type := (.array .byte), accessFlags := 24, slot := 5, constantValue := 0 }, { name := "value", type := .int, accessFlags := 18, slot := 0, constantValue := 0 }, { name := "SIZE", type := .int, accessFlags := 25, slot := 6, constantValue := 0 }, { name := "BYTES", type := .int, accessFlags := 25, slot := 7, constantValue := 0 }, { name := "serialVersionUID", type := .long, accessFlags := 26, slot := 8, constantValue := 0 }]
  methods := #[k10m0]
  instanceTypes := #[.int]
  staticTypes := #[.int, .int, (.object "java/lang/Class"), (.array .char), (.array .byte), (.array .byte), .int, .int, .long]
  resolved := Array.replicate 453 none
  statics := none }

def pool11 : Array CpInfo := pool [(1, u "java/lang/Cloneable"), (0, .class_ 1), (0, u "java/lang/Object"), (0, .class_ 3)] 3

/-- java/lang/Cloneable -/
def k11 : Class := { plain "java/lang/Cloneable" (some 0) with
  accessFlags := 1537
  interfaces := #[]
  cf := some (fileOf pool11 2 #[] #[] 1537 4 #[] #[])
  fields := #[]
  methods := #[]
  instanceTypes := #[]
  staticTypes := #[]
  resolved := Array.replicate 8 none
  statics := none }

/-- the primitive byte -/
def k12 : Class := { plain "byte" none with kind := .primitive 'B', accessFlags := 0x411 }
/-- [B -/
def k13 : Class := { plain "[B" (some 0) with kind := .array 12 .byte, interfaces := #[11, 4], accessFlags := 1041 }

/-- the primitive int -/
def k14 : Class := { plain "int" none with kind := .primitive 'I', accessFlags := 0x411 }
/-- [I -/
def k15 : Class := { plain "[I" (some 0) with kind := .array 14 .int, interfaces := #[11, 4], accessFlags := 1041 }

/-- the primitive long -/
def k16 : Class := { plain "long" none with kind := .primitive 'J', accessFlags := 0x411 }
/-- [J -/
def k17 : Class := { plain "[J" (some 0) with kind := .array 16 .long, interfaces := #[11, 4], accessFlags := 1041 }
/-- [[J -/
def k18 : Class := { plain "[[J" (some 0) with kind := .array 17 (.array .long), interfaces := #[11, 4], accessFlags := 1041 }

def heap : Heap := #[]
def classes : Array Class := #[k0, k1, k2, k3, k4, k5, k6, k7, k8, k9, k10, k11, k12, k13, k14, k15, k16, k17, k18]
def interned : List (Array UInt16 × Addr) := []
def slotsUsed : Nat := 0
def theMethod : MethodId := ⟨1, 1⟩
def args0 : Array Value := #[.long 5, .long 9, .long 7, .long 3]
def aboutOver (below : List Frame) : State where
  vm := { classes := classes, interned := interned.toArray }
  heap := heap
  slotsUsed := slotsUsed
  threads := #[{ frames := .invoking theMethod args0 :: below }]
def below0 : List Frame := [.native { method := ⟨0, 0⟩, args := #[] }]
def about1 : State := aboutOver below0
def p0 : Program := .bare "" "" ""
def e0 : Env := launch0.env 0 0 0
theorem w_frames : about1.frames = Frame.invoking theMethod args0 :: below0 := rfl
set_option maxRecDepth 65536 in
theorem w_args : argsFit about1.vm theMethod args0 = true := by decide +kernel
set_option maxRecDepth 65536 in
theorem w_heap : heapFits about1 = true := by decide +kernel
set_option maxRecDepth 65536 in
theorem w_runnable : about1.curStatus? = some .runnable := by decide +kernel
set_option maxRecDepth 65536 in
theorem w_alone : about1.alone = true := by decide +kernel
set_option maxRecDepth 65536 in
theorem w_named : about1.methodNamed? x = some theMethod := by decide +kernel
set_option maxRecDepth 65536 in
theorem w_hears : about1.hears theMethod below0 = true := by decide +kernel
set_option maxRecDepth 65536 in
theorem w_ripe : about1.ripe theMethod args0 below0 = true := by decide +kernel
theorem w_running : about1.status = .running := rfl
set_option maxRecDepth 65536 in
theorem w_room : about1.hasRoom e0.platform room_1 = true :=
  launch0.hasRoom_least _ room_1 (by decide +kernel) (by decide +kernel) (by decide +kernel) (by decide +kernel) (by decide +kernel) (by decide +kernel)
theorem allAtoms_all (ts : List Jvm.Cond) (a : Array Jvm.Value) (st : Jvm.State) : (allAtoms ts).before a st = ts.all (fun c => c.before a st) := by
  induction ts with
  | nil => rfl
  | cons c t ih =>
    show (Jvm.Cond.and c (allAtoms t)).before a st = _
    rw [Jvm.Cond.before_and, ih, List.all_cons]
def words1 : List Jvm.Cond := Jvm.Cond.code x code maxLocals ret :: tables_1
/-- a 'code' word, met by the world's own term for the bytes: nothing is compared byte by byte -/
theorem code_word {y : MethodName} {bytes : ByteArray} {mx : Nat} {rt : Option FieldType} {a : Array Value} {s : State} {m : MethodId} {meth : Method} {c : Code} (h1 : s.methodNamed? y = some m) (h2 : s.vm.method? m = some meth) (h3 : meth.code = some c) (h4 : c.code = bytes)
    (h5 : (c.maxLocals == mx && c.exceptionTable.isEmpty && decide (c.maxStack ≤ mostOperands) && decide (meth.sig.returnType = rt) && !meth.locks && decide (parseMethodDescriptor y.desc = some meth.sig)) = true) : (Jvm.Cond.code y bytes mx rt).before a s = true := by
  simp only [Bool.and_eq_true, beq_iff_eq, Bool.not_eq_true', decide_eq_true_eq] at h5
  obtain ⟨⟨⟨⟨⟨g1, g2⟩, g3⟩, g4⟩, g5⟩, g6⟩ := h5
  simp [Cond.before, Cond.holds, Cond.value, h1, h2, h3, h4, g1, g2, g3, g4, g5, g6]
def isCode : Jvm.Cond → Bool
  | .code _ _ _ _ => true
  | _ => false
theorem all_split {L : List Jvm.Cond} {P : Jvm.Cond → Bool} (h1 : L.all (fun c => isCode c || P c) = true) (h2 : ∀ c ∈ L.filter isCode, P c = true) : L.all P = true := by
  refine List.all_eq_true.mpr fun c hc => ?_
  have h := List.all_eq_true.mp h1 c hc
  rcases Bool.eq_false_or_eq_true (isCode c) with hi | hi
  · exact h2 c (List.mem_filter.mpr ⟨hc, hi⟩)
  · simpa [hi] using h
set_option maxRecDepth 65536 in
theorem w_c0 : (Jvm.Cond.code x code maxLocals ret).before args0 about1 = true := code_word (m := ⟨1, 1⟩) (meth := k1m1) (c := k1c1) (by decide +kernel) rfl rfl rfl (by decide +kernel)
set_option maxRecDepth 65536 in
theorem w_c1 : (Jvm.Cond.code ({ cls := "com/example/gatefield/gatefield/model/RecordSet", name := "<init>", desc := "(J)V" } : Jvm.MethodName) prog_54_method_1_code (4 : Nat) (Option.none : Option Jvm.ClassFile.FieldType)).before args0 about1 = true := code_word (m := ⟨2, 0⟩) (meth := k2m0) (c := k2c0) (by decide +kernel) rfl rfl rfl (by decide +kernel)
set_option maxRecDepth 65536 in
theorem w_c2 : (Jvm.Cond.code ({ cls := "java/lang/Object", name := "<init>", desc := "()V" } : Jvm.MethodName) object_method_1_code (1 : Nat) (Option.none : Option Jvm.ClassFile.FieldType)).before args0 about1 = true := code_word (m := ⟨0, 0⟩) (meth := k0m0) (c := k0c0) (by decide +kernel) rfl rfl rfl (by decide +kernel)
set_option maxRecDepth 65536 in
theorem w_c3 : (Jvm.Cond.code ({ cls := "java/lang/Math", name := "min", desc := "(JJ)J" } : Jvm.MethodName) jdk_29_method_70_code (4 : Nat) (Option.some Jvm.ClassFile.FieldType.long)).before args0 about1 = true := code_word (m := ⟨3, 2⟩) (meth := k3m2) (c := k3c2) (by decide +kernel) rfl rfl rfl (by decide +kernel)
set_option maxRecDepth 65536 in
theorem w_c4 : (Jvm.Cond.code ({ cls := "com/example/gatefield/gatefield/model/RecordSet", name := "add", desc := "(J)V" } : Jvm.MethodName) prog_54_method_2_code (5 : Nat) (Option.none : Option Jvm.ClassFile.FieldType)).before args0 about1 = true := code_word (m := ⟨2, 1⟩) (meth := k2m1) (c := k2c1) (by decide +kernel) rfl rfl rfl (by decide +kernel)
set_option maxRecDepth 65536 in
theorem w_c5 : (Jvm.Cond.code ({ cls := "java/lang/Math", name := "max", desc := "(JJ)J" } : Jvm.MethodName) jdk_29_method_66_code (4 : Nat) (Option.some Jvm.ClassFile.FieldType.long)).before args0 about1 = true := code_word (m := ⟨3, 1⟩) (meth := k3m1) (c := k3c1) (by decide +kernel) rfl rfl rfl (by decide +kernel)
set_option maxRecDepth 65536 in
theorem w_c6 : (Jvm.Cond.code ({ cls := "com/example/gatefield/gatefield/model/RecordSet", name := "next", desc := "(J)J" } : Jvm.MethodName) prog_54_method_4_code (7 : Nat) (Option.some Jvm.ClassFile.FieldType.long)).before args0 about1 = true := code_word (m := ⟨2, 2⟩) (meth := k2m2) (c := k2c2) (by decide +kernel) rfl rfl rfl (by decide +kernel)
set_option maxRecDepth 65536 in
theorem w_c7 : (Jvm.Cond.code ({ cls := "com/example/gatefield/gatefield/model/RecordSet", name := "word", desc := "(J)J" } : Jvm.MethodName) prog_54_method_8_code (3 : Nat) (Option.some Jvm.ClassFile.FieldType.long)).before args0 about1 = true := code_word (m := ⟨2, 3⟩) (meth := k2m3) (c := k2c3) (by decide +kernel) rfl rfl rfl (by decide +kernel)
set_option maxRecDepth 65536 in
theorem w_c8 : (Jvm.Cond.code ({ cls := "java/lang/Long", name := "numberOfTrailingZeros", desc := "(J)I" } : Jvm.MethodName) jdk_35_method_49_code (3 : Nat) (Option.some Jvm.ClassFile.FieldType.int)).before args0 about1 = true := code_word (m := ⟨9, 0⟩) (meth := k9m0) (c := k9c0) (by decide +kernel) rfl rfl rfl (by decide +kernel)
set_option maxRecDepth 65536 in
theorem w_c9 : (Jvm.Cond.code ({ cls := "java/lang/Integer", name := "numberOfTrailingZeros", desc := "(I)I" } : Jvm.MethodName) jdk_33_method_48_code (2 : Nat) (Option.some Jvm.ClassFile.FieldType.int)).before args0 about1 = true := code_word (m := ⟨10, 0⟩) (meth := k10m0) (c := k10c0) (by decide +kernel) rfl rfl rfl (by decide +kernel)
def codes1 : List Jvm.Cond := [Jvm.Cond.code x code maxLocals ret, Jvm.Cond.code ({ cls := "com/example/gatefield/gatefield/model/RecordSet", name := "<init>", desc := "(J)V" } : Jvm.MethodName) prog_54_method_1_code (4 : Nat) (Option.none : Option Jvm.ClassFile.FieldType), Jvm.Cond.code ({ cls := "java/lang/Object", name := "<init>", desc := "()V" } : Jvm.MethodName) object_method_1_code (1 : Nat) (Option.none : Option Jvm.ClassFile.FieldType), Jvm.Cond.code ({ cls := "java/lang/Math", name := "min", desc := "(JJ)J" } : Jvm.MethodName) jdk_29_method_70_code (4 : Nat) (Option.some Jvm.ClassFile.FieldType.long), Jvm.Cond.code ({ cls := "com/example/gatefield/gatefield/model/RecordSet", name := "add", desc := "(J)V" } : Jvm.MethodName) prog_54_method_2_code (5 : Nat) (Option.none : Option Jvm.ClassFile.FieldType), Jvm.Cond.code ({ cls := "java/lang/Math", name := "max", desc := "(JJ)J" } : Jvm.MethodName) jdk_29_method_66_code (4 : Nat) (Option.some Jvm.ClassFile.FieldType.long), Jvm.Cond.code ({ cls := "com/example/gatefield/gatefield/model/RecordSet", name := "next", desc := "(J)J" } : Jvm.MethodName) prog_54_method_4_code (7 : Nat) (Option.some Jvm.ClassFile.FieldType.long), Jvm.Cond.code ({ cls := "com/example/gatefield/gatefield/model/RecordSet", name := "word", desc := "(J)J" } : Jvm.MethodName) prog_54_method_8_code (3 : Nat) (Option.some Jvm.ClassFile.FieldType.long), Jvm.Cond.code ({ cls := "java/lang/Long", name := "numberOfTrailingZeros", desc := "(J)I" } : Jvm.MethodName) jdk_35_method_49_code (3 : Nat) (Option.some Jvm.ClassFile.FieldType.int), Jvm.Cond.code ({ cls := "java/lang/Integer", name := "numberOfTrailingZeros", desc := "(I)I" } : Jvm.MethodName) jdk_33_method_48_code (2 : Nat) (Option.some Jvm.ClassFile.FieldType.int)]
set_option maxRecDepth 65536 in
theorem codes_eq : words1.filter isCode = codes1 := rfl
theorem w_codes : ∀ c ∈ words1.filter isCode, c.before args0 about1 = true := by
  rw [codes_eq]
  intro c hc
  simp only [codes1, List.mem_cons, List.not_mem_nil, or_false] at hc
  rcases hc with rfl | rfl | rfl | rfl | rfl | rfl | rfl | rfl | rfl | rfl
  · exact w_c0
  · exact w_c1
  · exact w_c2
  · exact w_c3
  · exact w_c4
  · exact w_c5
  · exact w_c6
  · exact w_c7
  · exact w_c8
  · exact w_c9
set_option maxRecDepth 65536 in
theorem w_t1 : (words1.take 24).all (fun c => isCode c || c.before args0 about1) = true := by decide +kernel
set_option maxRecDepth 65536 in
theorem w_t2 : ((words1.drop 24).take 24).all (fun c => isCode c || c.before args0 about1) = true := by decide +kernel
set_option maxRecDepth 65536 in
theorem w_t3 : ((words1.drop 24).drop 24).all (fun c => isCode c || c.before args0 about1) = true := by decide +kernel
theorem w_tables : (allAtoms (Jvm.Cond.code x code maxLocals ret :: tables_1)).before args0 about1 = true := by
  rw [allAtoms_all]
  show words1.all (fun c => c.before args0 about1) = true
  refine all_split ?_ w_codes
  rw [← List.take_append_drop 24 words1, List.all_append, w_t1, ← List.take_append_drop 24 (words1.drop 24), List.all_append, w_t2, w_t3]
  rfl
set_option maxRecDepth 65536 in
theorem w_case : (Jvm.Cond.and given_1 narrow_1).before args0 about1 = true := by decide +kernel
theorem w_applies : (headSpec (Jvm.Cond.code x code maxLocals ret :: tables_1) room_1).applies x e0.platform about1 = true :=
  (Spec.applies_iff w_frames).mpr ⟨w_running, w_runnable, w_alone, w_named, w_hears, w_ripe, w_room, w_tables⟩
theorem atStart : AtStart classFile x code maxLocals ret World_1 tables_1 room_1 Calls_1 rest_1 Pre_1 launch0 p0 e0 about1 theMethod args0 below0 :=
  ⟨lists_1, trivial, launch0.admits_env _ _ _, launch0.least_env, fairChoices_fair.cas, fairChoices_fair.clock, w_frames, w_args, w_heap, w_applies, trivial, trivial, w_case⟩
end start1
theorem witness_1 : WitnessClaimed_1 := ⟨start1.p0, start1.e0, start1.about1, start1.theMethod, start1.args0, start1.below0, start1.atStart⟩
end Jvm.Pilot.@@N@@
