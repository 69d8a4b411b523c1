import JvmDerived
import JvmDerived.Pilot.@@N@@Statement
import JvmDerived.Pilot.@@N@@Code
set_option linter.unusedVariables false
set_option linter.unusedSimpArgs false
namespace Jvm.Pilot.@@N@@
open Jvm Jvm.ClassFile Sem Op Lib Jvm.Free Jvm.Stand Jvm.LawKit Jvm.RoadKit Bundle Jvm.Pilot.@@N@@.Jvm.D
section OwnKit
variable {p : Program} {l : Launch} {e : Env} {R : Room} {s : State} {m : MethodId} {args : Array Value} {below : List Frame} {meth : Method} {c : Code} {T : State} {locs : List Loc} {cells slots : Nat} {C N : Nat} {F : Outcome → State → List Loc → Prop} {Q : Option Value → Heap → List Loc → Prop} {pc : Nat} {Ls : Array Slot} {S : List Value} {Z : State} {a0 : Array Value} {h : Heap} {own : String}
def Go (p : Program) (e : Env) (below : List Frame) (F : Outcome → State → List Loc → Prop) (Q : Option Value → Heap → List Loc → Prop) (T : State) (g : JFrame) : Prop :=
  ∃ s₂ o, Steps p.tables e below (T.setTop g) s₂ ∧ s₂.status = .running ∧ Ended s₂ below o ∧ ∃ v L, o = .returned v ∧ Q v s₂.heap L ∧ F o s₂ L
def FE (s : State) (C N : Nat) (o : Outcome) (t : State) (L : List Loc) : Prop := FrameEnd s o t L C N
theorem Go.st {T' : State} {g g' : JFrame} (h : Go p e below F Q T' g') (st : ∀ t, Steps p.tables e below (T'.setTop g') t → Steps p.tables e below (T.setTop g) t) : Go p e below F Q T g := by
  obtain ⟨s₂, o, h1, h2⟩ := h
  exact ⟨s₂, o, st _ h1, h2⟩
theorem Go.tr {T' : State} {g g' : JFrame} (h : Go p e below F Q T' g') (st : Steps p.tables e below (T.setTop g) (T'.setTop g')) : Go p e below F Q T g := by
  obtain ⟨s₂, o, h1, h2⟩ := h
  exact ⟨s₂, o, st.trans h1, h2⟩
/-- a body's contract out of its walk -/
theorem metOf {y : MethodName} {bytes : ByteArray} {maxL : Nat} {ret : Option FieldType} {rm : Room} {ws : List Jvm.Cond} {as' : Array Value} {h0 : Heap} (hpl : plainFor y = true)
    (body : ∀ p e s m below meth c s₁, Stand p l e rm s m as' below meth c s₁ [] 0 0 → p.tables.exec = Jvm.exec → c.code = bytes → c.maxLocals = maxL → meth.sig.returnType = ret → meth.locks = false → Z.Warmed39 s.vm → s.vm.findClass y.cls = some m.cls → meth.name = y.name → s₁.heap = h0 → Go p e below (FE s rm.cells rm.slots) Q s₁ (entryFrame m as' maxL)) :
    MetFree l y (head1 (Jvm.Cond.code y bytes maxL ret :: ws) rm) (fun a U => a = as' ∧ Z.Warmed39 U.vm ∧ U.heap = h0) (fun _ _ _ _ _ => True) (fun _ U o U' => ∃ v L, o = .returned v ∧ Q v U'.heap L ∧ FrameEnd U o U' L rm.cells rm.slots) := by
  refine MetFree.of_bodySF hpl hisR ?_
  intro p e s m args below meth c s₁ Bd hml0 hP hK
  obtain ⟨rfl, hZ, hh⟩ := hP
  exact body p e s m below meth c s₁ (Stand.of_body Bd) Bd.exec Bd.bytes hml0 Bd.returns Bd.notSynchronized hZ (findClass_of_methodNamed Bd.named) (name_of_methodNamed Bd.named Bd.method).1 (by rw [← hh, Bd.state]; rfl)
theorem Go.iloadN (X : Stand p l e R s m args below meth c T locs cells slots) (hx : p.tables.exec = Jvm.exec) {k : Fin 4} {v : Int32} (hd : decode c.code pc = .ok (.iload_n k, 1)) (hl : Ls[k.val]? = some (.val (.int v))) (h : Go p e below F Q T (mkF m (pc + 1) Ls (.int v :: S))) : Go p e below F Q T (mkF m pc Ls S) := h.st fun _ k => XS.iloadN X.here hx rfl hd hl k
theorem Go.iload (X : Stand p l e R s m args below meth c T locs cells slots) (hx : p.tables.exec = Jvm.exec) {k : Nat} {v : Int32} (hd : decode c.code pc = .ok (.iload k, 2)) (hl : Ls[k]? = some (.val (.int v))) (h : Go p e below F Q T (mkF m (pc + 2) Ls (.int v :: S))) : Go p e below F Q T (mkF m pc Ls S) := h.st fun _ k => XS.iload X.here hx rfl hd hl k
theorem Go.istoreN (X : Stand p l e R s m args below meth c T locs cells slots) (hx : p.tables.exec = Jvm.exec) {k : Fin 4} {x : Int32} {l' : Array Slot} (hd : decode c.code pc = .ok (.istore_n k, 1)) (hl : storeLocals Ls k.val (.int x) = some l') (h : Go p e below F Q T (mkF m (pc + 1) l' S)) : Go p e below F Q T (mkF m pc Ls (.int x :: S)) := h.st fun _ k => XS.istoreN X.here hx rfl hd rfl hl k
theorem Go.istore (X : Stand p l e R s m args below meth c T locs cells slots) (hx : p.tables.exec = Jvm.exec) {k : Nat} {x : Int32} {l' : Array Slot} (hd : decode c.code pc = .ok (.istore k, 2)) (hl : storeLocals Ls k (.int x) = some l') (h : Go p e below F Q T (mkF m (pc + 2) l' S)) : Go p e below F Q T (mkF m pc Ls (.int x :: S)) := h.st fun _ k => XS.istore X.here hx rfl hd rfl hl k
theorem Go.lloadN (X : Stand p l e R s m args below meth c T locs cells slots) (hx : p.tables.exec = Jvm.exec) {k : Fin 4} {v : Int64} (hd : decode c.code pc = .ok (.lload_n k, 1)) (hl : Ls[k.val]? = some (.val (.long v))) (h : Go p e below F Q T (mkF m (pc + 1) Ls (.long v :: S))) : Go p e below F Q T (mkF m pc Ls S) := h.st fun _ k => XS.lloadN X.here hx rfl hd hl k
theorem Go.lload (X : Stand p l e R s m args below meth c T locs cells slots) (hx : p.tables.exec = Jvm.exec) {k : Nat} {v : Int64} (hd : decode c.code pc = .ok (.lload k, 2)) (hl : Ls[k]? = some (.val (.long v))) (h : Go p e below F Q T (mkF m (pc + 2) Ls (.long v :: S))) : Go p e below F Q T (mkF m pc Ls S) := h.st fun _ k => XS.lload X.here hx rfl hd hl k
theorem Go.lstoreN (X : Stand p l e R s m args below meth c T locs cells slots) (hx : p.tables.exec = Jvm.exec) {k : Fin 4} {x : Int64} {l' : Array Slot} (hd : decode c.code pc = .ok (.lstore_n k, 1)) (hl : storeLocals Ls k.val (.long x) = some l') (h : Go p e below F Q T (mkF m (pc + 1) l' S)) : Go p e below F Q T (mkF m pc Ls (.long x :: S)) := h.st fun _ k => XS.lstoreN X.here hx rfl hd rfl hl k
theorem Go.lstore (X : Stand p l e R s m args below meth c T locs cells slots) (hx : p.tables.exec = Jvm.exec) {k : Nat} {x : Int64} {l' : Array Slot} (hd : decode c.code pc = .ok (.lstore k, 2)) (hl : storeLocals Ls k (.long x) = some l') (h : Go p e below F Q T (mkF m (pc + 2) l' S)) : Go p e below F Q T (mkF m pc Ls (.long x :: S)) := h.st fun _ k => XS.lstore X.here hx rfl hd rfl hl k
theorem Go.aloadN (X : Stand p l e R s m args below meth c T locs cells slots) (hx : p.tables.exec = Jvm.exec) {k : Fin 4} {v : Value} (hd : decode c.code pc = .ok (.aload_n k, 1)) (hl : Ls[k.val]? = some (.val v)) (hv : v.isRef = true) (h : Go p e below F Q T (mkF m (pc + 1) Ls (v :: S))) : Go p e below F Q T (mkF m pc Ls S) := h.st fun _ k => XS.aloadN X.here hx rfl hd hl hv k
theorem Go.aload (X : Stand p l e R s m args below meth c T locs cells slots) (hx : p.tables.exec = Jvm.exec) {k : Nat} {v : Value} (hd : decode c.code pc = .ok (.aload k, 2)) (hl : Ls[k]? = some (.val v)) (hv : v.isRef = true) (h : Go p e below F Q T (mkF m (pc + 2) Ls (v :: S))) : Go p e below F Q T (mkF m pc Ls S) := h.st fun _ k => XS.aload X.here hx rfl hd hl hv k
theorem Go.astoreN (X : Stand p l e R s m args below meth c T locs cells slots) (hx : p.tables.exec = Jvm.exec) {k : Fin 4} {x : Value} {l' : Array Slot} (hd : decode c.code pc = .ok (.astore_n k, 1)) (hv : x.isRef = true) (hl : storeLocals Ls k.val x = some l') (h : Go p e below F Q T (mkF m (pc + 1) l' S)) : Go p e below F Q T (mkF m pc Ls (x :: S)) := h.st fun _ k => XS.astoreN X.here hx rfl hd rfl hv hl k
theorem Go.astore (X : Stand p l e R s m args below meth c T locs cells slots) (hx : p.tables.exec = Jvm.exec) {k : Nat} {x : Value} {l' : Array Slot} (hd : decode c.code pc = .ok (.astore k, 2)) (hv : x.isRef = true) (hl : storeLocals Ls k x = some l') (h : Go p e below F Q T (mkF m (pc + 2) l' S)) : Go p e below F Q T (mkF m pc Ls (x :: S)) := h.st fun _ k => XS.astore X.here hx rfl hd rfl hv hl k
theorem Go.iconst (X : Stand p l e R s m args below meth c T locs cells slots) (hx : p.tables.exec = Jvm.exec) {i : Int} (v : Int32) (hd : decode c.code pc = .ok (.iconst i, 1)) (hv : Int32.ofInt i = v) (h : Go p e below F Q T (mkF m (pc + 1) Ls (.int v :: S))) : Go p e below F Q T (mkF m pc Ls S) := h.st fun _ k => XT.iconstV X.here hx rfl v hd hv k
theorem Go.bipush (X : Stand p l e R s m args below meth c T locs cells slots) (hx : p.tables.exec = Jvm.exec) {i : Int} (v : Int32) (hd : decode c.code pc = .ok (.bipush i, 2)) (hv : (Int8.ofInt i).toInt32 = v) (h : Go p e below F Q T (mkF m (pc + 2) Ls (.int v :: S))) : Go p e below F Q T (mkF m pc Ls S) := h.st fun _ k => XT.bipushV X.here hx rfl v hd hv k
theorem Go.sipush (X : Stand p l e R s m args below meth c T locs cells slots) (hx : p.tables.exec = Jvm.exec) {i : Int} (v : Int32) (hd : decode c.code pc = .ok (.sipush i, 3)) (hv : (Int16.ofInt i).toInt32 = v) (h : Go p e below F Q T (mkF m (pc + 3) Ls (.int v :: S))) : Go p e below F Q T (mkF m pc Ls S) := h.st fun _ k => XT.sipushV X.here hx rfl v hd hv k
theorem Go.lconst (X : Stand p l e R s m args below meth c T locs cells slots) (hx : p.tables.exec = Jvm.exec) {i : Fin 2} (v : Int64) (hd : decode c.code pc = .ok (.lconst i, 1)) (hv : Int64.ofNat i = v) (h : Go p e below F Q T (mkF m (pc + 1) Ls (.long v :: S))) : Go p e below F Q T (mkF m pc Ls S) := h.st fun _ k => XT.lconstV X.here hx rfl v hd hv k
theorem Go.aconstNull (X : Stand p l e R s m args below meth c T locs cells slots) (hx : p.tables.exec = Jvm.exec)  (hd : decode c.code pc = .ok (.aconst_null, 1))  (h : Go p e below F Q T (mkF m (pc + 1) Ls (.null :: S))) : Go p e below F Q T (mkF m pc Ls S) := h.st fun _ k => XS.aconstNull X.here hx rfl hd  k
theorem Go.iadd (X : Stand p l e R s m args below meth c T locs cells slots) (hx : p.tables.exec = Jvm.exec) {x y : Int32} (hd : decode c.code pc = .ok (.iadd, 1))  (h : Go p e below F Q T (mkF m (pc + 1) Ls (.int (x + y) :: S))) : Go p e below F Q T (mkF m pc Ls (.int y :: .int x :: S)) := h.st fun _ k => XS.iadd X.here hx rfl hd rfl k
theorem Go.isub (X : Stand p l e R s m args below meth c T locs cells slots) (hx : p.tables.exec = Jvm.exec) {x y : Int32} (hd : decode c.code pc = .ok (.isub, 1))  (h : Go p e below F Q T (mkF m (pc + 1) Ls (.int (x - y) :: S))) : Go p e below F Q T (mkF m pc Ls (.int y :: .int x :: S)) := h.st fun _ k => XS.isub X.here hx rfl hd rfl k
theorem Go.imul (X : Stand p l e R s m args below meth c T locs cells slots) (hx : p.tables.exec = Jvm.exec) {x y : Int32} (hd : decode c.code pc = .ok (.imul, 1))  (h : Go p e below F Q T (mkF m (pc + 1) Ls (.int (x * y) :: S))) : Go p e below F Q T (mkF m pc Ls (.int y :: .int x :: S)) := h.st fun _ k => XS.imul X.here hx rfl hd rfl k
theorem Go.iand (X : Stand p l e R s m args below meth c T locs cells slots) (hx : p.tables.exec = Jvm.exec) {x y : Int32} (hd : decode c.code pc = .ok (.iand, 1))  (h : Go p e below F Q T (mkF m (pc + 1) Ls (.int (x &&& y) :: S))) : Go p e below F Q T (mkF m pc Ls (.int y :: .int x :: S)) := h.st fun _ k => XS.iand X.here hx rfl hd rfl k
theorem Go.ior (X : Stand p l e R s m args below meth c T locs cells slots) (hx : p.tables.exec = Jvm.exec) {x y : Int32} (hd : decode c.code pc = .ok (.ior, 1))  (h : Go p e below F Q T (mkF m (pc + 1) Ls (.int (x ||| y) :: S))) : Go p e below F Q T (mkF m pc Ls (.int y :: .int x :: S)) := h.st fun _ k => XS.ior X.here hx rfl hd rfl k
theorem Go.ixor (X : Stand p l e R s m args below meth c T locs cells slots) (hx : p.tables.exec = Jvm.exec) {x y : Int32} (hd : decode c.code pc = .ok (.ixor, 1))  (h : Go p e below F Q T (mkF m (pc + 1) Ls (.int (x ^^^ y) :: S))) : Go p e below F Q T (mkF m pc Ls (.int y :: .int x :: S)) := h.st fun _ k => XS.ixor X.here hx rfl hd rfl k
theorem Go.idiv (X : Stand p l e R s m args below meth c T locs cells slots) (hx : p.tables.exec = Jvm.exec) {x y : Int32} (hd : decode c.code pc = .ok (.idiv, 1)) (hy : y ≠ 0) (h : Go p e below F Q T (mkF m (pc + 1) Ls (.int (x / y) :: S))) : Go p e below F Q T (mkF m pc Ls (.int y :: .int x :: S)) := h.st fun _ k => XS.idiv X.here hx rfl hd rfl hy k
theorem Go.ineg (X : Stand p l e R s m args below meth c T locs cells slots) (hx : p.tables.exec = Jvm.exec) {x : Int32} (hd : decode c.code pc = .ok (.ineg, 1))  (h : Go p e below F Q T (mkF m (pc + 1) Ls (.int (-x) :: S))) : Go p e below F Q T (mkF m pc Ls (.int x :: S)) := h.st fun _ k => XS.ineg X.here hx rfl hd rfl k
theorem Go.ladd (X : Stand p l e R s m args below meth c T locs cells slots) (hx : p.tables.exec = Jvm.exec) {x y : Int64} (hd : decode c.code pc = .ok (.ladd, 1))  (h : Go p e below F Q T (mkF m (pc + 1) Ls (.long (x + y) :: S))) : Go p e below F Q T (mkF m pc Ls (.long y :: .long x :: S)) := h.st fun _ k => XS.ladd X.here hx rfl hd rfl k
theorem Go.lsub (X : Stand p l e R s m args below meth c T locs cells slots) (hx : p.tables.exec = Jvm.exec) {x y : Int64} (hd : decode c.code pc = .ok (.lsub, 1))  (h : Go p e below F Q T (mkF m (pc + 1) Ls (.long (x - y) :: S))) : Go p e below F Q T (mkF m pc Ls (.long y :: .long x :: S)) := h.st fun _ k => XS.lsub X.here hx rfl hd rfl k
theorem Go.lmul (X : Stand p l e R s m args below meth c T locs cells slots) (hx : p.tables.exec = Jvm.exec) {x y : Int64} (hd : decode c.code pc = .ok (.lmul, 1))  (h : Go p e below F Q T (mkF m (pc + 1) Ls (.long (x * y) :: S))) : Go p e below F Q T (mkF m pc Ls (.long y :: .long x :: S)) := h.st fun _ k => XS.lmul X.here hx rfl hd rfl k
theorem Go.land (X : Stand p l e R s m args below meth c T locs cells slots) (hx : p.tables.exec = Jvm.exec) {x y : Int64} (hd : decode c.code pc = .ok (.land, 1))  (h : Go p e below F Q T (mkF m (pc + 1) Ls (.long (x &&& y) :: S))) : Go p e below F Q T (mkF m pc Ls (.long y :: .long x :: S)) := h.st fun _ k => XS.land X.here hx rfl hd rfl k
theorem Go.lor (X : Stand p l e R s m args below meth c T locs cells slots) (hx : p.tables.exec = Jvm.exec) {x y : Int64} (hd : decode c.code pc = .ok (.lor, 1))  (h : Go p e below F Q T (mkF m (pc + 1) Ls (.long (x ||| y) :: S))) : Go p e below F Q T (mkF m pc Ls (.long y :: .long x :: S)) := h.st fun _ k => XS.lor X.here hx rfl hd rfl k
theorem Go.lxor (X : Stand p l e R s m args below meth c T locs cells slots) (hx : p.tables.exec = Jvm.exec) {x y : Int64} (hd : decode c.code pc = .ok (.lxor, 1))  (h : Go p e below F Q T (mkF m (pc + 1) Ls (.long (x ^^^ y) :: S))) : Go p e below F Q T (mkF m pc Ls (.long y :: .long x :: S)) := h.st fun _ k => XS.lxor X.here hx rfl hd rfl k
theorem Go.ldiv (X : Stand p l e R s m args below meth c T locs cells slots) (hx : p.tables.exec = Jvm.exec) {x y : Int64} (hd : decode c.code pc = .ok (.ldiv, 1)) (hy : y ≠ 0) (h : Go p e below F Q T (mkF m (pc + 1) Ls (.long (x / y) :: S))) : Go p e below F Q T (mkF m pc Ls (.long y :: .long x :: S)) := h.st fun _ k => XS.ldiv X.here hx rfl hd rfl hy k
theorem Go.lneg (X : Stand p l e R s m args below meth c T locs cells slots) (hx : p.tables.exec = Jvm.exec) {x : Int64} (hd : decode c.code pc = .ok (.lneg, 1))  (h : Go p e below F Q T (mkF m (pc + 1) Ls (.long (-x) :: S))) : Go p e below F Q T (mkF m pc Ls (.long x :: S)) := h.st fun _ k => XS.lneg X.here hx rfl hd rfl k
theorem Go.irem (X : Stand p l e R s m args below meth c T locs cells slots) (hx : p.tables.exec = Jvm.exec) {x y : Int32} (hd : decode c.code pc = .ok (.irem, 1)) (hy : y ≠ 0) (h : Go p e below F Q T (mkF m (pc + 1) Ls (.int (x % y) :: S))) : Go p e below F Q T (mkF m pc Ls (.int y :: .int x :: S)) := h.st fun _ k => Jvm.RoadKit.iremM X hx rfl hd rfl hy k
theorem Go.lrem (X : Stand p l e R s m args below meth c T locs cells slots) (hx : p.tables.exec = Jvm.exec) {x y : Int64} (hd : decode c.code pc = .ok (.lrem, 1)) (hy : y ≠ 0) (h : Go p e below F Q T (mkF m (pc + 1) Ls (.long (x % y) :: S))) : Go p e below F Q T (mkF m pc Ls (.long y :: .long x :: S)) := h.st fun _ k => XS.lrem X.here hx rfl hd rfl hy (by rw [lrem_mod]; exact k)
theorem Go.ishl (X : Stand p l e R s m args below meth c T locs cells slots) (hx : p.tables.exec = Jvm.exec) {x : Int32} {y : Int32} (hd : decode c.code pc = .ok (.ishl, 1))  (h : Go p e below F Q T (mkF m (pc + 1) Ls (.int (x <<< (y &&& 31)) :: S))) : Go p e below F Q T (mkF m pc Ls (.int y :: .int x :: S)) := h.st fun _ k => XS.ishl X.here hx rfl hd rfl k
theorem Go.ishr (X : Stand p l e R s m args below meth c T locs cells slots) (hx : p.tables.exec = Jvm.exec) {x : Int32} {y : Int32} (hd : decode c.code pc = .ok (.ishr, 1))  (h : Go p e below F Q T (mkF m (pc + 1) Ls (.int (x >>> (y &&& 31)) :: S))) : Go p e below F Q T (mkF m pc Ls (.int y :: .int x :: S)) := h.st fun _ k => XS.ishr X.here hx rfl hd rfl k
theorem Go.iushr (X : Stand p l e R s m args below meth c T locs cells slots) (hx : p.tables.exec = Jvm.exec) {x : Int32} {y : Int32} (hd : decode c.code pc = .ok (.iushr, 1))  (h : Go p e below F Q T (mkF m (pc + 1) Ls (.int ((x.toUInt32 >>> (y &&& 31).toUInt32).toInt32) :: S))) : Go p e below F Q T (mkF m pc Ls (.int y :: .int x :: S)) := h.st fun _ k => XS.iushr X.here hx rfl hd rfl k
theorem Go.lshl (X : Stand p l e R s m args below meth c T locs cells slots) (hx : p.tables.exec = Jvm.exec) {x : Int64} {y : Int32} (hd : decode c.code pc = .ok (.lshl, 1))  (h : Go p e below F Q T (mkF m (pc + 1) Ls (.long (x <<< (y &&& 0x3f).toInt64) :: S))) : Go p e below F Q T (mkF m pc Ls (.int y :: .long x :: S)) := h.st fun _ k => XS.lshl X.here hx rfl hd rfl k
theorem Go.lshr (X : Stand p l e R s m args below meth c T locs cells slots) (hx : p.tables.exec = Jvm.exec) {x : Int64} {y : Int32} (hd : decode c.code pc = .ok (.lshr, 1))  (h : Go p e below F Q T (mkF m (pc + 1) Ls (.long (x >>> (y &&& 0x3f).toInt64) :: S))) : Go p e below F Q T (mkF m pc Ls (.int y :: .long x :: S)) := h.st fun _ k => XS.lshr X.here hx rfl hd rfl k
theorem Go.lushr (X : Stand p l e R s m args below meth c T locs cells slots) (hx : p.tables.exec = Jvm.exec) {x : Int64} {y : Int32} (hd : decode c.code pc = .ok (.lushr, 1))  (h : Go p e below F Q T (mkF m (pc + 1) Ls (.long ((x.toUInt64 >>> (y &&& 0x3f).toInt64.toUInt64).toInt64) :: S))) : Go p e below F Q T (mkF m pc Ls (.int y :: .long x :: S)) := h.st fun _ k => XS.lushr X.here hx rfl hd rfl k
theorem Go.i2l (X : Stand p l e R s m args below meth c T locs cells slots) (hx : p.tables.exec = Jvm.exec) {x : Int32} (hd : decode c.code pc = .ok (.i2l, 1))  (h : Go p e below F Q T (mkF m (pc + 1) Ls (.long (x.toInt64) :: S))) : Go p e below F Q T (mkF m pc Ls (.int x :: S)) := h.st fun _ k => XS.i2l X.here hx rfl hd rfl k
theorem Go.l2i (X : Stand p l e R s m args below meth c T locs cells slots) (hx : p.tables.exec = Jvm.exec) {x : Int64} (hd : decode c.code pc = .ok (.l2i, 1))  (h : Go p e below F Q T (mkF m (pc + 1) Ls (.int (x.toInt32) :: S))) : Go p e below F Q T (mkF m pc Ls (.long x :: S)) := h.st fun _ k => XS.l2i X.here hx rfl hd rfl k
theorem Go.i2b (X : Stand p l e R s m args below meth c T locs cells slots) (hx : p.tables.exec = Jvm.exec) {x : Int32} (hd : decode c.code pc = .ok (.i2b, 1))  (h : Go p e below F Q T (mkF m (pc + 1) Ls (.int (x.toInt8.toInt32) :: S))) : Go p e below F Q T (mkF m pc Ls (.int x :: S)) := h.st fun _ k => XS.i2b X.here hx rfl hd rfl k
theorem Go.i2s (X : Stand p l e R s m args below meth c T locs cells slots) (hx : p.tables.exec = Jvm.exec) {x : Int32} (hd : decode c.code pc = .ok (.i2s, 1))  (h : Go p e below F Q T (mkF m (pc + 1) Ls (.int (x.toInt16.toInt32) :: S))) : Go p e below F Q T (mkF m pc Ls (.int x :: S)) := h.st fun _ k => XS.i2s X.here hx rfl hd rfl k
theorem Go.i2c (X : Stand p l e R s m args below meth c T locs cells slots) (hx : p.tables.exec = Jvm.exec) {x : Int32} (hd : decode c.code pc = .ok (.i2c, 1))  (h : Go p e below F Q T (mkF m (pc + 1) Ls (.int (x.toUInt32.toUInt16.toUInt32.toInt32) :: S))) : Go p e below F Q T (mkF m pc Ls (.int x :: S)) := h.st fun _ k => XS.i2c X.here hx rfl hd rfl k
theorem Go.lcmp (X : Stand p l e R s m args below meth c T locs cells slots) (hx : p.tables.exec = Jvm.exec) {x y : Int64} (hd : decode c.code pc = .ok (.lcmp, 1))  (h : Go p e below F Q T (mkF m (pc + 1) Ls (.int (XT.cmpL x y) :: S))) : Go p e below F Q T (mkF m pc Ls (.long y :: .long x :: S)) := h.st fun _ k => XT.lcmp X.here hx rfl hd rfl k
theorem Go.dup (X : Stand p l e R s m args below meth c T locs cells slots) (hx : p.tables.exec = Jvm.exec) {x : Value} (hd : decode c.code pc = .ok (.dup, 1)) (hc : x.category = 1) (h : Go p e below F Q T (mkF m (pc + 1) Ls (x :: x :: S))) : Go p e below F Q T (mkF m pc Ls (x :: S)) := h.st fun _ k => XS.dup X.here hx rfl hd rfl hc k
theorem Go.pop (X : Stand p l e R s m args below meth c T locs cells slots) (hx : p.tables.exec = Jvm.exec) {x : Value} (hd : decode c.code pc = .ok (.pop, 1)) (hc : x.category = 1) (h : Go p e below F Q T (mkF m (pc + 1) Ls S)) : Go p e below F Q T (mkF m pc Ls (x :: S)) := h.st fun _ k => XS.pop X.here hx rfl hd rfl hc k
theorem Go.dupX1 (X : Stand p l e R s m args below meth c T locs cells slots) (hx : p.tables.exec = Jvm.exec) {x y : Value} (hd : decode c.code pc = .ok (.dup_x1, 1)) (hc : x.category = 1) (hc' : y.category = 1) (h : Go p e below F Q T (mkF m (pc + 1) Ls (x :: y :: x :: S))) : Go p e below F Q T (mkF m pc Ls (x :: y :: S)) := h.st fun _ k => XS.dupX1 X.here hx rfl hd rfl hc hc' k
theorem Go.iinc (X : Stand p l e R s m args below meth c T locs cells slots) (hx : p.tables.exec = Jvm.exec) {k : Nat} {cst : Int} {x : Int32} {l' : Array Slot} (v : Int32) (hd : decode c.code pc = .ok (.iinc k cst, 3)) (hv : Int32.ofInt cst = v) (hl : Ls[k]? = some (.val (.int x))) (hl' : storeLocals Ls k (.int (x + v)) = some l') (h : Go p e below F Q T (mkF m (pc + 3) l' S)) : Go p e below F Q T (mkF m pc Ls S) := h.st fun _ k => XT.iincV X.here hx rfl v hd hv hl hl' k
theorem Go.iincF (X : Stand p l e R s m args below meth c T locs cells slots) (hx : p.tables.exec = Jvm.exec) {k : Nat} {cst : Int} {x : Int32} {l' : Array Slot} (v z : Int32) (hd : decode c.code pc = .ok (.iinc k cst, 3)) (hv : Int32.ofInt cst = v) (hz : x + v = z) (hl : Ls[k]? = some (.val (.int x))) (hl' : storeLocals Ls k (.int z) = some l') (h : Go p e below F Q T (mkF m (pc + 3) l' S)) : Go p e below F Q T (mkF m pc Ls S) := Go.iinc X hx v hd hv hl (hz ▸ hl') h
theorem Go.istoreS (X : Stand p l e R s m args below meth c T locs cells slots) (hx : p.tables.exec = Jvm.exec) {k : Nat} {x : Int32} {o : Slot} (hd : decode c.code pc = .ok (.istore k, 2)) (hold : Ls[k]? = some o) (ho : One o) (h : Go p e below F Q T (mkF m (pc + 2) (Ls.setIfInBounds k (.val (.int x))) S)) : Go p e below F Q T (mkF m pc Ls (.int x :: S)) := h.st fun _ q => XS.istoreS X.here hx rfl hd rfl hold ho q
theorem Go.istoreNS (X : Stand p l e R s m args below meth c T locs cells slots) (hx : p.tables.exec = Jvm.exec) {k : Fin 4} {x : Int32} {o : Slot} (hd : decode c.code pc = .ok (.istore_n k, 1)) (hold : Ls[k.val]? = some o) (ho : One o) (h : Go p e below F Q T (mkF m (pc + 1) (Ls.setIfInBounds k.val (.val (.int x))) S)) : Go p e below F Q T (mkF m pc Ls (.int x :: S)) := h.st fun _ q => XS.istoreNS X.here hx rfl hd rfl hold ho q
theorem Go.goto (X : Stand p l e R s m args below meth c T locs cells slots) (hx : p.tables.exec = Jvm.exec) {o : Int} {pc' : Nat} (hd : decode c.code pc = .ok (.goto o, 3)) (ho : 0 ≤ (pc : Int) + o) (hp : ((pc : Int) + o).toNat = pc') (h : Go p e below F Q T (mkF m pc' Ls S)) : Go p e below F Q T (mkF m pc Ls S) := h.st fun _ k => XS.goto X.here hx rfl rfl hd ho hp k
theorem Go.ifYes (X : Stand p l e R s m args below meth c T locs cells slots) (hx : p.tables.exec = Jvm.exec) {cd : ClassFile.Cond} {x : Int32} {o : Int} {pc' : Nat} (hd : decode c.code pc = .ok (.ifCond cd o, 3)) (hc : ifCond.holds cd x = true) (ho : 0 ≤ (pc : Int) + o) (hp : ((pc : Int) + o).toNat = pc') (h : Go p e below F Q T (mkF m pc' Ls S)) : Go p e below F Q T (mkF m pc Ls (.int x :: S)) := h.st fun _ k => XS.ifYes X.here hx rfl rfl hd rfl hc ho hp k
theorem Go.ifNo (X : Stand p l e R s m args below meth c T locs cells slots) (hx : p.tables.exec = Jvm.exec) {cd : ClassFile.Cond} {x : Int32} {o : Int} (hd : decode c.code pc = .ok (.ifCond cd o, 3)) (hc : ifCond.holds cd x = false) (h : Go p e below F Q T (mkF m (pc + 3) Ls S)) : Go p e below F Q T (mkF m pc Ls (.int x :: S)) := h.st fun _ k => XS.ifNo X.here hx rfl hd rfl hc k
theorem Go.icmpYes (X : Stand p l e R s m args below meth c T locs cells slots) (hx : p.tables.exec = Jvm.exec) {cd : ClassFile.Cond} {x y : Int32} {o : Int} {pc' : Nat} (hd : decode c.code pc = .ok (.if_icmp cd o, 3)) (hc : if_icmp.holds cd x y = true) (ho : 0 ≤ (pc : Int) + o) (hp : ((pc : Int) + o).toNat = pc') (h : Go p e below F Q T (mkF m pc' Ls S)) : Go p e below F Q T (mkF m pc Ls (.int y :: .int x :: S)) := h.st fun _ k => XS.icmpYes X.here hx rfl rfl hd rfl hc ho hp k
theorem Go.icmpNo (X : Stand p l e R s m args below meth c T locs cells slots) (hx : p.tables.exec = Jvm.exec) {cd : ClassFile.Cond} {x y : Int32} {o : Int} (hd : decode c.code pc = .ok (.if_icmp cd o, 3)) (hc : if_icmp.holds cd x y = false) (h : Go p e below F Q T (mkF m (pc + 3) Ls S)) : Go p e below F Q T (mkF m pc Ls (.int y :: .int x :: S)) := h.st fun _ k => XS.icmpNo X.here hx rfl hd rfl hc k
theorem Go.ifnullYes (X : Stand p l e R s m args below meth c T locs cells slots) (hx : p.tables.exec = Jvm.exec) {o : Int} {pc' : Nat} (hd : decode c.code pc = .ok (.ifnull o, 3)) (ho : 0 ≤ (pc : Int) + o) (hp : ((pc : Int) + o).toNat = pc') (h : Go p e below F Q T (mkF m pc' Ls S)) : Go p e below F Q T (mkF m pc Ls (.null :: S)) := h.st fun _ k => XS.ifnullYes X.here hx rfl rfl hd rfl ho hp k
theorem Go.ifnullNo (X : Stand p l e R s m args below meth c T locs cells slots) (hx : p.tables.exec = Jvm.exec) {o : Int} {b : Addr} (hd : decode c.code pc = .ok (.ifnull o, 3)) (h : Go p e below F Q T (mkF m (pc + 3) Ls S)) : Go p e below F Q T (mkF m pc Ls (.ref b :: S)) := h.st fun _ k => XS.ifnullNo X.here hx rfl hd rfl k
theorem Go.ifnonnullYes (X : Stand p l e R s m args below meth c T locs cells slots) (hx : p.tables.exec = Jvm.exec) {o : Int} {b : Addr} {pc' : Nat} (hd : decode c.code pc = .ok (.ifnonnull o, 3)) (ho : 0 ≤ (pc : Int) + o) (hp : ((pc : Int) + o).toNat = pc') (h : Go p e below F Q T (mkF m pc' Ls S)) : Go p e below F Q T (mkF m pc Ls (.ref b :: S)) := h.st fun _ k => XS.ifnonnullYes X.here hx rfl rfl hd rfl ho hp k
theorem Go.ifnonnullNo (X : Stand p l e R s m args below meth c T locs cells slots) (hx : p.tables.exec = Jvm.exec) {o : Int} (hd : decode c.code pc = .ok (.ifnonnull o, 3)) (h : Go p e below F Q T (mkF m (pc + 3) Ls S)) : Go p e below F Q T (mkF m pc Ls (.null :: S)) := h.st fun _ k => XS.ifnonnullNo X.here hx rfl hd rfl k
theorem Go.acmpYes (X : Stand p l e R s m args below meth c T locs cells slots) (hx : p.tables.exec = Jvm.exec) {cd : ClassFile.ACond} {x y : Value} {o : Int} {pc' : Nat} (hd : decode c.code pc = .ok (.if_acmp cd o, 3)) (hx' : x.isRef = true) (hy' : y.isRef = true) (hc : XT.acmp cd x y = true) (ho : 0 ≤ (pc : Int) + o) (hp : ((pc : Int) + o).toNat = pc') (h : Go p e below F Q T (mkF m pc' Ls S)) : Go p e below F Q T (mkF m pc Ls (y :: x :: S)) := h.st fun _ k => XT.acmpYes X.here hx rfl rfl hd rfl hx' hy' hc ho hp k
theorem Go.acmpNo (X : Stand p l e R s m args below meth c T locs cells slots) (hx : p.tables.exec = Jvm.exec) {cd : ClassFile.ACond} {x y : Value} {o : Int} (hd : decode c.code pc = .ok (.if_acmp cd o, 3)) (hx' : x.isRef = true) (hy' : y.isRef = true) (hc : XT.acmp cd x y = false) (h : Go p e below F Q T (mkF m (pc + 3) Ls S)) : Go p e below F Q T (mkF m pc Ls (y :: x :: S)) := h.st fun _ k => XT.acmpNo X.here hx rfl hd rfl hx' hy' hc k
theorem Go.ldcI (X : Stand p l e R s m args below meth c T locs cells slots) (hx : p.tables.exec = Jvm.exec) (hZ : Z.Warmed39 s.vm) {index : Nat} {v : Int32} (hown : s.vm.findClass own = some m.cls) (w : (Jvm.Cond.constant own index v).before a0 Z = true) (hd : decode c.code pc = .ok (.ldc index, 2)) (h : Go p e below F Q T (mkF m (pc + 2) Ls (.int v :: S))) : Go p e below F Q T (mkF m pc Ls S) := h.st fun _ k => Jvm.Stand.ldcI X hx hown (mvT hZ w) rfl hd k
theorem Go.ldcWI (X : Stand p l e R s m args below meth c T locs cells slots) (hx : p.tables.exec = Jvm.exec) (hZ : Z.Warmed39 s.vm) {index : Nat} {v : Int32} (hown : s.vm.findClass own = some m.cls) (w : (Jvm.Cond.constant own index v).before a0 Z = true) (hd : decode c.code pc = .ok (.ldc_w index, 3)) (h : Go p e below F Q T (mkF m (pc + 3) Ls (.int v :: S))) : Go p e below F Q T (mkF m pc Ls S) := h.st fun _ k => Jvm.Stand.ldcWI X hx hown (mvT hZ w) rfl hd k
theorem Go.ldc2J (X : Stand p l e R s m args below meth c T locs cells slots) (hx : p.tables.exec = Jvm.exec) (hZ : Z.Warmed39 s.vm) {index : Nat} {v : Int64} (hown : s.vm.findClass own = some m.cls) (w : (Jvm.Cond.constantLong own index v).before a0 Z = true) (hd : decode c.code pc = .ok (.ldc2_w index, 3)) (h : Go p e below F Q T (mkF m (pc + 3) Ls (.long v :: S))) : Go p e below F Q T (mkF m pc Ls S) := h.st fun _ k => Jvm.Stand.ldc2J X hx hown (mvT hZ w) rfl hd k
theorem Go.retN (X : Stand p l e R s m args below meth c T locs cells slots) (hx : p.tables.exec = Jvm.exec) {t : FieldType} {z : Int32} (hret : meth.sig.returnType = some t) (hlk : meth.locks = false) (ht : t = .boolean ∨ t = .byte ∨ t = .char ∨ t = .short) (hd : decode c.code pc = .ok (.ireturn, 1)) (hC : cells ≤ C) (hN : slots ≤ N) (hQ : Q (some (.int (nar t z))) T.heap locs) : Go p e below (FE s C N) Q T (mkF m pc Ls (.int z :: S)) := by
  obtain ⟨fs, hr, hrun, hended, hW, hsame⟩ := X.leave (v := some (.int (nar t z))) (fun h => by rw [hret] at h; cases h) hlk
  exact ⟨_, _, Jvm.RoadKit.retN X hx hret ht hd hr, hrun, hended, _, _, rfl, hQ, ⟨_, rfl⟩, hW, hsame.mono hC hN⟩
theorem Go.retI (X : Stand p l e R s m args below meth c T locs cells slots) (hx : p.tables.exec = Jvm.exec) {z : Int32} (hret : meth.sig.returnType = some .int) (hlk : meth.locks = false) (hd : decode c.code pc = .ok (.ireturn, 1)) (hC : cells ≤ C) (hN : slots ≤ N) (hQ : Q (some (.int z)) T.heap locs) : Go p e below (FE s C N) Q T (mkF m pc Ls (.int z :: S)) := by
  obtain ⟨fs, hr, hrun, hended, hW, hsame⟩ := X.leave (v := some (.int z)) (fun h => by rw [hret] at h; cases h) hlk
  exact ⟨_, _, retOut X hx hret rfl (Or.inl ⟨rfl, Or.inl rfl, _, rfl⟩) hd hr, hrun, hended, _, _, rfl, hQ, ⟨_, rfl⟩, hW, hsame.mono hC hN⟩
theorem Go.retJ (X : Stand p l e R s m args below meth c T locs cells slots) (hx : p.tables.exec = Jvm.exec) {z : Int64} (hret : meth.sig.returnType = some .long) (hlk : meth.locks = false) (hd : decode c.code pc = .ok (.lreturn, 1)) (hC : cells ≤ C) (hN : slots ≤ N) (hQ : Q (some (.long z)) T.heap locs) : Go p e below (FE s C N) Q T (mkF m pc Ls (.long z :: S)) := by
  obtain ⟨fs, hr, hrun, hended, hW, hsame⟩ := X.leave (v := some (.long z)) (fun h => by rw [hret] at h; cases h) hlk
  exact ⟨_, _, retOut X hx hret rfl (Or.inr (Or.inl ⟨rfl, rfl, _, rfl⟩)) hd hr, hrun, hended, _, _, rfl, hQ, ⟨_, rfl⟩, hW, hsame.mono hC hN⟩
theorem Go.retA (X : Stand p l e R s m args below meth c T locs cells slots) (hx : p.tables.exec = Jvm.exec) {w : Value} {t : FieldType} (hret : meth.sig.returnType = some t) (hlk : meth.locks = false) (ht : t.isReference = true) (hw : w.isRef = true) (hn : narrow t w = w) (hd : decode c.code pc = .ok (.areturn, 1)) (hC : cells ≤ C) (hN : slots ≤ N) (hQ : Q (some w) T.heap locs) : Go p e below (FE s C N) Q T (mkF m pc Ls (w :: S)) := by
  obtain ⟨fs, hr, hrun, hended, hW, hsame⟩ := X.leave (v := some w) (fun h => by rw [hret] at h; cases h) hlk
  exact ⟨_, _, retOut X hx hret hn (Or.inr (Or.inr (Or.inr (Or.inr ⟨rfl, ht, hw⟩)))) hd hr, hrun, hended, _, _, rfl, hQ, ⟨_, rfl⟩, hW, hsame.mono hC hN⟩
theorem Go.retV (X : Stand p l e R s m args below meth c T locs cells slots) (hx : p.tables.exec = Jvm.exec) (hret : meth.sig.returnType = none) (hlk : meth.locks = false) (hd : decode c.code pc = .ok (.return_, 1)) (hC : cells ≤ C) (hN : slots ≤ N) (hQ : Q none T.heap locs) : Go p e below (FE s C N) Q T (mkF m pc Ls []) := by
  obtain ⟨fs, hr, hrun, hended, hW, hsame⟩ := X.leave (v := none) (fun _ => rfl) hlk
  exact ⟨_, _, X.returnOut hx hret hd hr, hrun, hended, _, _, rfl, hQ, ⟨_, rfl⟩, hW, hsame.mono hC hN⟩
theorem Go.getF (X : Stand p l e R s m args below meth c T locs cells slots) (hx : p.tables.exec = Jvm.exec) (hZ : Z.Warmed39 s.vm) {R0 O n d host : String} {index : Nat} (hown : s.vm.findClass own = some m.cls) (w : (Jvm.Cond.fieldLink own index R0 n d).before a0 Z = true ∨ (Jvm.Cond.fieldLinkNest own index R0 n d host).before a0 Z = true) (via : Via Z R0 O n d) (eT : T.heap = h) {a : Addr} {v : Value} (Fl : Fld Z h a O n d v) (hd : decode c.code pc = .ok (.getfield index, 3)) (k : ∀ T', Stand p l e R s m args below meth c T' locs cells slots → T'.heap = h → Go p e below F Q T' (mkF m (pc + 3) Ls (v :: S))) : Go p e below F Q T (mkF m pc Ls (.ref a :: S)) := by
  obtain ⟨T', X', e', st⟩ := Jvm.RoadKit.getF X hx hZ hown w via eT Fl (g := mkF m pc Ls (.ref a :: S)) rfl rfl hd
  exact (k T' X' e').st st
theorem Go.getS (X : Stand p l e R s m args below meth c T locs cells slots) (hx : p.tables.exec = Jvm.exec) (hZ : Z.Warmed39 s.vm) {R0 O n d host : String} {index : Nat} (hown : s.vm.findClass own = some m.cls) (w : (Jvm.Cond.fieldLink own index R0 n d).before a0 Z = true ∨ (Jvm.Cond.fieldLinkNest own index R0 n d host).before a0 Z = true) (via : Via Z R0 O n d) (eT : T.heap = h) {v : Value} (Fl : Sta Z h O n d v) (hd : decode c.code pc = .ok (.getstatic index, 3)) (k : ∀ T', Stand p l e R s m args below meth c T' locs cells slots → T'.heap = h → Go p e below F Q T' (mkF m (pc + 3) Ls (v :: S))) : Go p e below F Q T (mkF m pc Ls S) := by
  obtain ⟨T', X', e', st⟩ := getS2 X hx hZ hown w via eT Fl (g := mkF m pc Ls S) rfl hd
  exact (k T' X' e').st st
theorem Go.putF (X : Stand p l e R s m args below meth c T locs cells slots) (hx : p.tables.exec = Jvm.exec) (hZ : Z.Warmed39 s.vm) {R0 O n d host K : String} {index kk : Nat} {ty : FieldType} (hown : s.vm.findClass own = some m.cls) (w : (Jvm.Cond.fieldLink own index R0 n d).before a0 Z = true ∨ (Jvm.Cond.fieldLinkNest own index R0 n d host).before a0 Z = true) (via : Via Z R0 O n d) (eT : T.heap = h) {a : Addr} {v old : Value} (Fl : Fld Z h a O n d old) (E : Exa Z h a K) (L : (Jvm.Cond.lays K O n d).before a0 Z = true ∨ ((Jvm.Cond.laysFinal K O n d).before a0 Z = true ∧ own = O ∧ meth.name = "<init>")) (wi : (Jvm.Cond.instantiable K kk).before a0 Z = true) (hty : parseFieldDescriptor d = some ty) (hn : narrow ty v = v) (hf : fits ty v = true) (hd : decode c.code pc = .ok (.putfield index, 3)) (k : ∀ T' h', Stand p l e R s m args below meth c T' (locs ++ [⟨a, Jvm.RoadKit.slotOf Z O n d⟩]) cells slots → T'.heap = h' → Wr h h' a (Jvm.RoadKit.slotOf Z O n d) v → Go p e below F Q T' (mkF m (pc + 3) Ls S)) : Go p e below F Q T (mkF m pc Ls (v :: .ref a :: S)) := by
  obtain ⟨T', h', X', e', W', st⟩ := Jvm.RoadKit.putF X hx hZ hown w via eT Fl E L wi hty hn hf (g := mkF m pc Ls (v :: .ref a :: S)) rfl rfl hd
  exact (k T' h' X' e' W').st st
theorem Go.newO (X : Stand p l e R s m args below meth c T locs cells slots) (hx : p.tables.exec = Jvm.exec) (hZ : Z.Warmed39 s.vm) {K : String} {index n : Nat} (hown : s.vm.findClass own = some m.cls) (w : (Jvm.Cond.classLink own index K).before a0 Z = true) (wi : (Jvm.Cond.instantiable K n).before a0 Z = true) (wz : (Jvm.Cond.initialized K).before a0 Z = true) (eT : T.heap = h) (hd : decode c.code pc = .ok (.new index, 3)) (hc : cells + 1 ≤ R.cells) (hl : slots + n ≤ R.slots) (k : ∀ T' h' a, a = h.size → Stand p l e R s m args below meth c T' locs (cells + 1) (slots + n) → T'.heap = h' → Ext h h' → Exa Z h' a K → (∀ {O nm d : String} {ty : FieldType}, Laid Z a0 K O nm d → parseFieldDescriptor d = some ty → Fld Z h' a O nm d (defaultValue ty)) → Go p e below F Q T' (mkF m (pc + 3) Ls (.ref a :: S))) : Go p e below F Q T (mkF m pc Ls S) := by
  obtain ⟨T', h', X', e', E', A', D', -, st⟩ := Jvm.RoadKit.newO X hx hZ hown w wi wz eT (g := mkF m pc Ls S) rfl hd hc hl
  exact (k T' h' _ rfl X' e' E' A' D').st st
theorem Go.initO (X : Stand p l e R s m args below meth c T locs cells slots) (hx : p.tables.exec = Jvm.exec) (hZ : Z.Warmed39 s.vm) {idx : Nat} (hown : s.vm.findClass own = some m.cls) (w1 : (Jvm.Cond.methodLink own idx Lib.objectInit).before a0 Z = true) (w2 : (Jvm.Cond.instanceMethod Lib.objectInit).before a0 Z = true) (w3 : (Jvm.Cond.code Lib.objectInit ⟨#[0xb1]⟩ 1 none).before a0 Z = true) (eT : T.heap = h) (hsize : Ls.size = c.maxLocals) {a : Addr} (hd : decode c.code pc = .ok (.invokespecial idx, 3)) (hf : 1 ≤ R.frames) {W : Nat} (hW : (S.map fun v => v.category).sum ≤ W) (hl : W + 12 ≤ R.locals) (k : ∀ T', Stand p l e R s m args below meth c T' locs cells slots → T'.heap = h → Go p e below F Q T' (mkF m (pc + 3) Ls S)) : Go p e below F Q T (mkF m pc Ls (.ref a :: S)) := by
  obtain ⟨T', X', e', st⟩ := Jvm.RoadKit.initO X hx hZ hown w1 w2 w3 eT (g := mkF m pc Ls (.ref a :: S)) rfl hsize rfl hd hf (W := W) (by show 2 * 0 + _ ≤ _; omega) hl
  exact (k T' X' e').st st
theorem Go.callS (X : Stand p l e R s m args below meth c T locs cells slots) (hx : p.tables.exec = Jvm.exec) (hZ : Z.Warmed39 s.vm) {index : Nat} {y : MethodName} {bytes : ByteArray} {maxL : Nat} {ret : Option FieldType} {rm : Room} {as' : Array Value} {Qy : Option Value → Heap → List Loc → Prop} (hM : MetFree l y (head1 [Jvm.Cond.code y bytes maxL ret] rm) (fun a U => a = as' ∧ Z.Warmed39 U.vm ∧ U.heap = h) (fun _ _ _ _ _ => True) (fun _ U o U' => ∃ v L, o = .returned v ∧ Qy v U'.heap L ∧ FrameEnd U o U' L rm.cells rm.slots)) (hown : s.vm.findClass own = some m.cls) (wl : (Jvm.Cond.methodLink own index y).before a0 Z = true) (ws : (Jvm.Cond.static y).before a0 Z = true) (wi : (Jvm.Cond.initialized y.cls).before a0 Z = true) (wc : (Jvm.Cond.code y bytes maxL ret).before a0 Z = true) (hy : y.cls ≠ "java/lang/invoke/MethodHandle" ∧ y.cls ≠ "java/lang/invoke/VarHandle") (eT : T.heap = h) {W : Nat} (hsize : Ls.size = c.maxLocals) {argsL : List Value} (hW : (S.map fun v => v.category).sum ≤ W) (hf : rm.frames + 1 ≤ R.frames) (hl : W + (maxL + 11) + rm.locals ≤ R.locals) (hc : cells + rm.cells ≤ R.cells) (hs : slots + rm.slots ≤ R.slots) {ps : List FieldType} {r : Option FieldType} (hds : parseMethodDescriptor y.desc = some ⟨ps, r⟩) (hlen : argsL.length = ps.length) (has : argsL.toArray = as') (hd : decode c.code pc = .ok (.invokestatic index, 3)) (k : ∀ v T' L, Stand p l e R s m args below meth c T' (locs ++ L) (cells + rm.cells) (slots + rm.slots) → Qy v T'.heap L → Go p e below F Q T' (mkF m (pc + 3) Ls (v.toList ++ S))) : Go p e below F Q T (mkF m pc Ls (argsL.reverse ++ S)) := by
  obtain ⟨_, _, ⟨T', L', k', n'⟩, -, X', ⟨L, hq, e1, e2, e3⟩, st⟩ := Jvm.LawKit.callS X hx hown (mvT hZ wl) (mvT hZ ws) (mvT hZ wi) (mvT hZ wc) hy (backOf (W := W) hM hZ wc wi hf hl) (g := mkF m pc Ls (argsL.reverse ++ S)) rfl hsize (argsL := argsL) (rest := S) (lenOf hds hlen) rfl (by show 2 * 0 + _ ≤ _; omega) hd (fun _ _ => ⟨has, eT, hc, hs⟩)
  dsimp only [Pt.U, Pt.locs, Pt.cells, Pt.slots] at X' e1 e2 e3 st hq
  subst e1 e2 e3
  exact (k _ _ _ X' hq).st st
theorem Go.callI (X : Stand p l e R s m args below meth c T locs cells slots) (hx : p.tables.exec = Jvm.exec) (hZ : Z.Warmed39 s.vm) {index : Nat} {y : MethodName} {bytes : ByteArray} {maxL : Nat} {rm : Room} {as' : Array Value} {Qy : Option Value → Heap → List Loc → Prop} (hM : MetFree l y (head1 [Jvm.Cond.code y bytes maxL none] rm) (fun a U => a = as' ∧ Z.Warmed39 U.vm ∧ U.heap = h) (fun _ _ _ _ _ => True) (fun _ U o U' => ∃ v L, o = .returned v ∧ Qy v U'.heap L ∧ FrameEnd U o U' L rm.cells rm.slots)) (hy1 : y.name = "<init>") (hown : s.vm.findClass own = some m.cls) (wl : (Jvm.Cond.methodLink own index y).before a0 Z = true) (ws : (Jvm.Cond.instanceMethod y).before a0 Z = true) (wi : (Jvm.Cond.initialized y.cls).before a0 Z = true) (wc : (Jvm.Cond.code y bytes maxL none).before a0 Z = true) (hy : y.cls ≠ "java/lang/invoke/MethodHandle" ∧ y.cls ≠ "java/lang/invoke/VarHandle") (eT : T.heap = h) {a : Addr} {W : Nat} (hsize : Ls.size = c.maxLocals) {argsL : List Value} (hW : (S.map fun v => v.category).sum ≤ W) (hf : rm.frames + 1 ≤ R.frames) (hl : W + (maxL + 11) + rm.locals ≤ R.locals) (hc : cells + rm.cells ≤ R.cells) (hs : slots + rm.slots ≤ R.slots) {ps : List FieldType} {r : Option FieldType} (hds : parseMethodDescriptor y.desc = some ⟨ps, r⟩) (hlen : argsL.length = ps.length) (has : (.ref a :: argsL).toArray = as') (hd : decode c.code pc = .ok (.invokespecial index, 3)) (k : ∀ v T' L, Stand p l e R s m args below meth c T' (locs ++ L) (cells + rm.cells) (slots + rm.slots) → Qy v T'.heap L → Go p e below F Q T' (mkF m (pc + 3) Ls (v.toList ++ S))) : Go p e below F Q T (mkF m pc Ls (argsL.reverse ++ .ref a :: S)) := by
  obtain ⟨_, _, ⟨T', L', k', n'⟩, -, X', ⟨L, hq, e1, e2, e3⟩, st⟩ := X.specialBack hx hy1 hown (mvT hZ wl) (mvT hZ ws) (mvT hZ wc) hy (backOf (W := W) hM hZ wc wi hf hl) (g := mkF m pc Ls (argsL.reverse ++ .ref a :: S)) rfl hsize (Steps.refl _) (a := a) (argsL := argsL) (rest := S) (lenOf hds hlen) rfl (by show 2 * 0 + _ ≤ _; omega) hd (fun _ _ => ⟨has, eT, hc, hs⟩)
  dsimp only [Pt.U, Pt.locs, Pt.cells, Pt.slots] at X' e1 e2 e3 st hq
  subst e1 e2 e3
  exact (k _ _ _ X' hq).tr st
theorem Go.callV (X : Stand p l e R s m args below meth c T locs cells slots) (hx : p.tables.exec = Jvm.exec) (hZ : Z.Warmed39 s.vm) {index : Nat} {K : String} {y : MethodName} {bytes : ByteArray} {maxL : Nat} {ret : Option FieldType} {rm : Room} {as' : Array Value} {Qy : Option Value → Heap → List Loc → Prop} (hM : MetFree l y (head1 [Jvm.Cond.code y bytes maxL ret] rm) (fun a U => a = as' ∧ Z.Warmed39 U.vm ∧ U.heap = h) (fun _ _ _ _ _ => True) (fun _ U o U' => ∃ v L, o = .returned v ∧ Qy v U'.heap L ∧ FrameEnd U o U' L rm.cells rm.slots)) {y0 : MethodName} (hy : y0.cls ≠ "java/lang/invoke/MethodHandle" ∧ y0.cls ≠ "java/lang/invoke/VarHandle") (hown : s.vm.findClass own = some m.cls) (wl : (Jvm.Cond.methodLink own index y0).before a0 Z = true) (wd : (Jvm.Cond.declares y0).before a0 Z = true) (hnf : NotFace s y0) (wsel : (Jvm.Cond.selects K y0 y).before a0 Z = true) (ws : (Jvm.Cond.instanceMethod y).before a0 Z = true) (wi : (Jvm.Cond.initialized y.cls).before a0 Z = true) (wc : (Jvm.Cond.code y bytes maxL ret).before a0 Z = true) (eT : T.heap = h) {a : Addr} (E : Exa Z h a K) {W : Nat} (hsize : Ls.size = c.maxLocals) {argsL : List Value} (hW : (S.map fun v => v.category).sum ≤ W) (hf : rm.frames + 1 ≤ R.frames) (hl : W + (maxL + 11) + rm.locals ≤ R.locals) (hc : cells + rm.cells ≤ R.cells) (hs : slots + rm.slots ≤ R.slots) {ps : List FieldType} {r : Option FieldType} (hds : parseMethodDescriptor y0.desc = some ⟨ps, r⟩) (hlen : argsL.length = ps.length) (has : (.ref a :: argsL).toArray = as') (hd : decode c.code pc = .ok (.invokevirtual index, 3)) (k : ∀ v T' L, Stand p l e R s m args below meth c T' (locs ++ L) (cells + rm.cells) (slots + rm.slots) → Qy v T'.heap L → Go p e below F Q T' (mkF m (pc + 3) Ls (v.toList ++ S))) : Go p e below F Q T (mkF m pc Ls (argsL.reverse ++ .ref a :: S)) := by
  obtain ⟨cq, kq, q1, q2, q3⟩ := isOf hZ eT E
  obtain ⟨_, _, ⟨T', L', k', n'⟩, -, X', ⟨L, hq, e1, e2, e3⟩, st⟩ := X.virtualBack hx hown (mvT hZ wl) (mvT hZ wd) hnf (mvT hZ wsel) (mvT hZ ws) hy (backOf (W := W) hM hZ wc wi hf hl) q1 q3 (g := mkF m pc Ls (argsL.reverse ++ .ref a :: S)) rfl hsize (Steps.refl _) (argsL := argsL) (rest := S) (lenOf hds hlen) rfl (by show 2 * 0 + _ ≤ _; omega) hd (fun _ _ => ⟨has, eT, hc, hs⟩)
  dsimp only [Pt.U, Pt.locs, Pt.cells, Pt.slots] at X' e1 e2 e3 st hq
  subst e1 e2 e3
  exact (k _ _ _ X' hq).tr st
theorem Go.instY (X : Stand p l e R s m args below meth c T locs cells slots) (hx : p.tables.exec = Jvm.exec) (hZ : Z.Warmed39 s.vm) {K : String} {index : Nat} (hown : s.vm.findClass own = some m.cls) (w : (Jvm.Cond.classLink own index K).before a0 Z = true) (eT : T.heap = h) {a : Addr} (Fl : Ins Z h a K true) (hd : decode c.code pc = .ok (.instanceof index, 3)) (k : ∀ T', Stand p l e R s m args below meth c T' locs cells slots → T'.heap = h → Go p e below F Q T' (mkF m (pc + 3) Ls (.int 1 :: S))) : Go p e below F Q T (mkF m pc Ls (.ref a :: S)) := by
  obtain ⟨T', X', e', st⟩ := Jvm.RoadKit.instY X hx hZ hown w eT Fl (g := mkF m pc Ls (.ref a :: S)) rfl rfl hd
  exact (k T' X' e').st st
theorem Go.castY (X : Stand p l e R s m args below meth c T locs cells slots) (hx : p.tables.exec = Jvm.exec) (hZ : Z.Warmed39 s.vm) {K : String} {index : Nat} (hown : s.vm.findClass own = some m.cls) (w : (Jvm.Cond.classLink own index K).before a0 Z = true) (eT : T.heap = h) {a : Addr} (Fl : Ins Z h a K true) (hd : decode c.code pc = .ok (.checkcast index, 3)) (k : ∀ T', Stand p l e R s m args below meth c T' locs cells slots → T'.heap = h → Go p e below F Q T' (mkF m (pc + 3) Ls (.ref a :: S))) : Go p e below F Q T (mkF m pc Ls (.ref a :: S)) := by
  obtain ⟨T', X', e', st⟩ := Jvm.RoadKit.castY X hx hZ hown w eT Fl (g := mkF m pc Ls (.ref a :: S)) rfl rfl hd
  exact (k T' X' e').st st
theorem Go.instNo (X : Stand p l e R s m args below meth c T locs cells slots) (hx : p.tables.exec = Jvm.exec) (hZ : Z.Warmed39 s.vm) {K K0 : String} {index : Nat} (hown : s.vm.findClass own = some m.cls) (w : (Jvm.Cond.classLink own index K).before a0 Z = true) (eT : T.heap = h) {a : Addr} (E : Exa Z h a K0) (Fl : ∃ c t, Z.vm.findClass K0 = some c ∧ Z.vm.findClass K = some t ∧ Z.vm.assignable c t = false) (hd : decode c.code pc = .ok (.instanceof index, 3)) (k : ∀ T', Stand p l e R s m args below meth c T' locs cells slots → T'.heap = h → Go p e below F Q T' (mkF m (pc + 3) Ls (.int 0 :: S))) : Go p e below F Q T (mkF m pc Ls (.ref a :: S)) := by
  obtain ⟨T', X', e', st⟩ := Jvm.RoadKit.instNo X hx hZ hown w eT E Fl (g := mkF m pc Ls (.ref a :: S)) rfl rfl hd
  exact (k T' X' e').st st
theorem Go.instNull (X : Stand p l e R s m args below meth c T locs cells slots) (hx : p.tables.exec = Jvm.exec) {index : Nat} (hd : decode c.code pc = .ok (.instanceof index, 3)) (h : Go p e below F Q T (mkF m (pc + 3) Ls (.int 0 :: S))) : Go p e below F Q T (mkF m pc Ls (.null :: S)) := h.st fun _ k => X.instanceofNull hx (g := mkF m pc Ls (.null :: S)) rfl rfl hd _ k
theorem Go.castNull (X : Stand p l e R s m args below meth c T locs cells slots) (hx : p.tables.exec = Jvm.exec) {index : Nat} (hd : decode c.code pc = .ok (.checkcast index, 3)) (h : Go p e below F Q T (mkF m (pc + 3) Ls (.null :: S))) : Go p e below F Q T (mkF m pc Ls (.null :: S)) := h.st fun _ k => X.checkcastNull hx (g := mkF m pc Ls (.null :: S)) rfl rfl hd _ k
theorem own_noSub {K0 S0 K : String} {n : Nat} (w : (Jvm.Cond.superclass K0 S0).before a0 Z = true) (wk : (Jvm.Cond.instantiable K n).before a0 Z = true) (q : NS Z K0 K) (hn : K0 ≠ K) : ∃ c t, Z.vm.findClass K0 = some c ∧ Z.vm.findClass K = some t ∧ Z.vm.assignable c t = false := by
  obtain ⟨c, t, h0, g0, n3⟩ := q
  obtain ⟨p, k, kp, h1, h2, h3, h4, h5, -, h7⟩ := Cond.superclass_spec h0 w
  obtain ⟨t', k', g1, g2, g3, g4, -⟩ := Cond.instantiable_spec wk
  cases g0.symm.trans g1
  have g5 : k'.isInterface = false := by simp only [Bool.or_eq_false_iff] at g4; exact g4.1
  have ne := ids_ne h0 g0 hn
  refine ⟨c, t, h0, g0, ?_⟩
  show Z.vm.assignableAux (255 + 1) c t = false
  simp [Vm.assignableAux, ne, h2, g2, h5, g3, g5, Vm.isSubclass, n3]
theorem own_nsRoot {O K : String} {n : Nat} (w : (Jvm.Cond.noSuperclass O).before a0 Z = true) (wk : (Jvm.Cond.instantiable K n).before a0 Z = true) (hn : O ≠ K) : NS Z O K := by
  obtain ⟨c, k, h1, h2, h3, -, -⟩ := Cond.noSuperclass_spec w
  obtain ⟨t, k', g1, -⟩ := Cond.instantiable_spec wk
  have ne := ids_ne h1 g1 hn
  refine ⟨c, t, h1, g1, fun fuel => ?_⟩
  cases fuel with
  | zero => rfl
  | succ f => simp [Vm.isSubclassAux, ne, h2, h3]
theorem Sta.own_keep {h' : Heap} {K n d : String} {v : Value} {ws : List Addr} (Fl : Sta Z h K n d v) (k : Keep h h' ws) (q : ∀ x ∈ ws, ∀ cell : Cell, h[x]? = some cell → cell.vm.isStatics = false) : Sta Z h' K n d v := by
  obtain ⟨cf, i, kk, f, st, cell, h1, h2, h3, h4, h5, h6, h7⟩ := Fl
  refine ⟨cf, i, kk, f, st, cell, h1, h2, h3, h4, k.2.1 _ _ h5 (fun hm => ?_), h6, h7⟩
  have := q _ hm _ h5
  rw [h6] at this; cases this
theorem Go.newP (X : Stand p l e R s m args below meth c T locs cells slots) (hx : p.tables.exec = Jvm.exec) (hZ : Z.Warmed39 s.vm) {aty : ArrayType} (w : (Jvm.Cond.arrayClass (newarray.typeOf aty)).before a0 Z = true) (eT : T.heap = h) {n : Int32} (hd : decode c.code pc = .ok (.newarray aty, 2)) (hn : ¬ n < 0) {cap : Nat} (hcap : n.toNatClampNeg ≤ cap) (hb : cap * 8 ≤ 536870912) (hc : cells + 1 ≤ R.cells) (hl : slots + cap ≤ R.slots) (k : ∀ T' h' cA a, a = h.size → Stand p l e R s m args below meth c T' locs (cells + 1) (slots + cap) → T'.heap = h' → Ext h h' → Arr Z h' a (newA cA (newarray.typeOf aty) n) (newarray.typeOf aty) → Go p e below F Q T' (mkF m (pc + 2) Ls (.ref a :: S))) : Go p e below F Q T (mkF m pc Ls (.int n :: S)) := by
  obtain ⟨T', h', cA, X', e', E', A', st⟩ := Jvm.RoadKit.newP X hx hZ w eT (g := mkF m pc Ls (.int n :: S)) rfl hd rfl hn hcap hb hc hl
  exact (k T' h' cA _ rfl X' e' E' A').st st
theorem Go.stI (X : Stand p l e R s m args below meth c T locs cells slots) (hx : p.tables.exec = Jvm.exec) (hZ : Z.Warmed39 s.vm) (eT : T.heap = h) {a : Addr} {cl : Cell} (A : Arr Z h a cl .int) {j : Int32} {x : Int32} (hj : ¬ (j < 0 ∨ cl.slots.size ≤ j.toNatClampNeg)) (hd : decode c.code pc = .ok (.iastore, 1)) (k : ∀ T' h', Stand p l e R s m args below meth c T' (locs ++ [⟨a, j.toNatClampNeg⟩]) cells slots → T'.heap = h' → Wr h h' a j.toNatClampNeg (.int x) → Go p e below F Q T' (mkF m (pc + 1) Ls S)) : Go p e below F Q T (mkF m pc Ls (.int x :: .int j :: .ref a :: S)) := by
  obtain ⟨T', h', X', e', W', st⟩ := Jvm.RoadKit.stI X hx hZ eT A hj (g := mkF m pc Ls (.int x :: .int j :: .ref a :: S)) rfl rfl hd
  exact (k T' h' X' e' W').st st
theorem Go.stC (X : Stand p l e R s m args below meth c T locs cells slots) (hx : p.tables.exec = Jvm.exec) (hZ : Z.Warmed39 s.vm) (eT : T.heap = h) {a : Addr} {cl : Cell} (A : Arr Z h a cl .char) {j : Int32} {x : Int32} (hj : ¬ (j < 0 ∨ cl.slots.size ≤ j.toNatClampNeg)) (hd : decode c.code pc = .ok (.castore, 1)) (k : ∀ T' h', Stand p l e R s m args below meth c T' (locs ++ [⟨a, j.toNatClampNeg⟩]) cells slots → T'.heap = h' → Wr h h' a j.toNatClampNeg (.int (nar .char x)) → Go p e below F Q T' (mkF m (pc + 1) Ls S)) : Go p e below F Q T (mkF m pc Ls (.int x :: .int j :: .ref a :: S)) := by
  obtain ⟨T', h', X', e', W', st⟩ := Jvm.RoadKit.stC X hx hZ eT A hj (g := mkF m pc Ls (.int x :: .int j :: .ref a :: S)) rfl rfl hd
  exact (k T' h' X' e' W').st st
theorem Go.stB (X : Stand p l e R s m args below meth c T locs cells slots) (hx : p.tables.exec = Jvm.exec) (hZ : Z.Warmed39 s.vm) (eT : T.heap = h) {a : Addr} {cl : Cell} (A : Arr Z h a cl .byte) {j : Int32} {x : Int32} (hj : ¬ (j < 0 ∨ cl.slots.size ≤ j.toNatClampNeg)) (hd : decode c.code pc = .ok (.bastore, 1)) (k : ∀ T' h', Stand p l e R s m args below meth c T' (locs ++ [⟨a, j.toNatClampNeg⟩]) cells slots → T'.heap = h' → Wr h h' a j.toNatClampNeg (.int (nar .byte x)) → Go p e below F Q T' (mkF m (pc + 1) Ls S)) : Go p e below F Q T (mkF m pc Ls (.int x :: .int j :: .ref a :: S)) := by
  obtain ⟨T', h', X', e', W', st⟩ := Jvm.RoadKit.stB X hx hZ eT A hj (g := mkF m pc Ls (.int x :: .int j :: .ref a :: S)) rfl rfl hd
  exact (k T' h' X' e' W').st st
theorem Go.stZ (X : Stand p l e R s m args below meth c T locs cells slots) (hx : p.tables.exec = Jvm.exec) (hZ : Z.Warmed39 s.vm) (eT : T.heap = h) {a : Addr} {cl : Cell} (A : Arr Z h a cl .boolean) {j : Int32} {x : Int32} (hj : ¬ (j < 0 ∨ cl.slots.size ≤ j.toNatClampNeg)) (hd : decode c.code pc = .ok (.bastore, 1)) (k : ∀ T' h', Stand p l e R s m args below meth c T' (locs ++ [⟨a, j.toNatClampNeg⟩]) cells slots → T'.heap = h' → Wr h h' a j.toNatClampNeg (.int (nar .boolean x)) → Go p e below F Q T' (mkF m (pc + 1) Ls S)) : Go p e below F Q T (mkF m pc Ls (.int x :: .int j :: .ref a :: S)) := by
  obtain ⟨T', h', X', e', W', st⟩ := Jvm.RoadKit.stZ X hx hZ eT A hj (g := mkF m pc Ls (.int x :: .int j :: .ref a :: S)) rfl rfl hd
  exact (k T' h' X' e' W').st st
theorem Go.stS (X : Stand p l e R s m args below meth c T locs cells slots) (hx : p.tables.exec = Jvm.exec) (hZ : Z.Warmed39 s.vm) (eT : T.heap = h) {a : Addr} {cl : Cell} (A : Arr Z h a cl .short) {j : Int32} {x : Int32} (hj : ¬ (j < 0 ∨ cl.slots.size ≤ j.toNatClampNeg)) (hd : decode c.code pc = .ok (.sastore, 1)) (k : ∀ T' h', Stand p l e R s m args below meth c T' (locs ++ [⟨a, j.toNatClampNeg⟩]) cells slots → T'.heap = h' → Wr h h' a j.toNatClampNeg (.int (nar .short x)) → Go p e below F Q T' (mkF m (pc + 1) Ls S)) : Go p e below F Q T (mkF m pc Ls (.int x :: .int j :: .ref a :: S)) := by
  obtain ⟨T', h', X', e', W', st⟩ := Jvm.RoadKit.stS X hx hZ eT A hj (g := mkF m pc Ls (.int x :: .int j :: .ref a :: S)) rfl rfl hd
  exact (k T' h' X' e' W').st st
theorem Go.stJ (X : Stand p l e R s m args below meth c T locs cells slots) (hx : p.tables.exec = Jvm.exec) (hZ : Z.Warmed39 s.vm) (eT : T.heap = h) {a : Addr} {cl : Cell} (A : Arr Z h a cl .long) {j : Int32} {x : Int64} (hj : ¬ (j < 0 ∨ cl.slots.size ≤ j.toNatClampNeg)) (hd : decode c.code pc = .ok (.lastore, 1)) (k : ∀ T' h', Stand p l e R s m args below meth c T' (locs ++ [⟨a, j.toNatClampNeg⟩]) cells slots → T'.heap = h' → Wr h h' a j.toNatClampNeg (.long x) → Go p e below F Q T' (mkF m (pc + 1) Ls S)) : Go p e below F Q T (mkF m pc Ls (.long x :: .int j :: .ref a :: S)) := by
  obtain ⟨T', h', X', e', W', st⟩ := Jvm.RoadKit.stJ X hx hZ eT A hj (g := mkF m pc Ls (.long x :: .int j :: .ref a :: S)) rfl rfl hd
  exact (k T' h' X' e' W').st st
theorem Go.iaload (X : Stand p l e R s m args below meth c T locs cells slots) (hx : p.tables.exec = Jvm.exec) (hZ : Z.Warmed39 s.vm) (eT : T.heap = h) {a : Addr} {cl : Cell} (A : Arr Z h a cl .int) {j : Int32} {v : Value} (hj : ¬ (j < 0 ∨ cl.slots.size ≤ j.toNatClampNeg)) (hv : cl.slots[j.toNatClampNeg]? = some v) (hd : decode c.code pc = .ok (.iaload, 1)) (k : Go p e below F Q T (mkF m (pc + 1) Ls (v :: S))) : Go p e below F Q T (mkF m pc Ls (.int j :: .ref a :: S)) := k.st fun _ q => X.iaload hx (by rw [eT]; exact A.1) (State.isArrayOf_alike hZ.alike A.2.1) A.2.2 hj hv (g := mkF m pc Ls (.int j :: .ref a :: S)) rfl rfl hd _ q
theorem Go.caload (X : Stand p l e R s m args below meth c T locs cells slots) (hx : p.tables.exec = Jvm.exec) (hZ : Z.Warmed39 s.vm) (eT : T.heap = h) {a : Addr} {cl : Cell} (A : Arr Z h a cl .char) {j : Int32} {v : Value} (hj : ¬ (j < 0 ∨ cl.slots.size ≤ j.toNatClampNeg)) (hv : cl.slots[j.toNatClampNeg]? = some v) (hd : decode c.code pc = .ok (.caload, 1)) (k : Go p e below F Q T (mkF m (pc + 1) Ls (v :: S))) : Go p e below F Q T (mkF m pc Ls (.int j :: .ref a :: S)) := k.st fun _ q => X.caload hx (by rw [eT]; exact A.1) (State.isArrayOf_alike hZ.alike A.2.1) A.2.2 hj hv (g := mkF m pc Ls (.int j :: .ref a :: S)) rfl rfl hd _ q
theorem Go.saload (X : Stand p l e R s m args below meth c T locs cells slots) (hx : p.tables.exec = Jvm.exec) (hZ : Z.Warmed39 s.vm) (eT : T.heap = h) {a : Addr} {cl : Cell} (A : Arr Z h a cl .short) {j : Int32} {v : Value} (hj : ¬ (j < 0 ∨ cl.slots.size ≤ j.toNatClampNeg)) (hv : cl.slots[j.toNatClampNeg]? = some v) (hd : decode c.code pc = .ok (.saload, 1)) (k : Go p e below F Q T (mkF m (pc + 1) Ls (v :: S))) : Go p e below F Q T (mkF m pc Ls (.int j :: .ref a :: S)) := k.st fun _ q => X.saload hx (by rw [eT]; exact A.1) (State.isArrayOf_alike hZ.alike A.2.1) A.2.2 hj hv (g := mkF m pc Ls (.int j :: .ref a :: S)) rfl rfl hd _ q
theorem Go.laload (X : Stand p l e R s m args below meth c T locs cells slots) (hx : p.tables.exec = Jvm.exec) (hZ : Z.Warmed39 s.vm) (eT : T.heap = h) {a : Addr} {cl : Cell} (A : Arr Z h a cl .long) {j : Int32} {v : Value} (hj : ¬ (j < 0 ∨ cl.slots.size ≤ j.toNatClampNeg)) (hv : cl.slots[j.toNatClampNeg]? = some v) (hd : decode c.code pc = .ok (.laload, 1)) (k : Go p e below F Q T (mkF m (pc + 1) Ls (v :: S))) : Go p e below F Q T (mkF m pc Ls (.int j :: .ref a :: S)) := k.st fun _ q => X.laload hx (by rw [eT]; exact A.1) (State.isArrayOf_alike hZ.alike A.2.1) A.2.2 hj hv (g := mkF m pc Ls (.int j :: .ref a :: S)) rfl rfl hd _ q
theorem Go.baload (X : Stand p l e R s m args below meth c T locs cells slots) (hx : p.tables.exec = Jvm.exec) (hZ : Z.Warmed39 s.vm) (eT : T.heap = h) {a : Addr} {cl : Cell} (A : Arr Z h a cl .byte) {j : Int32} {v : Value} (hj : ¬ (j < 0 ∨ cl.slots.size ≤ j.toNatClampNeg)) (hv : cl.slots[j.toNatClampNeg]? = some v) (hd : decode c.code pc = .ok (.baload, 1)) (k : Go p e below F Q T (mkF m (pc + 1) Ls (v :: S))) : Go p e below F Q T (mkF m pc Ls (.int j :: .ref a :: S)) := k.st fun _ q => X.baloadBytes hx (by rw [eT]; exact A.1) (State.isArrayOf_alike hZ.alike A.2.1) A.2.2 hj hv (g := mkF m pc Ls (.int j :: .ref a :: S)) rfl rfl hd _ q
theorem Go.aaload (X : Stand p l e R s m args below meth c T locs cells slots) (hx : p.tables.exec = Jvm.exec) (hZ : Z.Warmed39 s.vm) (eT : T.heap = h) {a : Addr} {cl : Cell} {ty : FieldType} (A : Arr Z h a cl ty) (hty : ty.isReference = true) {j : Int32} {v : Value} (hj : ¬ (j < 0 ∨ cl.slots.size ≤ j.toNatClampNeg)) (hv : cl.slots[j.toNatClampNeg]? = some v) (hd : decode c.code pc = .ok (.aaload, 1)) (k : Go p e below F Q T (mkF m (pc + 1) Ls (v :: S))) : Go p e below F Q T (mkF m pc Ls (.int j :: .ref a :: S)) := k.st fun _ q => X.aaload hx (by rw [eT]; exact A.1) (State.isArrayOf_alike hZ.alike A.2.1) hty A.2.2 hj hv (g := mkF m pc Ls (.int j :: .ref a :: S)) rfl rfl hd _ q
theorem Go.arraylength (X : Stand p l e R s m args below meth c T locs cells slots) (hx : p.tables.exec = Jvm.exec) (hZ : Z.Warmed39 s.vm) (eT : T.heap = h) {a : Addr} {cl : Cell} {ty : FieldType} (A : Arr Z h a cl ty) {n : Int32} (S1 : cl.slots.size = n.toNatClampNeg) (hn : ¬ n < 0) (hd : decode c.code pc = .ok (.arraylength, 1)) (k : Go p e below F Q T (mkF m (pc + 1) Ls (.int n :: S))) : Go p e below F Q T (mkF m pc Ls (.ref a :: S)) := k.st fun _ q => X.arraylength hx (by rw [eT]; exact A.1) (State.isArrayOf_alike hZ.alike A.2.1) (g := mkF m pc Ls (.ref a :: S)) rfl rfl hd _ (by rw [len_of S1 hn]; exact q)
end OwnKit
theorem d1_0 : decode prog_7_method_1_code 0 = .ok (.aload_n 0, 1) := by decide +kernel
theorem d1_1 : decode prog_7_method_1_code 1 = .ok (.invokespecial 1, 3) := by decide +kernel
theorem d1_4 : decode prog_7_method_1_code 4 = .ok (.aload_n 0, 1) := by decide +kernel
theorem d1_5 : decode prog_7_method_1_code 5 = .ok (.iload_n 1, 1) := by decide +kernel
theorem d1_6 : decode prog_7_method_1_code 6 = .ok (.putfield 7, 3) := by decide +kernel
theorem d1_9 : decode prog_7_method_1_code 9 = .ok (.aload_n 0, 1) := by decide +kernel
theorem d1_10 : decode prog_7_method_1_code 10 = .ok (.iload_n 2, 1) := by decide +kernel
theorem d1_11 : decode prog_7_method_1_code 11 = .ok (.putfield 13, 3) := by decide +kernel
theorem d1_14 : decode prog_7_method_1_code 14 = .ok (.return_, 1) := by decide +kernel
theorem pn_1 : plainName "com/example/whelk/whelk/config/GroupConfig" = true := by first | (simp [plainName, overriddenIn]; done) | decide +kernel
theorem ef_rm1 (m_ : MethodId) (a : Addr) (p1 : Int32) (p2 : Int32) : entryFrame m_ #[(.ref a), (.int p1), (.int p2)] 3 = mkF m_ 0 #[.val (.ref a), .val (.int p1), .val (.int p2)] [] := by first | (simp [entryFrame, mkF, argsToLocals, Value.category]; done) | rfl
def Q1 (Z : State) (a : Addr) (p1 : Int32) (p2 : Int32)  (h0 : Heap) (n0 : Nat) (v : Option Value) (h : Heap) (L : List Loc) : Prop := v = none ∧ Fr n0 L ∧ Keep h0 h [a] ∧ Exa Z h a "com/example/whelk/whelk/config/GroupConfig" ∧ Fld Z h a "com/example/whelk/whelk/config/GroupConfig" "minSessionTimeoutMs" "I" (.int p1) ∧ Fld Z h a "com/example/whelk/whelk/config/GroupConfig" "maxSessionTimeoutMs" "I" (.int p2)
set_option maxRecDepth 65536 in
set_option maxHeartbeats 40000000 in
theorem rm1 (l : Launch) (Z : State) (a0 : Array Value) (hw : ∀ d ∈ tables_1, d.before a0 Z = true) (ws : List Jvm.Cond) (a : Addr) (p1 : Int32) (p2 : Int32)  (h0 : Heap) (n0 : Nat) (Z0 : n0 ≤ h0.size) (F_minSessionTimeoutMs : Fld Z h0 a "com/example/whelk/whelk/config/GroupConfig" "minSessionTimeoutMs" "I" (.int (0 : Int32))) (F_maxSessionTimeoutMs : Fld Z h0 a "com/example/whelk/whelk/config/GroupConfig" "maxSessionTimeoutMs" "I" (.int (0 : Int32))) (E_a : Exa Z h0 a "com/example/whelk/whelk/config/GroupConfig") (g_a : n0 ≤ a) :
    MetFree l (⟨"com/example/whelk/whelk/config/GroupConfig", "<init>", "(II)V"⟩ : MethodName) (head1 (Jvm.Cond.code (⟨"com/example/whelk/whelk/config/GroupConfig", "<init>", "(II)V"⟩ : MethodName) prog_7_method_1_code 3 none :: ws) ({ frames := 1, cells := 0, slots := 0, locals := 12 } : Room)) (fun a_ U_ => a_ = #[(.ref a), (.int p1), (.int p2)] ∧ Z.Warmed39 U_.vm ∧ U_.heap = h0) (fun _ _ _ _ _ => True) (fun _ U_ o_ V_ => ∃ v_ L_, o_ = .returned v_ ∧ Q1 Z a p1 p2 h0 n0 v_ V_.heap L_ ∧ FrameEnd U_ o_ V_ L_ ({ frames := 1, cells := 0, slots := 0, locals := 12 } : Room).cells ({ frames := 1, cells := 0, slots := 0, locals := 12 } : Room).slots) := by
  refine metOf (Q := Q1 Z a p1 p2 h0 n0) (plainFor_of_name pn_1) ?_
  intro p_ e_ s_ m_ below meth c_ s₁ X0 hx hby hml hret hlk hZ hown hnm e0
  rw [ef_rm1]
  have N0 := Fr.nil n0
  show Go p_ e_ below _ _ s₁ (mkF m_ 0 #[.val (.ref a), .val (.int p1), .val (.int p2)] [])
  refine Go.aloadN X0 hx (hb hby d1_0) rfl rfl ?_
  refine Go.initO X0 hx hZ hown (hw _ (List.mem_of_getElem? (i := 6) rfl)) (hw _ (List.mem_of_getElem? (i := 7) rfl)) (hw _ (List.mem_of_getElem? (i := 8) rfl)) e0 (by rw [hml]; rfl) (hb hby d1_1) (by decide) (W := 0) (Nat.le_of_ble_eq_true rfl) (by decide) ?_
  intro T1 X1 e1
  show Go p_ e_ below _ _ T1 (mkF m_ 4 #[.val (.ref a), .val (.int p1), .val (.int p2)] [])
  refine Go.aloadN X1 hx (hb hby d1_4) rfl rfl ?_
  refine Go.iloadN X1 hx (hb hby d1_5) rfl ?_
  refine Go.putF X1 hx hZ hown (host := "") (Or.inl (hw _ (List.mem_of_getElem? (i := 9) rfl))) Via.refl e1 F_minSessionTimeoutMs E_a (Or.inr ⟨(hw _ (List.mem_of_getElem? (i := 10) rfl)), rfl, hnm⟩) (hw _ (List.mem_of_getElem? (i := 1) rfl)) (ty := .int) (by decide) rfl rfl (hb hby d1_6) ?_
  intro T2 h2 X2 e2 W2
  have N2 := Fr.snoc X2 N0 g_a
  have E_2_a := E_a.wr W2
  have F_2_a_minSessionTimeoutMs := F_minSessionTimeoutMs.same W2
  have F_2_a_maxSessionTimeoutMs := F_maxSessionTimeoutMs.other W2 (Or.inr (slot_ne (Or.inr (hw _ (List.mem_of_getElem? (i := 12) rfl))) (Or.inr (hw _ (List.mem_of_getElem? (i := 10) rfl))) (by decide) (t := .int) (t' := .int) (by decide) (by decide)))
  have K2 : Keep h0 h2 [a] := (Keep.refl h0 [a]).wr W2 (Or.inl (List.mem_of_getElem? (i := 0) rfl))
  have Z2 : n0 ≤ h2.size := by rw [W2.size]; exact Z0
  show Go p_ e_ below _ _ T2 (mkF m_ 9 #[.val (.ref a), .val (.int p1), .val (.int p2)] [])
  refine Go.aloadN X2 hx (hb hby d1_9) rfl rfl ?_
  refine Go.iloadN X2 hx (hb hby d1_10) rfl ?_
  refine Go.putF X2 hx hZ hown (host := "") (Or.inl (hw _ (List.mem_of_getElem? (i := 11) rfl))) Via.refl e2 F_2_a_maxSessionTimeoutMs E_2_a (Or.inr ⟨(hw _ (List.mem_of_getElem? (i := 12) rfl)), rfl, hnm⟩) (hw _ (List.mem_of_getElem? (i := 1) rfl)) (ty := .int) (by decide) rfl rfl (hb hby d1_11) ?_
  intro T3 h3 X3 e3 W3
  have N3 := Fr.snoc X3 N2 g_a
  have E_3_a := E_2_a.wr W3
  have F_3_a_minSessionTimeoutMs := F_2_a_minSessionTimeoutMs.other W3 (Or.inr (slot_ne (Or.inr (hw _ (List.mem_of_getElem? (i := 10) rfl))) (Or.inr (hw _ (List.mem_of_getElem? (i := 12) rfl))) (by decide) (t := .int) (t' := .int) (by decide) (by decide)))
  have F_3_a_maxSessionTimeoutMs := F_2_a_maxSessionTimeoutMs.same W3
  have K3 : Keep h0 h3 [a] := K2.wr W3 (Or.inl (List.mem_of_getElem? (i := 0) rfl))
  have Z3 : n0 ≤ h3.size := by rw [W3.size]; exact Z2
  show Go p_ e_ below _ _ T3 (mkF m_ 14 #[.val (.ref a), .val (.int p1), .val (.int p2)] [])
  refine Go.retV X3 hx hret hlk (hb hby d1_14) (by decide) (by decide) ?_
  rw [e3]
  exact ⟨rfl, N3, K3, E_3_a, F_3_a_minSessionTimeoutMs, F_3_a_maxSessionTimeoutMs⟩
def own_al (p : Int32)  (mi : Int32) (ma : Int32) : Int32 := (if p < mi then (0 : Int32) else (if ma < p then (0 : Int32) else (1 : Int32)))
theorem d3_0 : decode prog_7_method_3_code 0 = .ok (.iload_n 1, 1) := by decide +kernel
theorem d3_1 : decode prog_7_method_3_code 1 = .ok (.aload_n 0, 1) := by decide +kernel
theorem d3_2 : decode prog_7_method_3_code 2 = .ok (.getfield 7, 3) := by decide +kernel
theorem d3_5 : decode prog_7_method_3_code 5 = .ok (.if_icmp .lt 15, 3) := by decide +kernel
theorem d3_8 : decode prog_7_method_3_code 8 = .ok (.iload_n 1, 1) := by decide +kernel
theorem d3_9 : decode prog_7_method_3_code 9 = .ok (.aload_n 0, 1) := by decide +kernel
theorem d3_10 : decode prog_7_method_3_code 10 = .ok (.getfield 13, 3) := by decide +kernel
theorem d3_13 : decode prog_7_method_3_code 13 = .ok (.if_icmp .gt 7, 3) := by decide +kernel
theorem d3_16 : decode prog_7_method_3_code 16 = .ok (.iconst 1, 1) := by decide +kernel
theorem d3_17 : decode prog_7_method_3_code 17 = .ok (.goto 4, 3) := by decide +kernel
theorem d3_20 : decode prog_7_method_3_code 20 = .ok (.iconst 0, 1) := by decide +kernel
theorem d3_21 : decode prog_7_method_3_code 21 = .ok (.ireturn, 1) := by decide +kernel
theorem pn_3 : plainName "com/example/whelk/whelk/config/GroupConfig" = true := by first | (simp [plainName, overriddenIn]; done) | decide +kernel
theorem ef_rm3 (m_ : MethodId) (a : Addr) (p : Int32) : entryFrame m_ #[(.ref a), (.int p)] 2 = mkF m_ 0 #[.val (.ref a), .val (.int p)] [] := by first | (simp [entryFrame, mkF, argsToLocals, Value.category]; done) | rfl
def Q3 (Z : State) (a : Addr) (p : Int32)  (mi : Int32) (ma : Int32) (h0 : Heap) (n0 : Nat) (v : Option Value) (h : Heap) (L : List Loc) : Prop := v = some (.int (own_al p mi ma)) ∧ Fr n0 L ∧ h = h0
set_option maxRecDepth 65536 in
set_option maxHeartbeats 40000000 in
theorem rm3 (l : Launch) (Z : State) (a0 : Array Value) (hw : ∀ d ∈ tables_1, d.before a0 Z = true) (ws : List Jvm.Cond) (a : Addr) (p : Int32)  (mi : Int32) (ma : Int32) (h0 : Heap) (n0 : Nat) (Z0 : n0 ≤ h0.size)  (F_mi : Fld Z h0 a "com/example/whelk/whelk/config/GroupConfig" "minSessionTimeoutMs" "I" (.int mi)) (F_ma : Fld Z h0 a "com/example/whelk/whelk/config/GroupConfig" "maxSessionTimeoutMs" "I" (.int ma)) :
    MetFree l (⟨"com/example/whelk/whelk/config/GroupConfig", "allowsSessionTimeout", "(I)Z"⟩ : MethodName) (head1 (Jvm.Cond.code (⟨"com/example/whelk/whelk/config/GroupConfig", "allowsSessionTimeout", "(I)Z"⟩ : MethodName) prog_7_method_3_code 2 (some .boolean) :: ws) ({ frames := 0, cells := 0, slots := 0, locals := 0 } : Room)) (fun a_ U_ => a_ = #[(.ref a), (.int p)] ∧ Z.Warmed39 U_.vm ∧ U_.heap = h0) (fun _ _ _ _ _ => True) (fun _ U_ o_ V_ => ∃ v_ L_, o_ = .returned v_ ∧ Q3 Z a p mi ma h0 n0 v_ V_.heap L_ ∧ FrameEnd U_ o_ V_ L_ ({ frames := 0, cells := 0, slots := 0, locals := 0 } : Room).cells ({ frames := 0, cells := 0, slots := 0, locals := 0 } : Room).slots) := by
  refine metOf (Q := Q3 Z a p mi ma h0 n0) (plainFor_of_name pn_3) ?_
  intro p_ e_ s_ m_ below meth c_ s₁ X0 hx hby hml hret hlk hZ hown hnm e0
  rw [ef_rm3]
  have N0 := Fr.nil n0
  show Go p_ e_ below _ _ s₁ (mkF m_ 0 #[.val (.ref a), .val (.int p)] [])
  refine Go.iloadN X0 hx (hb hby d3_0) rfl ?_
  refine Go.aloadN X0 hx (hb hby d3_1) rfl rfl ?_
  refine Go.getF X0 hx hZ hown (host := "") (Or.inl (hw _ (List.mem_of_getElem? (i := 9) rfl))) Via.refl e0 F_mi (hb hby d3_2) ?_
  intro T1 X1 e1
  show Go p_ e_ below _ _ T1 (mkF m_ 5 #[.val (.ref a), .val (.int p)] [(.int mi), (.int p)])
  by_cases hc5_2 : p < mi
  · skip
    refine Go.icmpYes X1 hx (pc' := 20) (hb hby d3_5) (tlt hc5_2).1 (by decide) (by decide) ?_
    show Go p_ e_ below _ _ T1 (mkF m_ 20 #[.val (.ref a), .val (.int p)] [])
    refine Go.iconst X1 hx (0 : Int32) (hb hby d3_20) rfl ?_
    refine Go.retN X1 hx hret hlk (by simp) (hb hby d3_21) (by decide) (by decide) ?_
    exact ⟨by unfold own_al; rw [if_pos hc5_2] <;> rfl, N0, e1⟩
  · skip
    refine Go.icmpNo X1 hx (hb hby d3_5) (flt hc5_2).1 ?_
    show Go p_ e_ below _ _ T1 (mkF m_ 8 #[.val (.ref a), .val (.int p)] [])
    refine Go.iloadN X1 hx (hb hby d3_8) rfl ?_
    refine Go.aloadN X1 hx (hb hby d3_9) rfl rfl ?_
    refine Go.getF X1 hx hZ hown (host := "") (Or.inl (hw _ (List.mem_of_getElem? (i := 11) rfl))) Via.refl e1 F_ma (hb hby d3_10) ?_
    intro T3 X3 e3
    show Go p_ e_ below _ _ T3 (mkF m_ 13 #[.val (.ref a), .val (.int p)] [(.int ma), (.int p)])
    by_cases hc13_4 : ma < p
    · skip
      refine Go.icmpYes X3 hx (pc' := 20) (hb hby d3_13) (tlt hc13_4).2.2.1 (by decide) (by decide) ?_
      show Go p_ e_ below _ _ T3 (mkF m_ 20 #[.val (.ref a), .val (.int p)] [])
      refine Go.iconst X3 hx (0 : Int32) (hb hby d3_20) rfl ?_
      refine Go.retN X3 hx hret hlk (by simp) (hb hby d3_21) (by decide) (by decide) ?_
      exact ⟨by unfold own_al; rw [if_neg hc5_2, if_pos hc13_4] <;> rfl, N0, e3⟩
    · skip
      refine Go.icmpNo X3 hx (hb hby d3_13) (flt hc13_4).2.2.1 ?_
      show Go p_ e_ below _ _ T3 (mkF m_ 16 #[.val (.ref a), .val (.int p)] [])
      refine Go.iconst X3 hx (1 : Int32) (hb hby d3_16) rfl ?_
      refine Go.goto X3 hx (pc' := 21) (hb hby d3_17) (by decide) (by decide) ?_
      refine Go.retN X3 hx hret hlk (by simp) (hb hby d3_21) (by decide) (by decide) ?_
      exact ⟨by unfold own_al; rw [if_neg hc5_2, if_neg hc13_4] <;> rfl, N0, e3⟩
theorem own_al_iff (p mi ma : Int32) : own_al p mi ma = if mi.toInt ≤ p.toInt ∧ p.toInt ≤ ma.toInt then 1 else 0 := by
  unfold own_al
  simp only [Int32.lt_iff_toInt_lt]
  repeat' split
  all_goals first | rfl | (exfalso; omega)
theorem own_1 (mi ma t ex : Int32) (h : ex = if (t.toInt64 - mi.toInt64) < (0 : Int64) then (0 : Int32) else if (ma.toInt64 - t.toInt64) < (0 : Int64) then (0 : Int32) else (1 : Int32)) : own_al t mi ma = ex := by
  subst h
  rw [own_al_iff]
  have h1 := c_lsub t.toInt64 mi.toInt64
  have h2 := c_lsub ma.toInt64 t.toInt64
  rw [c_i2l, c_i2l] at h1 h2
  have r1 := rng32 t
  have r2 := rng32 mi
  have r3 := rng32 ma
  have r4 := rng64 (t.toInt64 - mi.toInt64)
  have r5 := rng64 (ma.toInt64 - t.toInt64)
  have e0 : (0 : Int64).toInt = 0 := rfl
  simp only [Int64.lt_iff_toInt_lt, e0]
  repeat' split
  all_goals first | rfl | (exfalso; omega)
theorem own_2 (mi ma nx : Int32) (h : nx = if ma < mi then (0 : Int32) else (1 : Int32)) : own_al mi mi ma = nx := by
  subst h
  rw [own_al_iff]
  simp only [Int32.lt_iff_toInt_lt]
  repeat' split
  all_goals first | rfl | (exfalso; omega)
theorem own_3 (mi ma nx : Int32) (h : nx = if ma < mi then (0 : Int32) else (1 : Int32)) : own_al ma mi ma = nx := by
  subst h
  rw [own_al_iff]
  simp only [Int32.lt_iff_toInt_lt]
  repeat' split
  all_goals first | rfl | (exfalso; omega)
theorem own_4 (mi ma : Int32) (h : ¬ mi = (-2147483648 : Int32)) : own_al (mi - 1) mi ma = 0 := by
  rw [own_al_iff]
  have h1 := c_isub mi 1
  have e1 : (1 : Int32).toInt = 1 := rfl
  have e2 : (-2147483648 : Int32).toInt = -2147483648 := rfl
  have r2 := rng32 mi
  have r3 := rng32 (mi - 1)
  rw [← Int32.toInt_inj, e2] at h
  rw [e1] at h1
  split
  · exfalso; omega
  · rfl
theorem own_5 (mi ma : Int32) (h : ¬ ma = (2147483647 : Int32)) : own_al (ma + 1) mi ma = 0 := by
  rw [own_al_iff]
  have h1 := c_iadd ma 1
  have e1 : (1 : Int32).toInt = 1 := rfl
  have e2 : (2147483647 : Int32).toInt = 2147483647 := rfl
  have r2 := rng32 ma
  have r3 := rng32 (ma + 1)
  rw [← Int32.toInt_inj, e2] at h
  rw [e1] at h1
  split
  · exfalso; omega
  · rfl
theorem pd_oIIcV : parseMethodDescriptor "(II)V" = some ⟨[.int, .int], none⟩ := by decide +kernel
theorem pd_oIcZ : parseMethodDescriptor "(I)Z" = some ⟨[.int], some .boolean⟩ := by decide +kernel
theorem pn_0 : plainName "com/example/whelk/whelk/config/GroupConfigAllowsSessionTimeoutPinLaw" = true := by first | (simp [plainName, overriddenIn]; done) | decide +kernel
theorem ef_rm0 (m_ : MethodId) (p0 : Int32) (p1 : Int32) (p2 : Int32) : entryFrame m_ #[(.int p0), (.int p1), (.int p2)] maxLocals = mkF m_ 0 #[.val (.int p0), .val (.int p1), .val (.int p2), .unset, .unset, .unset, .unset, .unset, .unset, .unset] [] := by first | (simp [entryFrame, mkF, argsToLocals, Value.category, maxLocals]; done) | rfl
def Q0 (Z : State) (p0 : Int32) (p1 : Int32) (p2 : Int32)  (h0 : Heap) (n0 : Nat) (v : Option Value) (h : Heap) (L : List Loc) : Prop := v = some (.int 1) ∧ Fr n0 L
set_option maxRecDepth 65536 in
set_option maxHeartbeats 40000000 in
theorem rm0 (l : Launch) (Z : State) (a0 : Array Value) (hw : ∀ d ∈ tables_1, d.before a0 Z = true) (ws : List Jvm.Cond) (p0 : Int32) (p1 : Int32) (p2 : Int32)  (h0 : Heap) (n0 : Nat) (Z0 : n0 ≤ h0.size)  :
    MetFree l x (head1 (Jvm.Cond.code x code maxLocals ret :: ws) room_1) (fun a_ U_ => a_ = #[(.int p0), (.int p1), (.int p2)] ∧ Z.Warmed39 U_.vm ∧ U_.heap = h0) (fun _ _ _ _ _ => True) (fun _ U_ o_ V_ => ∃ v_ L_, o_ = .returned v_ ∧ Q0 Z p0 p1 p2 h0 n0 v_ V_.heap L_ ∧ FrameEnd U_ o_ V_ L_ room_1.cells room_1.slots) := by
  refine metOf (Q := Q0 Z p0 p1 p2 h0 n0) (plainFor_of_name pn_0) ?_
  intro p_ e_ s_ m_ below meth c_ s₁ X0 hx hby hml hret hlk hZ hown hnm e0
  rw [ef_rm0]
  have N0 := Fr.nil n0
  show Go p_ e_ below _ _ s₁ (mkF m_ 0 #[.val (.int p0), .val (.int p1), .val (.int p2), .unset, .unset, .unset, .unset, .unset, .unset, .unset] [])
  refine Go.newO X0 hx hZ hown (hw _ (List.mem_of_getElem? (i := 0) rfl)) (hw _ (List.mem_of_getElem? (i := 1) rfl)) (hw _ (List.mem_of_getElem? (i := 2) rfl)) e0 (hb hby at_0) (by decide) (by decide) ?_
  intro T1 h1 b1 q1 X1 e1 E1 A1 D1
  have g_b1 : n0 ≤ b1 := Nat.le_trans Z0 (Nat.le_of_eq q1.symm)
  have Z1 : n0 ≤ h1.size := Nat.le_trans Z0 E1.1
  have F_b1_minSessionTimeoutMs : Fld Z h1 b1 "com/example/whelk/whelk/config/GroupConfig" "minSessionTimeoutMs" "I" (.int (0 : Int32)) := D1 (Or.inr (hw _ (List.mem_of_getElem? (i := 10) rfl))) (ty := .int) (by decide)
  have F_b1_maxSessionTimeoutMs : Fld Z h1 b1 "com/example/whelk/whelk/config/GroupConfig" "maxSessionTimeoutMs" "I" (.int (0 : Int32)) := D1 (Or.inr (hw _ (List.mem_of_getElem? (i := 12) rfl))) (ty := .int) (by decide)
  show Go p_ e_ below _ _ T1 (mkF m_ 3 #[.val (.int p0), .val (.int p1), .val (.int p2), .unset, .unset, .unset, .unset, .unset, .unset, .unset] [(.ref b1)])
  refine Go.dup X1 hx (hb hby at_3) rfl ?_
  refine Go.iloadN X1 hx (hb hby at_4) rfl ?_
  refine Go.iloadN X1 hx (hb hby at_5) rfl ?_
  refine Go.callI X1 hx hZ (rm1 l Z a0 hw [] b1 p0 p1 h1 n0 Z1 F_b1_minSessionTimeoutMs F_b1_maxSessionTimeoutMs A1 g_b1) rfl hown (hw _ (List.mem_of_getElem? (i := 3) rfl)) (hw _ (List.mem_of_getElem? (i := 4) rfl)) (hw _ (List.mem_of_getElem? (i := 2) rfl)) (hw _ (List.mem_of_getElem? (i := 5) rfl)) (by decide) e1 (a := b1) (W := 1) (by rw [hml]; rfl) (argsL := [(.int p0), (.int p1)]) (S := [(.ref b1)]) (Nat.le_of_ble_eq_true rfl) (by decide) (by decide) (by decide) (by decide) pd_oIIcV rfl rfl (hb hby at_6) ?_
  rintro _ T2 L2 X2 ⟨rfl, N2q, K2, E2, F2_minSessionTimeoutMs, F2_maxSessionTimeoutMs⟩
  have N2 := Fr.app N0 N2q
  have Z2 : n0 ≤ T2.heap.size := Nat.le_trans Z1 K2.1
  show Go p_ e_ below _ _ T2 (mkF m_ 9 #[.val (.int p0), .val (.int p1), .val (.int p2), .unset, .unset, .unset, .unset, .unset, .unset, .unset] [(.ref b1)])
  refine Go.astoreN X2 hx (l' := #[.val (.int p0), .val (.int p1), .val (.int p2), .val (.ref b1), .unset, .unset, .unset, .unset, .unset, .unset]) (hb hby at_9) rfl rfl ?_
  refine Go.iloadN X2 hx (hb hby at_10) rfl ?_
  refine Go.i2l X2 hx (hb hby at_11) ?_
  refine Go.iloadN X2 hx (hb hby at_12) rfl ?_
  refine Go.i2l X2 hx (hb hby at_13) ?_
  refine Go.lsub X2 hx (hb hby at_14) ?_
  refine Go.lstore X2 hx (l' := #[.val (.int p0), .val (.int p1), .val (.int p2), .val (.ref b1), .val (.long ((p2.toInt64) - (p0.toInt64))), .second, .unset, .unset, .unset, .unset]) (hb hby at_15) rfl ?_
  refine Go.iloadN X2 hx (hb hby at_17) rfl ?_
  refine Go.i2l X2 hx (hb hby at_18) ?_
  refine Go.iloadN X2 hx (hb hby at_19) rfl ?_
  refine Go.i2l X2 hx (hb hby at_20) ?_
  refine Go.lsub X2 hx (hb hby at_21) ?_
  refine Go.lstore X2 hx (l' := #[.val (.int p0), .val (.int p1), .val (.int p2), .val (.ref b1), .val (.long ((p2.toInt64) - (p0.toInt64))), .second, .val (.long ((p1.toInt64) - (p2.toInt64))), .second, .unset, .unset]) (hb hby at_22) rfl ?_
  have j3 : ∀ (T4 : State) (l4 : List Loc) (ex : Int32), Stand p_ l e_ room_1 s_ m_ #[(.int p0), (.int p1), (.int p2)] below meth c_ T4 l4 1 2 → Fr n0 l4 → T4.heap = T2.heap → (ex = (if ((p2.toInt64) - (p0.toInt64)) < (0 : Int64) then (0 : Int32) else (if ((p1.toInt64) - (p2.toInt64)) < (0 : Int64) then (0 : Int32) else (1 : Int32)))) → Go p_ e_ below (FE s_ room_1.cells room_1.slots) (Q0 Z p0 p1 p2 h0 n0) T4 (mkF m_ 43 #[.val (.int p0), .val (.int p1), .val (.int p2), .val (.ref b1), .val (.long ((p2.toInt64) - (p0.toInt64))), .second, .val (.long ((p1.toInt64) - (p2.toInt64))), .second, .unset, .unset] [(.int ex)]) := by
    intro T4 l4 ex X4 N4 e4  h_ex
    show Go p_ e_ below _ _ T4 (mkF m_ 43 #[.val (.int p0), .val (.int p1), .val (.int p2), .val (.ref b1), .val (.long ((p2.toInt64) - (p0.toInt64))), .second, .val (.long ((p1.toInt64) - (p2.toInt64))), .second, .unset, .unset] [(.int ex)])
    refine Go.istore X4 hx (l' := #[.val (.int p0), .val (.int p1), .val (.int p2), .val (.ref b1), .val (.long ((p2.toInt64) - (p0.toInt64))), .second, .val (.long ((p1.toInt64) - (p2.toInt64))), .second, .val (.int ex), .unset]) (hb hby at_43) rfl ?_
    refine Go.aloadN X4 hx (hb hby at_45) rfl rfl ?_
    refine Go.iloadN X4 hx (hb hby at_46) rfl ?_
    refine Go.callV X4 hx hZ (y0 := (⟨"com/example/whelk/whelk/config/GroupConfig", "allowsSessionTimeout", "(I)Z"⟩ : MethodName)) (rm3 l Z a0 hw [] b1 p2  p0 p1 T2.heap n0 Z2  F2_minSessionTimeoutMs F2_maxSessionTimeoutMs) (by decide) hown (hw _ (List.mem_of_getElem? (i := 13) rfl)) (hw _ (List.mem_of_getElem? (i := 14) rfl)) (notFace_of_selects (args := #[]) (mvT hZ (hw _ (List.mem_of_getElem? (i := 16) rfl)))) (hw _ (List.mem_of_getElem? (i := 16) rfl)) (hw _ (List.mem_of_getElem? (i := 15) rfl)) (hw _ (List.mem_of_getElem? (i := 2) rfl)) (hw _ (List.mem_of_getElem? (i := 17) rfl)) e4 E2 (W := 0) (by rw [hml]; rfl) (argsL := [(.int p2)]) (S := []) (Nat.le_of_ble_eq_true rfl) (by decide) (by decide) (by decide) (by decide) pd_oIcZ rfl rfl (hb hby at_47) ?_
    rintro _ T5 L5 X5 ⟨rfl, N5q, e5⟩
    have N5 := Fr.app N4 N5q
    show Go p_ e_ below _ _ T5 (mkF m_ 50 #[.val (.int p0), .val (.int p1), .val (.int p2), .val (.ref b1), .val (.long ((p2.toInt64) - (p0.toInt64))), .second, .val (.long ((p1.toInt64) - (p2.toInt64))), .second, .val (.int ex), .unset] [(.int (own_al p2  p0 p1))])
    refine Go.iload X5 hx (hb hby at_50) rfl ?_
    refine Go.icmpYes X5 hx (pc' := 57) (hb hby at_52) (teq (own_1 _ _ _ _ h_ex)).1 (by decide) (by decide) ?_
    have j6 : ∀ (T7 : State) (l7 : List Loc) (nx : Int32), Stand p_ l e_ room_1 s_ m_ #[(.int p0), (.int p1), (.int p2)] below meth c_ T7 l7 1 2 → Fr n0 l7 → T7.heap = T2.heap → (nx = (if p1 < p0 then (0 : Int32) else (1 : Int32))) → Go p_ e_ below (FE s_ room_1.cells room_1.slots) (Q0 Z p0 p1 p2 h0 n0) T7 (mkF m_ 67 #[.val (.int p0), .val (.int p1), .val (.int p2), .val (.ref b1), .val (.long ((p2.toInt64) - (p0.toInt64))), .second, .val (.long ((p1.toInt64) - (p2.toInt64))), .second, .val (.int ex), .unset] [(.int nx)]) := by
      intro T7 l7 nx X7 N7 e7  h_nx
      show Go p_ e_ below _ _ T7 (mkF m_ 67 #[.val (.int p0), .val (.int p1), .val (.int p2), .val (.ref b1), .val (.long ((p2.toInt64) - (p0.toInt64))), .second, .val (.long ((p1.toInt64) - (p2.toInt64))), .second, .val (.int ex), .unset] [(.int nx)])
      refine Go.istore X7 hx (l' := #[.val (.int p0), .val (.int p1), .val (.int p2), .val (.ref b1), .val (.long ((p2.toInt64) - (p0.toInt64))), .second, .val (.long ((p1.toInt64) - (p2.toInt64))), .second, .val (.int ex), .val (.int nx)]) (hb hby at_67) rfl ?_
      refine Go.aloadN X7 hx (hb hby at_69) rfl rfl ?_
      refine Go.iloadN X7 hx (hb hby at_70) rfl ?_
      refine Go.callV X7 hx hZ (y0 := (⟨"com/example/whelk/whelk/config/GroupConfig", "allowsSessionTimeout", "(I)Z"⟩ : MethodName)) (rm3 l Z a0 hw [] b1 p0  p0 p1 T2.heap n0 Z2  F2_minSessionTimeoutMs F2_maxSessionTimeoutMs) (by decide) hown (hw _ (List.mem_of_getElem? (i := 13) rfl)) (hw _ (List.mem_of_getElem? (i := 14) rfl)) (notFace_of_selects (args := #[]) (mvT hZ (hw _ (List.mem_of_getElem? (i := 16) rfl)))) (hw _ (List.mem_of_getElem? (i := 16) rfl)) (hw _ (List.mem_of_getElem? (i := 15) rfl)) (hw _ (List.mem_of_getElem? (i := 2) rfl)) (hw _ (List.mem_of_getElem? (i := 17) rfl)) e7 E2 (W := 0) (by rw [hml]; rfl) (argsL := [(.int p0)]) (S := []) (Nat.le_of_ble_eq_true rfl) (by decide) (by decide) (by decide) (by decide) pd_oIcZ rfl rfl (hb hby at_71) ?_
      rintro _ T8 L8 X8 ⟨rfl, N8q, e8⟩
      have N8 := Fr.app N7 N8q
      show Go p_ e_ below _ _ T8 (mkF m_ 74 #[.val (.int p0), .val (.int p1), .val (.int p2), .val (.ref b1), .val (.long ((p2.toInt64) - (p0.toInt64))), .second, .val (.long ((p1.toInt64) - (p2.toInt64))), .second, .val (.int ex), .val (.int nx)] [(.int (own_al p0  p0 p1))])
      refine Go.iload X8 hx (hb hby at_74) rfl ?_
      refine Go.icmpYes X8 hx (pc' := 81) (hb hby at_76) (teq (own_2 _ _ _ h_nx)).1 (by decide) (by decide) ?_
      show Go p_ e_ below _ _ T8 (mkF m_ 81 #[.val (.int p0), .val (.int p1), .val (.int p2), .val (.ref b1), .val (.long ((p2.toInt64) - (p0.toInt64))), .second, .val (.long ((p1.toInt64) - (p2.toInt64))), .second, .val (.int ex), .val (.int nx)] [])
      refine Go.aloadN X8 hx (hb hby at_81) rfl rfl ?_
      refine Go.iloadN X8 hx (hb hby at_82) rfl ?_
      refine Go.callV X8 hx hZ (y0 := (⟨"com/example/whelk/whelk/config/GroupConfig", "allowsSessionTimeout", "(I)Z"⟩ : MethodName)) (rm3 l Z a0 hw [] b1 p1  p0 p1 T2.heap n0 Z2  F2_minSessionTimeoutMs F2_maxSessionTimeoutMs) (by decide) hown (hw _ (List.mem_of_getElem? (i := 13) rfl)) (hw _ (List.mem_of_getElem? (i := 14) rfl)) (notFace_of_selects (args := #[]) (mvT hZ (hw _ (List.mem_of_getElem? (i := 16) rfl)))) (hw _ (List.mem_of_getElem? (i := 16) rfl)) (hw _ (List.mem_of_getElem? (i := 15) rfl)) (hw _ (List.mem_of_getElem? (i := 2) rfl)) (hw _ (List.mem_of_getElem? (i := 17) rfl)) e8 E2 (W := 0) (by rw [hml]; rfl) (argsL := [(.int p1)]) (S := []) (Nat.le_of_ble_eq_true rfl) (by decide) (by decide) (by decide) (by decide) pd_oIcZ rfl rfl (hb hby at_83) ?_
      rintro _ T9 L9 X9 ⟨rfl, N9q, e9⟩
      have N9 := Fr.app N8 N9q
      show Go p_ e_ below _ _ T9 (mkF m_ 86 #[.val (.int p0), .val (.int p1), .val (.int p2), .val (.ref b1), .val (.long ((p2.toInt64) - (p0.toInt64))), .second, .val (.long ((p1.toInt64) - (p2.toInt64))), .second, .val (.int ex), .val (.int nx)] [(.int (own_al p1  p0 p1))])
      refine Go.iload X9 hx (hb hby at_86) rfl ?_
      refine Go.icmpYes X9 hx (pc' := 93) (hb hby at_88) (teq (own_3 _ _ _ h_nx)).1 (by decide) (by decide) ?_
      have j10 : ∀ (T11 : State) (l11 : List Loc) , Stand p_ l e_ room_1 s_ m_ #[(.int p0), (.int p1), (.int p2)] below meth c_ T11 l11 1 2 → Fr n0 l11 → T11.heap = T2.heap → Go p_ e_ below (FE s_ room_1.cells room_1.slots) (Q0 Z p0 p1 p2 h0 n0) T11 (mkF m_ 111 #[.val (.int p0), .val (.int p1), .val (.int p2), .val (.ref b1), .val (.long ((p2.toInt64) - (p0.toInt64))), .second, .val (.long ((p1.toInt64) - (p2.toInt64))), .second, .val (.int ex), .val (.int nx)] []) := by
        intro T11 l11  X11 N11 e11  
        show Go p_ e_ below _ _ T11 (mkF m_ 111 #[.val (.int p0), .val (.int p1), .val (.int p2), .val (.ref b1), .val (.long ((p2.toInt64) - (p0.toInt64))), .second, .val (.long ((p1.toInt64) - (p2.toInt64))), .second, .val (.int ex), .val (.int nx)] [])
        refine Go.iloadN X11 hx (hb hby at_111) rfl ?_
        refine Go.ldcI X11 hx hZ hown (hw _ (List.mem_of_getElem? (i := 19) rfl)) (hb hby at_112) ?_
        by_cases hc114_12 : p1 = (2147483647 : Int32)
        · skip
          refine Go.icmpYes X11 hx (pc' := 129) (hb hby at_114) (teq hc114_12).1 (by decide) (by decide) ?_
          show Go p_ e_ below _ _ T11 (mkF m_ 129 #[.val (.int p0), .val (.int p1), .val (.int p2), .val (.ref b1), .val (.long ((p2.toInt64) - (p0.toInt64))), .second, .val (.long ((p1.toInt64) - (p2.toInt64))), .second, .val (.int ex), .val (.int nx)] [])
          refine Go.iconst X11 hx (1 : Int32) (hb hby at_129) rfl ?_
          refine Go.retN X11 hx hret hlk (by simp) (hb hby at_130) (by decide) (by decide) ?_
          exact ⟨rfl, N11⟩
        · skip
          refine Go.icmpNo X11 hx (hb hby at_114) (feq hc114_12).1 ?_
          show Go p_ e_ below _ _ T11 (mkF m_ 117 #[.val (.int p0), .val (.int p1), .val (.int p2), .val (.ref b1), .val (.long ((p2.toInt64) - (p0.toInt64))), .second, .val (.long ((p1.toInt64) - (p2.toInt64))), .second, .val (.int ex), .val (.int nx)] [])
          refine Go.aloadN X11 hx (hb hby at_117) rfl rfl ?_
          refine Go.iloadN X11 hx (hb hby at_118) rfl ?_
          refine Go.iconst X11 hx (1 : Int32) (hb hby at_119) rfl ?_
          refine Go.iadd X11 hx (hb hby at_120) ?_
          refine Go.callV X11 hx hZ (y0 := (⟨"com/example/whelk/whelk/config/GroupConfig", "allowsSessionTimeout", "(I)Z"⟩ : MethodName)) (rm3 l Z a0 hw [] b1 (p1 + (1 : Int32))  p0 p1 T2.heap n0 Z2  F2_minSessionTimeoutMs F2_maxSessionTimeoutMs) (by decide) hown (hw _ (List.mem_of_getElem? (i := 13) rfl)) (hw _ (List.mem_of_getElem? (i := 14) rfl)) (notFace_of_selects (args := #[]) (mvT hZ (hw _ (List.mem_of_getElem? (i := 16) rfl)))) (hw _ (List.mem_of_getElem? (i := 16) rfl)) (hw _ (List.mem_of_getElem? (i := 15) rfl)) (hw _ (List.mem_of_getElem? (i := 2) rfl)) (hw _ (List.mem_of_getElem? (i := 17) rfl)) e11 E2 (W := 0) (by rw [hml]; rfl) (argsL := [(.int (p1 + (1 : Int32)))]) (S := []) (Nat.le_of_ble_eq_true rfl) (by decide) (by decide) (by decide) (by decide) pd_oIcZ rfl rfl (hb hby at_121) ?_
          rintro _ T13 L13 X13 ⟨rfl, N13q, e13⟩
          have N13 := Fr.app N11 N13q
          show Go p_ e_ below _ _ T13 (mkF m_ 124 #[.val (.int p0), .val (.int p1), .val (.int p2), .val (.ref b1), .val (.long ((p2.toInt64) - (p0.toInt64))), .second, .val (.long ((p1.toInt64) - (p2.toInt64))), .second, .val (.int ex), .val (.int nx)] [(.int (own_al (p1 + (1 : Int32))  p0 p1))])
          refine Go.ifYes X13 hx (pc' := 129) (hb hby at_124) ((if0 _ _).trans (teq (own_5 _ _ hc114_12)).1) (by decide) (by decide) ?_
          show Go p_ e_ below _ _ T13 (mkF m_ 129 #[.val (.int p0), .val (.int p1), .val (.int p2), .val (.ref b1), .val (.long ((p2.toInt64) - (p0.toInt64))), .second, .val (.long ((p1.toInt64) - (p2.toInt64))), .second, .val (.int ex), .val (.int nx)] [])
          refine Go.iconst X13 hx (1 : Int32) (hb hby at_129) rfl ?_
          refine Go.retN X13 hx hret hlk (by simp) (hb hby at_130) (by decide) (by decide) ?_
          exact ⟨rfl, N13⟩
      show Go p_ e_ below _ _ T9 (mkF m_ 93 #[.val (.int p0), .val (.int p1), .val (.int p2), .val (.ref b1), .val (.long ((p2.toInt64) - (p0.toInt64))), .second, .val (.long ((p1.toInt64) - (p2.toInt64))), .second, .val (.int ex), .val (.int nx)] [])
      refine Go.iloadN X9 hx (hb hby at_93) rfl ?_
      refine Go.ldcI X9 hx hZ hown (hw _ (List.mem_of_getElem? (i := 18) rfl)) (hb hby at_94) ?_
      by_cases hc96_14 : p0 = (-2147483648 : Int32)
      · skip
        refine Go.icmpYes X9 hx (pc' := 111) (hb hby at_96) (teq hc96_14).1 (by decide) (by decide) ?_
        show Go p_ e_ below _ _ T9 (mkF m_ 111 #[.val (.int p0), .val (.int p1), .val (.int p2), .val (.ref b1), .val (.long ((p2.toInt64) - (p0.toInt64))), .second, .val (.long ((p1.toInt64) - (p2.toInt64))), .second, .val (.int ex), .val (.int nx)] [])
        exact j10 _ _  X9 N9 e9 
      · skip
        refine Go.icmpNo X9 hx (hb hby at_96) (feq hc96_14).1 ?_
        show Go p_ e_ below _ _ T9 (mkF m_ 99 #[.val (.int p0), .val (.int p1), .val (.int p2), .val (.ref b1), .val (.long ((p2.toInt64) - (p0.toInt64))), .second, .val (.long ((p1.toInt64) - (p2.toInt64))), .second, .val (.int ex), .val (.int nx)] [])
        refine Go.aloadN X9 hx (hb hby at_99) rfl rfl ?_
        refine Go.iloadN X9 hx (hb hby at_100) rfl ?_
        refine Go.iconst X9 hx (1 : Int32) (hb hby at_101) rfl ?_
        refine Go.isub X9 hx (hb hby at_102) ?_
        refine Go.callV X9 hx hZ (y0 := (⟨"com/example/whelk/whelk/config/GroupConfig", "allowsSessionTimeout", "(I)Z"⟩ : MethodName)) (rm3 l Z a0 hw [] b1 (p0 - (1 : Int32))  p0 p1 T2.heap n0 Z2  F2_minSessionTimeoutMs F2_maxSessionTimeoutMs) (by decide) hown (hw _ (List.mem_of_getElem? (i := 13) rfl)) (hw _ (List.mem_of_getElem? (i := 14) rfl)) (notFace_of_selects (args := #[]) (mvT hZ (hw _ (List.mem_of_getElem? (i := 16) rfl)))) (hw _ (List.mem_of_getElem? (i := 16) rfl)) (hw _ (List.mem_of_getElem? (i := 15) rfl)) (hw _ (List.mem_of_getElem? (i := 2) rfl)) (hw _ (List.mem_of_getElem? (i := 17) rfl)) e9 E2 (W := 0) (by rw [hml]; rfl) (argsL := [(.int (p0 - (1 : Int32)))]) (S := []) (Nat.le_of_ble_eq_true rfl) (by decide) (by decide) (by decide) (by decide) pd_oIcZ rfl rfl (hb hby at_103) ?_
        rintro _ T15 L15 X15 ⟨rfl, N15q, e15⟩
        have N15 := Fr.app N9 N15q
        show Go p_ e_ below _ _ T15 (mkF m_ 106 #[.val (.int p0), .val (.int p1), .val (.int p2), .val (.ref b1), .val (.long ((p2.toInt64) - (p0.toInt64))), .second, .val (.long ((p1.toInt64) - (p2.toInt64))), .second, .val (.int ex), .val (.int nx)] [(.int (own_al (p0 - (1 : Int32))  p0 p1))])
        refine Go.ifYes X15 hx (pc' := 111) (hb hby at_106) ((if0 _ _).trans (teq (own_4 _ _ hc96_14)).1) (by decide) (by decide) ?_
        show Go p_ e_ below _ _ T15 (mkF m_ 111 #[.val (.int p0), .val (.int p1), .val (.int p2), .val (.ref b1), .val (.long ((p2.toInt64) - (p0.toInt64))), .second, .val (.long ((p1.toInt64) - (p2.toInt64))), .second, .val (.int ex), .val (.int nx)] [])
        exact j10 _ _  X15 N15 e15 
    show Go p_ e_ below _ _ T5 (mkF m_ 57 #[.val (.int p0), .val (.int p1), .val (.int p2), .val (.ref b1), .val (.long ((p2.toInt64) - (p0.toInt64))), .second, .val (.long ((p1.toInt64) - (p2.toInt64))), .second, .val (.int ex), .unset] [])
    refine Go.iloadN X5 hx (hb hby at_57) rfl ?_
    refine Go.iloadN X5 hx (hb hby at_58) rfl ?_
    by_cases hc59_16 : p1 < p0
    · skip
      refine Go.icmpYes X5 hx (pc' := 66) (hb hby at_59) (tlt hc59_16).2.2.1 (by decide) (by decide) ?_
      show Go p_ e_ below _ _ T5 (mkF m_ 66 #[.val (.int p0), .val (.int p1), .val (.int p2), .val (.ref b1), .val (.long ((p2.toInt64) - (p0.toInt64))), .second, .val (.long ((p1.toInt64) - (p2.toInt64))), .second, .val (.int ex), .unset] [])
      refine Go.iconst X5 hx (0 : Int32) (hb hby at_66) rfl ?_
      show Go p_ e_ below _ _ T5 (mkF m_ 67 #[.val (.int p0), .val (.int p1), .val (.int p2), .val (.ref b1), .val (.long ((p2.toInt64) - (p0.toInt64))), .second, .val (.long ((p1.toInt64) - (p2.toInt64))), .second, .val (.int ex), .unset] [(.int (0 : Int32))])
      exact j6 _ _ _ X5 N5 e5 (by rw [if_pos hc59_16])
    · skip
      refine Go.icmpNo X5 hx (hb hby at_59) (flt hc59_16).2.2.1 ?_
      show Go p_ e_ below _ _ T5 (mkF m_ 62 #[.val (.int p0), .val (.int p1), .val (.int p2), .val (.ref b1), .val (.long ((p2.toInt64) - (p0.toInt64))), .second, .val (.long ((p1.toInt64) - (p2.toInt64))), .second, .val (.int ex), .unset] [])
      refine Go.iconst X5 hx (1 : Int32) (hb hby at_62) rfl ?_
      refine Go.goto X5 hx (pc' := 67) (hb hby at_63) (by decide) (by decide) ?_
      show Go p_ e_ below _ _ T5 (mkF m_ 67 #[.val (.int p0), .val (.int p1), .val (.int p2), .val (.ref b1), .val (.long ((p2.toInt64) - (p0.toInt64))), .second, .val (.long ((p1.toInt64) - (p2.toInt64))), .second, .val (.int ex), .unset] [(.int (1 : Int32))])
      exact j6 _ _ _ X5 N5 e5 (by rw [if_neg hc59_16])
  show Go p_ e_ below _ _ T2 (mkF m_ 24 #[.val (.int p0), .val (.int p1), .val (.int p2), .val (.ref b1), .val (.long ((p2.toInt64) - (p0.toInt64))), .second, .val (.long ((p1.toInt64) - (p2.toInt64))), .second, .unset, .unset] [])
  refine Go.lload X2 hx (hb hby at_24) rfl ?_
  refine Go.lconst X2 hx (0 : Int64) (hb hby at_26) rfl ?_
  refine Go.lcmp X2 hx (hb hby at_27) ?_
  by_cases hc28_17 : ((p2.toInt64) - (p0.toInt64)) < (0 : Int64)
  · skip
    refine Go.ifYes X2 hx (pc' := 42) (hb hby at_28) (XT.ll_lt_t hc28_17) (by decide) (by decide) ?_
    show Go p_ e_ below _ _ T2 (mkF m_ 42 #[.val (.int p0), .val (.int p1), .val (.int p2), .val (.ref b1), .val (.long ((p2.toInt64) - (p0.toInt64))), .second, .val (.long ((p1.toInt64) - (p2.toInt64))), .second, .unset, .unset] [])
    refine Go.iconst X2 hx (0 : Int32) (hb hby at_42) rfl ?_
    show Go p_ e_ below _ _ T2 (mkF m_ 43 #[.val (.int p0), .val (.int p1), .val (.int p2), .val (.ref b1), .val (.long ((p2.toInt64) - (p0.toInt64))), .second, .val (.long ((p1.toInt64) - (p2.toInt64))), .second, .unset, .unset] [(.int (0 : Int32))])
    exact j3 _ _ _ X2 N2 rfl (by rw [if_pos hc28_17])
  · skip
    refine Go.ifNo X2 hx (hb hby at_28) (XT.ll_lt_f hc28_17) ?_
    show Go p_ e_ below _ _ T2 (mkF m_ 31 #[.val (.int p0), .val (.int p1), .val (.int p2), .val (.ref b1), .val (.long ((p2.toInt64) - (p0.toInt64))), .second, .val (.long ((p1.toInt64) - (p2.toInt64))), .second, .unset, .unset] [])
    refine Go.lload X2 hx (hb hby at_31) rfl ?_
    refine Go.lconst X2 hx (0 : Int64) (hb hby at_33) rfl ?_
    refine Go.lcmp X2 hx (hb hby at_34) ?_
    by_cases hc35_18 : ((p1.toInt64) - (p2.toInt64)) < (0 : Int64)
    · skip
      refine Go.ifYes X2 hx (pc' := 42) (hb hby at_35) (XT.ll_lt_t hc35_18) (by decide) (by decide) ?_
      show Go p_ e_ below _ _ T2 (mkF m_ 42 #[.val (.int p0), .val (.int p1), .val (.int p2), .val (.ref b1), .val (.long ((p2.toInt64) - (p0.toInt64))), .second, .val (.long ((p1.toInt64) - (p2.toInt64))), .second, .unset, .unset] [])
      refine Go.iconst X2 hx (0 : Int32) (hb hby at_42) rfl ?_
      show Go p_ e_ below _ _ T2 (mkF m_ 43 #[.val (.int p0), .val (.int p1), .val (.int p2), .val (.ref b1), .val (.long ((p2.toInt64) - (p0.toInt64))), .second, .val (.long ((p1.toInt64) - (p2.toInt64))), .second, .unset, .unset] [(.int (0 : Int32))])
      exact j3 _ _ _ X2 N2 rfl (by rw [if_neg hc28_17, if_pos hc35_18])
    · skip
      refine Go.ifNo X2 hx (hb hby at_35) (XT.ll_lt_f hc35_18) ?_
      show Go p_ e_ below _ _ T2 (mkF m_ 38 #[.val (.int p0), .val (.int p1), .val (.int p2), .val (.ref b1), .val (.long ((p2.toInt64) - (p0.toInt64))), .second, .val (.long ((p1.toInt64) - (p2.toInt64))), .second, .unset, .unset] [])
      refine Go.iconst X2 hx (1 : Int32) (hb hby at_38) rfl ?_
      refine Go.goto X2 hx (pc' := 43) (hb hby at_39) (by decide) (by decide) ?_
      show Go p_ e_ below _ _ T2 (mkF m_ 43 #[.val (.int p0), .val (.int p1), .val (.int p2), .val (.ref b1), .val (.long ((p2.toInt64) - (p0.toInt64))), .second, .val (.long ((p1.toInt64) - (p2.toInt64))), .second, .unset, .unset] [(.int (1 : Int32))])
      exact j3 _ _ _ X2 N2 rfl (by rw [if_neg hc28_17, if_neg hc35_18])
set_option maxRecDepth 65536 in
set_option maxHeartbeats 40000000 in
theorem comes_1 {Post : Tables → Env → Array Value → State → Outcome → State → Prop} (hpost : ∀ tb e args s v u, (limb_1_1.after args s (.returned v) u = true ∧ limb_1_2.after args s (.returned v) u = true ∧ True) → FrameEnd s (.returned v) u (Jvm.fieldLocs frame_1_writes args s ++ Jvm.arrayLocs frame_1_arrays args s ++ Jvm.staticLocs frame_1_statics s) 16 128 → Post tb e args s (.returned v) u) :
    ArmFor flags0 classFile x code maxLocals ret World_1 tables_1 room_1 Calls_1 rest_1 Pre_1 Post := by
  intro l hfl _ _ p e ha hc hk s m args below hf hA hF happ hP
  obtain ⟨hcalls, hrest, hpre⟩ := hP
  obtain ⟨-, -, -, hnamed, -, -, -, hat⟩ := (Spec.applies_iff hf).mp happ
  obtain ⟨hg, hn⟩ := and_e (Cond.before_iff.mp (show (Jvm.Cond.and given_1 narrow_1).before args s = true from hpre))
  obtain ⟨g1, g2⟩ := and_e hg
  obtain ⟨g3, g4⟩ := and_e g2
  obtain ⟨g5, g6⟩ := and_e g4
  obtain ⟨w0, w1, w2, rfl⟩ : ∃ w0 w1 w2 : Value, args = #[w0, w1, w2] := by
    have hs : args.size = 3 := by simpa [Cond.value, given_1] using g1
    obtain ⟨L⟩ := args
    match L, hs with
    | [w0, w1, w2], _ => exact ⟨w0, w1, w2, rfl⟩
  have hw := fun d (hd : d ∈ tables_1) => atoms_spec (ws := Jvm.Cond.code x code maxLocals ret :: tables_1) hat d (List.mem_cons_of_mem _ hd)
  have hfit : Fit s := fun {y c} hc i hi => by
    obtain ⟨ha, rfl⟩ := Array.getElem?_eq_some_iff.mp hc
    have q := List.all_eq_true.mp ((Array.all_eq_true_iff_forall_mem.mp hF) _ (Array.getElem_mem ha)) i (List.mem_range.mpr hi)
    simpa [Array.getElem?_eq_getElem hi] using q
  obtain ⟨i0, ei0⟩ := is_v g3
  obtain rfl : w0 = (.int i0) := Option.some.inj ei0
  obtain ⟨i1, ei1⟩ := is_v g5
  obtain rfl : w1 = (.int i1) := Option.some.inj ei1
  obtain ⟨i2, ei2⟩ := is_v g6
  obtain rfl : w2 = (.int i2) := Option.some.inj ei2
  obtain ⟨n, o, h1, h2, h3, _, L, rfl, ⟨rfl, N⟩, hq⟩ := rm0 l s _ hw tables_1 i0 i1 i2  s.heap s.heap.size (Nat.le_refl _)  p e ha hc hk s m _ below hf ((Spec.applies_iff_loose hf).mp happ).1 ⟨rfl, State.Warmed39.refl s, rfl⟩ trivial
  refine ⟨n, _, h1, h2, h3, hpost _ _ _ _ _ _ ⟨Cond.after_iff.mpr rfl, Cond.after_iff.mpr (eq_i res_at (Term.int_eval (1)) rfl), trivial⟩ ⟨hq.1, hq.2.1, (hq.2.2.sift fun y hy => Or.inr (N y hy)).mono (by decide) (by decide)⟩⟩
theorem main_1_1 : Claimed_1_1 := comes_1 fun _ _ _ _ _ _ h hF => ⟨h.1, hF⟩
theorem main_1_2 : Claimed_1_2 := comes_1 fun _ _ _ _ _ _ h hF => ⟨h.2.1, hF⟩
end Jvm.Pilot.@@N@@
namespace Jvm.Pilot.@@N@@
open Jvm Jvm.ClassFile Sem Op Lib Jvm.Free Jvm.Stand Jvm.Pilot.@@N@@.Jvm.D
/-! MADE BY PROGRAM (witnessworld.py) out of the Statement's table words and the real class files: 9 classes; the members and pool entries that the words name. The judged class is class 1, her method 1. -/
namespace start1
open Jvm.ClassFile
def u (s : String) : CpInfo := .utf8 (stringToUtf16 s)
/-- a pool by its gaps: so many unusable entries, then the entry; so many at the end -/
def gap : Nat → List CpInfo → List CpInfo
  | 0, r => r
  | n + 1, r => .unusable :: gap n r
def poolList (es : List (Nat × CpInfo)) (last : Nat) : List CpInfo := es.foldr (fun e r => gap e.1 (e.2 :: r)) (gap last [])
def pool (es : List (Nat × CpInfo)) (last : Nat) : Array CpInfo := ⟨poolList es last⟩
def fileOf (pool : Array CpInfo) (this : Nat) (attrs : Array Attribute := #[]) (ms : Array MethodInfo := #[]) (fl : Nat := 33) (sup : Nat := 0) (ifs : Array Nat := #[]) (fds : Array FieldInfo := #[]) : ClassFile where
  minorVersion := 0
  majorVersion := 65
  constantPool := pool
  accessFlags := fl
  thisClass := this
  superClass := sup
  interfaces := ifs
  fields := fds
  methods := ms
  attributes := attrs
def plain (name : String) (sup : Option ClassId) : Class where
  name := name
  kind := .ordinary
  loader := none
  accessFlags := 33
  super := sup
  interfaces := #[]
  cf := none
  fields := #[]
  methods := #[]
  instanceTypes := #[]
  staticTypes := #[]
  resolved := #[]
  callSites := []
  init := .initialized
  statics := none
  mirror := none

def pool0 : Array CpInfo := pool [(5, u "<init>"), (0, u "()V"), (1, .class_ 10), (1, u "java/lang/Object")] 113

def k0c0 : Code := { maxStack := 0, maxLocals := 1, code := object_method_1_code, exceptionTable := #[], attributes := #[] }
def k0m0 : Method := { name := "<init>", desc := "()V", sig := { parameters := [], returnType := none }, accessFlags := 1, code := some k0c0 }
/-- java/lang/Object -/
def k0 : Class := { plain "java/lang/Object" none with
  accessFlags := 33
  interfaces := #[]
  cf := some (fileOf pool0 8 #[] #[{ accessFlags := 1, nameIndex := 5, descriptorIndex := 6, attributes := #[] }] 33 0 #[] #[])
  fields := #[]
  methods := #[k0m0]
  instanceTypes := #[]
  staticTypes := #[]
  resolved := Array.replicate 124 none
  statics := none }

def pool1 : Array CpInfo := pool [(2, .class_ 4), (1, u "java/lang/Object"), (0, u "<init>"), (0, u "()V"), (0, .class_ 8), (0, u "com/example/whelk/whelk/config/GroupConfig"), (0, .methodref 7 10), (0, .nameAndType 5 11), (0, u "(II)V"), (0, .methodref 7 13), (0, .nameAndType 14 15), (0, u "allowsSessionTimeout"), (0, u "(I)Z"), (2, .integer 2147483648), (0, .integer 2147483647), (0, .class_ 21), (0, u "com/example/whelk/whelk/config/GroupConfigAllowsSessionTimeoutPinLaw"), (2, u "law"), (0, u "(III)Z")] 3

def k1m0 : Method := { name := "<init>", desc := "()V", sig := { parameters := [], returnType := none }, accessFlags := 1, code := none }
def k1c1 : Code := { maxStack := 4, maxLocals := 10, code := code, exceptionTable := #[], attributes := #[] }
def k1m1 : Method := { name := "law", desc := "(III)Z", sig := { parameters := [.int, .int, .int], returnType := some .boolean }, accessFlags := 9, code := some k1c1 }
/-- com/example/whelk/whelk/config/GroupConfigAllowsSessionTimeoutPinLaw -/
def k1 : Class := { plain "com/example/whelk/whelk/config/GroupConfigAllowsSessionTimeoutPinLaw" (some 0) with
  accessFlags := 49
  interfaces := #[]
  cf := some (fileOf pool1 20 #[] #[{ accessFlags := 1, nameIndex := 5, descriptorIndex := 6, attributes := #[] }, { accessFlags := 9, nameIndex := 24, descriptorIndex := 25, attributes := #[] }] 49 2 #[] #[])
  fields := #[]
  methods := #[k1m0, k1m1]
  instanceTypes := #[]
  staticTypes := #[]
  resolved := Array.replicate 29 none
  statics := none }

def pool2 : Array CpInfo := pool [(1, .methodref 2 3), (0, .class_ 4), (0, .nameAndType 5 6), (0, u "java/lang/Object"), (0, u "<init>"), (0, u "()V"), (0, .fieldref 8 9), (0, .class_ 10), (0, .nameAndType 11 12), (0, u "com/example/whelk/whelk/config/GroupConfig"), (0, u "minSessionTimeoutMs"), (0, u "I"), (0, .fieldref 8 14), (0, .nameAndType 15 12), (0, u "maxSessionTimeoutMs"), (30, u "(II)V"), (5, u "allowsSessionTimeout"), (0, u "(I)Z")] 17

def k2c0 : Code := { maxStack := 2, maxLocals := 3, code := prog_7_method_1_code, exceptionTable := #[], attributes := #[] }
def k2m0 : Method := { name := "<init>", desc := "(II)V", sig := { parameters := [.int, .int], returnType := none }, accessFlags := 1, code := some k2c0 }
def k2c1 : Code := { maxStack := 2, maxLocals := 2, code := prog_7_method_3_code, exceptionTable := #[], attributes := #[] }
def k2m1 : Method := { name := "allowsSessionTimeout", desc := "(I)Z", sig := { parameters := [.int], returnType := some .boolean }, accessFlags := 1, code := some k2c1 }
/-- com/example/whelk/whelk/config/GroupConfig -/
def k2 : Class := { plain "com/example/whelk/whelk/config/GroupConfig" (some 0) with
  accessFlags := 49
  interfaces := #[]
  cf := some (fileOf pool2 8 #[] #[{ accessFlags := 1, nameIndex := 5, descriptorIndex := 46, attributes := #[] }, { accessFlags := 1, nameIndex := 52, descriptorIndex := 53, attributes := #[] }] 49 2 #[] #[{ accessFlags := 18, nameIndex := 11, descriptorIndex := 12, attributes := #[] }, { accessFlags := 18, nameIndex := 15, descriptorIndex := 12, attributes := #[] }])
  fields := #[{ name := "minSessionTimeoutMs", type := .int, accessFlags := 18, slot := 0, constantValue := 0 }, { name := "maxSessionTimeoutMs", type := .int, accessFlags := 18, slot := 1, constantValue := 0 }]
  methods := #[k2m0, k2m1]
  instanceTypes := #[.int, .int]
  staticTypes := #[]
  resolved := Array.replicate 71 none
  statics := none }

def pool3 : Array CpInfo := pool [(1, u "java/lang/Cloneable"), (0, .class_ 1), (0, u "java/lang/Object"), (0, .class_ 3)] 3

/-- java/lang/Cloneable -/
def k3 : Class := { plain "java/lang/Cloneable" (some 0) with
  accessFlags := 1537
  interfaces := #[]
  cf := some (fileOf pool3 2 #[] #[] 1537 4 #[] #[])
  fields := #[]
  methods := #[]
  instanceTypes := #[]
  staticTypes := #[]
  resolved := Array.replicate 8 none
  statics := none }

def pool4 : Array CpInfo := pool [(1, u "java/io/Serializable"), (0, .class_ 1), (0, u "java/lang/Object"), (0, .class_ 3)] 3

/-- java/io/Serializable -/
def k4 : Class := { plain "java/io/Serializable" (some 0) with
  accessFlags := 1537
  interfaces := #[]
  cf := some (fileOf pool4 2 #[] #[] 1537 4 #[] #[])
  fields := #[]
  methods := #[]
  instanceTypes := #[]
  staticTypes := #[]
  resolved := Array.replicate 8 none
  statics := none }

/-- the primitive byte -/
def k5 : Class := { plain "byte" none with kind := .primitive 'B', accessFlags := 0x411 }
/-- [B -/
def k6 : Class := { plain "[B" (some 0) with kind := .array 5 .byte, interfaces := #[3, 4], accessFlags := 1041 }

/-- the primitive int -/
def k7 : Class := { plain "int" none with kind := .primitive 'I', accessFlags := 0x411 }
/-- [I -/
def k8 : Class := { plain "[I" (some 0) with kind := .array 7 .int, interfaces := #[3, 4], accessFlags := 1041 }

def heap : Heap := #[]
def classes : Array Class := #[k0, k1, k2, k3, k4, k5, k6, k7, k8]
def interned : List (Array UInt16 × Addr) := []
def slotsUsed : Nat := 0
def theMethod : MethodId := ⟨1, 1⟩
def args0 : Array Value := #[.int 5, .int 9, .int 7]
def aboutOver (below : List Frame) : State where
  vm := { classes := classes, interned := interned.toArray }
  heap := heap
  slotsUsed := slotsUsed
  threads := #[{ frames := .invoking theMethod args0 :: below }]
def below0 : List Frame := [.native { method := ⟨0, 0⟩, args := #[] }]
def about1 : State := aboutOver below0
def p0 : Program := .bare "" "" ""
def e0 : Env := launch0.env 0 0 0
theorem w_frames : about1.frames = Frame.invoking theMethod args0 :: below0 := rfl
set_option maxRecDepth 65536 in
theorem w_args : argsFit about1.vm theMethod args0 = true := by decide +kernel
set_option maxRecDepth 65536 in
theorem w_heap : heapFits about1 = true := by decide +kernel
set_option maxRecDepth 65536 in
theorem w_runnable : about1.curStatus? = some .runnable := by decide +kernel
set_option maxRecDepth 65536 in
theorem w_alone : about1.alone = true := by decide +kernel
set_option maxRecDepth 65536 in
theorem w_named : about1.methodNamed? x = some theMethod := by decide +kernel
set_option maxRecDepth 65536 in
theorem w_hears : about1.hears theMethod below0 = true := by decide +kernel
set_option maxRecDepth 65536 in
theorem w_ripe : about1.ripe theMethod args0 below0 = true := by decide +kernel
theorem w_running : about1.status = .running := rfl
set_option maxRecDepth 65536 in
theorem w_room : about1.hasRoom e0.platform room_1 = true :=
  launch0.hasRoom_least _ room_1 (by decide +kernel) (by decide +kernel) (by decide +kernel) (by decide +kernel) (by decide +kernel) (by decide +kernel)
theorem allAtoms_all (ts : List Jvm.Cond) (a : Array Jvm.Value) (st : Jvm.State) : (allAtoms ts).before a st = ts.all (fun c => c.before a st) := by
  induction ts with
  | nil => rfl
  | cons c t ih =>
    show (Jvm.Cond.and c (allAtoms t)).before a st = _
    rw [Jvm.Cond.before_and, ih, List.all_cons]
def words1 : List Jvm.Cond := Jvm.Cond.code x code maxLocals ret :: tables_1
/-- a 'code' word, met by the world's own term for the bytes: nothing is compared byte by byte -/
theorem code_word {y : MethodName} {bytes : ByteArray} {mx : Nat} {rt : Option FieldType} {a : Array Value} {s : State} {m : MethodId} {meth : Method} {c : Code} (h1 : s.methodNamed? y = some m) (h2 : s.vm.method? m = some meth) (h3 : meth.code = some c) (h4 : c.code = bytes)
    (h5 : (c.maxLocals == mx && c.exceptionTable.isEmpty && decide (c.maxStack ≤ mostOperands) && decide (meth.sig.returnType = rt) && !meth.locks && decide (parseMethodDescriptor y.desc = some meth.sig)) = true) : (Jvm.Cond.code y bytes mx rt).before a s = true := by
  simp only [Bool.and_eq_true, beq_iff_eq, Bool.not_eq_true', decide_eq_true_eq] at h5
  obtain ⟨⟨⟨⟨⟨g1, g2⟩, g3⟩, g4⟩, g5⟩, g6⟩ := h5
  simp [Cond.before, Cond.holds, Cond.value, h1, h2, h3, h4, g1, g2, g3, g4, g5, g6]
def isCode : Jvm.Cond → Bool
  | .code _ _ _ _ => true
  | _ => false
theorem all_split {L : List Jvm.Cond} {P : Jvm.Cond → Bool} (h1 : L.all (fun c => isCode c || P c) = true) (h2 : ∀ c ∈ L.filter isCode, P c = true) : L.all P = true := by
  refine List.all_eq_true.mpr fun c hc => ?_
  have h := List.all_eq_true.mp h1 c hc
  rcases Bool.eq_false_or_eq_true (isCode c) with hi | hi
  · exact h2 c (List.mem_filter.mpr ⟨hc, hi⟩)
  · simpa [hi] using h
set_option maxRecDepth 65536 in
theorem w_c0 : (Jvm.Cond.code x code maxLocals ret).before args0 about1 = true := code_word (m := ⟨1, 1⟩) (meth := k1m1) (c := k1c1) (by decide +kernel) rfl rfl rfl (by decide +kernel)
set_option maxRecDepth 65536 in
theorem w_c1 : (Jvm.Cond.code ({ cls := "com/example/whelk/whelk/config/GroupConfig", name := "<init>", desc := "(II)V" } : Jvm.MethodName) prog_7_method_1_code (3 : Nat) (Option.none : Option Jvm.ClassFile.FieldType)).before args0 about1 = true := code_word (m := ⟨2, 0⟩) (meth := k2m0) (c := k2c0) (by decide +kernel) rfl rfl rfl (by decide +kernel)
set_option maxRecDepth 65536 in
theorem w_c2 : (Jvm.Cond.code ({ cls := "java/lang/Object", name := "<init>", desc := "()V" } : Jvm.MethodName) object_method_1_code (1 : Nat) (Option.none : Option Jvm.ClassFile.FieldType)).before args0 about1 = true := code_word (m := ⟨0, 0⟩) (meth := k0m0) (c := k0c0) (by decide +kernel) rfl rfl rfl (by decide +kernel)
set_option maxRecDepth 65536 in
theorem w_c3 : (Jvm.Cond.code ({ cls := "com/example/whelk/whelk/config/GroupConfig", name := "allowsSessionTimeout", desc := "(I)Z" } : Jvm.MethodName) prog_7_method_3_code (2 : Nat) (Option.some Jvm.ClassFile.FieldType.boolean)).before args0 about1 = true := code_word (m := ⟨2, 1⟩) (meth := k2m1) (c := k2c1) (by decide +kernel) rfl rfl rfl (by decide +kernel)
def codes1 : List Jvm.Cond := [Jvm.Cond.code x code maxLocals ret, Jvm.Cond.code ({ cls := "com/example/whelk/whelk/config/GroupConfig", name := "<init>", desc := "(II)V" } : Jvm.MethodName) prog_7_method_1_code (3 : Nat) (Option.none : Option Jvm.ClassFile.FieldType), Jvm.Cond.code ({ cls := "java/lang/Object", name := "<init>", desc := "()V" } : Jvm.MethodName) object_method_1_code (1 : Nat) (Option.none : Option Jvm.ClassFile.FieldType), Jvm.Cond.code ({ cls := "com/example/whelk/whelk/config/GroupConfig", name := "allowsSessionTimeout", desc := "(I)Z" } : Jvm.MethodName) prog_7_method_3_code (2 : Nat) (Option.some Jvm.ClassFile.FieldType.boolean)]
set_option maxRecDepth 65536 in
theorem codes_eq : words1.filter isCode = codes1 := rfl
theorem w_codes : ∀ c ∈ words1.filter isCode, c.before args0 about1 = true := by
  rw [codes_eq]
  intro c hc
  simp only [codes1, List.mem_cons, List.not_mem_nil, or_false] at hc
  rcases hc with rfl | rfl | rfl | rfl
  · exact w_c0
  · exact w_c1
  · exact w_c2
  · exact w_c3
set_option maxRecDepth 65536 in
theorem w_t1 : words1.all (fun c => isCode c || c.before args0 about1) = true := by decide +kernel
theorem w_tables : (allAtoms (Jvm.Cond.code x code maxLocals ret :: tables_1)).before args0 about1 = true := by
  rw [allAtoms_all]
  show words1.all (fun c => c.before args0 about1) = true
  refine all_split ?_ w_codes
  rw [w_t1]
set_option maxRecDepth 65536 in
theorem w_case : (Jvm.Cond.and given_1 narrow_1).before args0 about1 = true := by decide +kernel
theorem w_applies : (headSpec (Jvm.Cond.code x code maxLocals ret :: tables_1) room_1).applies x e0.platform about1 = true :=
  (Spec.applies_iff w_frames).mpr ⟨w_running, w_runnable, w_alone, w_named, w_hears, w_ripe, w_room, w_tables⟩
theorem atStart : AtStart classFile x code maxLocals ret World_1 tables_1 room_1 Calls_1 rest_1 Pre_1 launch0 p0 e0 about1 theMethod args0 below0 :=
  ⟨lists_1, trivial, launch0.admits_env _ _ _, launch0.least_env, fairChoices_fair.cas, fairChoices_fair.clock, w_frames, w_args, w_heap, w_applies, trivial, trivial, w_case⟩
end start1
theorem witness_1 : WitnessClaimed_1 := ⟨start1.p0, start1.e0, start1.about1, start1.theMethod, start1.args0, start1.below0, start1.atStart⟩
end Jvm.Pilot.@@N@@
