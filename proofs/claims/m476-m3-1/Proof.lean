import JvmDerived
import JvmDerived.Pilot.@@N@@Statement
import JvmDerived.Pilot.@@N@@Code
set_option linter.unusedVariables false
set_option linter.unusedSimpArgs false
namespace Jvm.Pilot.@@N@@
open Jvm Jvm.ClassFile Sem Op Lib Jvm.Free Jvm.Stand Jvm.LawKit Jvm.RoadKit Bundle Jvm.Pilot.@@N@@.Jvm.D
section OwnKit
variable {p : Program} {l : Launch} {e : Env} {R : Room} {s : State} {m : MethodId} {args : Array Value} {below : List Frame} {meth : Method} {c : Code} {T : State} {locs : List Loc} {cells slots : Nat} {C N : Nat} {F : Outcome → State → List Loc → Prop} {Q : Option Value → Heap → List Loc → Prop} {pc : Nat} {Ls : Array Slot} {S : List Value} {Z : State} {a0 : Array Value} {h : Heap} {own : String}
def Go (p : Program) (e : Env) (below : List Frame) (F : Outcome → State → List Loc → Prop) (Q : Option Value → Heap → List Loc → Prop) (T : State) (g : JFrame) : Prop :=
  ∃ s₂ o, Steps p.tables e below (T.setTop g) s₂ ∧ s₂.status = .running ∧ Ended s₂ below o ∧ ∃ v L, o = .returned v ∧ Q v s₂.heap L ∧ F o s₂ L
def FE (s : State) (C N : Nat) (o : Outcome) (t : State) (L : List Loc) : Prop := FrameEnd s o t L C N
theorem Go.st {T' : State} {g g' : JFrame} (h : Go p e below F Q T' g') (st : ∀ t, Steps p.tables e below (T'.setTop g') t → Steps p.tables e below (T.setTop g) t) : Go p e below F Q T g := by
  obtain ⟨s₂, o, h1, h2⟩ := h
  exact ⟨s₂, o, st _ h1, h2⟩
theorem Go.tr {T' : State} {g g' : JFrame} (h : Go p e below F Q T' g') (st : Steps p.tables e below (T.setTop g) (T'.setTop g')) : Go p e below F Q T g := by
  obtain ⟨s₂, o, h1, h2⟩ := h
  exact ⟨s₂, o, st.trans h1, h2⟩
/-- a body's contract out of its walk -/
theorem metOf {y : MethodName} {bytes : ByteArray} {maxL : Nat} {ret : Option FieldType} {rm : Room} {ws : List Jvm.Cond} {as' : Array Value} {h0 : Heap} (hpl : plainFor y = true)
    (body : ∀ p e s m below meth c s₁, Stand p l e rm s m as' below meth c s₁ [] 0 0 → p.tables.exec = Jvm.exec → c.code = bytes → c.maxLocals = maxL → meth.sig.returnType = ret → meth.locks = false → Z.Warmed39 s.vm → s.vm.findClass y.cls = some m.cls → meth.name = y.name → s₁.heap = h0 → Go p e below (FE s rm.cells rm.slots) Q s₁ (entryFrame m as' maxL)) :
    MetFree l y (head1 (Jvm.Cond.code y bytes maxL ret :: ws) rm) (fun a U => a = as' ∧ Z.Warmed39 U.vm ∧ U.heap = h0) (fun _ _ _ _ _ => True) (fun _ U o U' => ∃ v L, o = .returned v ∧ Q v U'.heap L ∧ FrameEnd U o U' L rm.cells rm.slots) := by
  refine MetFree.of_bodySF hpl hisR ?_
  intro p e s m args below meth c s₁ Bd hml0 hP hK
  obtain ⟨rfl, hZ, hh⟩ := hP
  exact body p e s m below meth c s₁ (Stand.of_body Bd) Bd.exec Bd.bytes hml0 Bd.returns Bd.notSynchronized hZ (findClass_of_methodNamed Bd.named) (name_of_methodNamed Bd.named Bd.method).1 (by rw [← hh, Bd.state]; rfl)
theorem Go.iloadN (X : Stand p l e R s m args below meth c T locs cells slots) (hx : p.tables.exec = Jvm.exec) {k : Fin 4} {v : Int32} (hd : decode c.code pc = .ok (.iload_n k, 1)) (hl : Ls[k.val]? = some (.val (.int v))) (h : Go p e below F Q T (mkF m (pc + 1) Ls (.int v :: S))) : Go p e below F Q T (mkF m pc Ls S) := h.st fun _ k => XS.iloadN X.here hx rfl hd hl k
theorem Go.iload (X : Stand p l e R s m args below meth c T locs cells slots) (hx : p.tables.exec = Jvm.exec) {k : Nat} {v : Int32} (hd : decode c.code pc = .ok (.iload k, 2)) (hl : Ls[k]? = some (.val (.int v))) (h : Go p e below F Q T (mkF m (pc + 2) Ls (.int v :: S))) : Go p e below F Q T (mkF m pc Ls S) := h.st fun _ k => XS.iload X.here hx rfl hd hl k
theorem Go.istoreN (X : Stand p l e R s m args below meth c T locs cells slots) (hx : p.tables.exec = Jvm.exec) {k : Fin 4} {x : Int32} {l' : Array Slot} (hd : decode c.code pc = .ok (.istore_n k, 1)) (hl : storeLocals Ls k.val (.int x) = some l') (h : Go p e below F Q T (mkF m (pc + 1) l' S)) : Go p e below F Q T (mkF m pc Ls (.int x :: S)) := h.st fun _ k => XS.istoreN X.here hx rfl hd rfl hl k
theorem Go.istore (X : Stand p l e R s m args below meth c T locs cells slots) (hx : p.tables.exec = Jvm.exec) {k : Nat} {x : Int32} {l' : Array Slot} (hd : decode c.code pc = .ok (.istore k, 2)) (hl : storeLocals Ls k (.int x) = some l') (h : Go p e below F Q T (mkF m (pc + 2) l' S)) : Go p e below F Q T (mkF m pc Ls (.int x :: S)) := h.st fun _ k => XS.istore X.here hx rfl hd rfl hl k
theorem Go.lloadN (X : Stand p l e R s m args below meth c T locs cells slots) (hx : p.tables.exec = Jvm.exec) {k : Fin 4} {v : Int64} (hd : decode c.code pc = .ok (.lload_n k, 1)) (hl : Ls[k.val]? = some (.val (.long v))) (h : Go p e below F Q T (mkF m (pc + 1) Ls (.long v :: S))) : Go p e below F Q T (mkF m pc Ls S) := h.st fun _ k => XS.lloadN X.here hx rfl hd hl k
theorem Go.lload (X : Stand p l e R s m args below meth c T locs cells slots) (hx : p.tables.exec = Jvm.exec) {k : Nat} {v : Int64} (hd : decode c.code pc = .ok (.lload k, 2)) (hl : Ls[k]? = some (.val (.long v))) (h : Go p e below F Q T (mkF m (pc + 2) Ls (.long v :: S))) : Go p e below F Q T (mkF m pc Ls S) := h.st fun _ k => XS.lload X.here hx rfl hd hl k
theorem Go.lstoreN (X : Stand p l e R s m args below meth c T locs cells slots) (hx : p.tables.exec = Jvm.exec) {k : Fin 4} {x : Int64} {l' : Array Slot} (hd : decode c.code pc = .ok (.lstore_n k, 1)) (hl : storeLocals Ls k.val (.long x) = some l') (h : Go p e below F Q T (mkF m (pc + 1) l' S)) : Go p e below F Q T (mkF m pc Ls (.long x :: S)) := h.st fun _ k => XS.lstoreN X.here hx rfl hd rfl hl k
theorem Go.lstore (X : Stand p l e R s m args below meth c T locs cells slots) (hx : p.tables.exec = Jvm.exec) {k : Nat} {x : Int64} {l' : Array Slot} (hd : decode c.code pc = .ok (.lstore k, 2)) (hl : storeLocals Ls k (.long x) = some l') (h : Go p e below F Q T (mkF m (pc + 2) l' S)) : Go p e below F Q T (mkF m pc Ls (.long x :: S)) := h.st fun _ k => XS.lstore X.here hx rfl hd rfl hl k
theorem Go.aloadN (X : Stand p l e R s m args below meth c T locs cells slots) (hx : p.tables.exec = Jvm.exec) {k : Fin 4} {v : Value} (hd : decode c.code pc = .ok (.aload_n k, 1)) (hl : Ls[k.val]? = some (.val v)) (hv : v.isRef = true) (h : Go p e below F Q T (mkF m (pc + 1) Ls (v :: S))) : Go p e below F Q T (mkF m pc Ls S) := h.st fun _ k => XS.aloadN X.here hx rfl hd hl hv k
theorem Go.aload (X : Stand p l e R s m args below meth c T locs cells slots) (hx : p.tables.exec = Jvm.exec) {k : Nat} {v : Value} (hd : decode c.code pc = .ok (.aload k, 2)) (hl : Ls[k]? = some (.val v)) (hv : v.isRef = true) (h : Go p e below F Q T (mkF m (pc + 2) Ls (v :: S))) : Go p e below F Q T (mkF m pc Ls S) := h.st fun _ k => XS.aload X.here hx rfl hd hl hv k
theorem Go.astoreN (X : Stand p l e R s m args below meth c T locs cells slots) (hx : p.tables.exec = Jvm.exec) {k : Fin 4} {x : Value} {l' : Array Slot} (hd : decode c.code pc = .ok (.astore_n k, 1)) (hv : x.isRef = true) (hl : storeLocals Ls k.val x = some l') (h : Go p e below F Q T (mkF m (pc + 1) l' S)) : Go p e below F Q T (mkF m pc Ls (x :: S)) := h.st fun _ k => XS.astoreN X.here hx rfl hd rfl hv hl k
theorem Go.astore (X : Stand p l e R s m args below meth c T locs cells slots) (hx : p.tables.exec = Jvm.exec) {k : Nat} {x : Value} {l' : Array Slot} (hd : decode c.code pc = .ok (.astore k, 2)) (hv : x.isRef = true) (hl : storeLocals Ls k x = some l') (h : Go p e below F Q T (mkF m (pc + 2) l' S)) : Go p e below F Q T (mkF m pc Ls (x :: S)) := h.st fun _ k => XS.astore X.here hx rfl hd rfl hv hl k
theorem Go.iconst (X : Stand p l e R s m args below meth c T locs cells slots) (hx : p.tables.exec = Jvm.exec) {i : Int} (v : Int32) (hd : decode c.code pc = .ok (.iconst i, 1)) (hv : Int32.ofInt i = v) (h : Go p e below F Q T (mkF m (pc + 1) Ls (.int v :: S))) : Go p e below F Q T (mkF m pc Ls S) := h.st fun _ k => XT.iconstV X.here hx rfl v hd hv k
theorem Go.bipush (X : Stand p l e R s m args below meth c T locs cells slots) (hx : p.tables.exec = Jvm.exec) {i : Int} (v : Int32) (hd : decode c.code pc = .ok (.bipush i, 2)) (hv : (Int8.ofInt i).toInt32 = v) (h : Go p e below F Q T (mkF m (pc + 2) Ls (.int v :: S))) : Go p e below F Q T (mkF m pc Ls S) := h.st fun _ k => XT.bipushV X.here hx rfl v hd hv k
theorem Go.sipush (X : Stand p l e R s m args below meth c T locs cells slots) (hx : p.tables.exec = Jvm.exec) {i : Int} (v : Int32) (hd : decode c.code pc = .ok (.sipush i, 3)) (hv : (Int16.ofInt i).toInt32 = v) (h : Go p e below F Q T (mkF m (pc + 3) Ls (.int v :: S))) : Go p e below F Q T (mkF m pc Ls S) := h.st fun _ k => XT.sipushV X.here hx rfl v hd hv k
theorem Go.lconst (X : Stand p l e R s m args below meth c T locs cells slots) (hx : p.tables.exec = Jvm.exec) {i : Fin 2} (v : Int64) (hd : decode c.code pc = .ok (.lconst i, 1)) (hv : Int64.ofNat i = v) (h : Go p e below F Q T (mkF m (pc + 1) Ls (.long v :: S))) : Go p e below F Q T (mkF m pc Ls S) := h.st fun _ k => XT.lconstV X.here hx rfl v hd hv k
theorem Go.aconstNull (X : Stand p l e R s m args below meth c T locs cells slots) (hx : p.tables.exec = Jvm.exec)  (hd : decode c.code pc = .ok (.aconst_null, 1))  (h : Go p e below F Q T (mkF m (pc + 1) Ls (.null :: S))) : Go p e below F Q T (mkF m pc Ls S) := h.st fun _ k => XS.aconstNull X.here hx rfl hd  k
theorem Go.iadd (X : Stand p l e R s m args below meth c T locs cells slots) (hx : p.tables.exec = Jvm.exec) {x y : Int32} (hd : decode c.code pc = .ok (.iadd, 1))  (h : Go p e below F Q T (mkF m (pc + 1) Ls (.int (x + y) :: S))) : Go p e below F Q T (mkF m pc Ls (.int y :: .int x :: S)) := h.st fun _ k => XS.iadd X.here hx rfl hd rfl k
theorem Go.isub (X : Stand p l e R s m args below meth c T locs cells slots) (hx : p.tables.exec = Jvm.exec) {x y : Int32} (hd : decode c.code pc = .ok (.isub, 1))  (h : Go p e below F Q T (mkF m (pc + 1) Ls (.int (x - y) :: S))) : Go p e below F Q T (mkF m pc Ls (.int y :: .int x :: S)) := h.st fun _ k => XS.isub X.here hx rfl hd rfl k
theorem Go.imul (X : Stand p l e R s m args below meth c T locs cells slots) (hx : p.tables.exec = Jvm.exec) {x y : Int32} (hd : decode c.code pc = .ok (.imul, 1))  (h : Go p e below F Q T (mkF m (pc + 1) Ls (.int (x * y) :: S))) : Go p e below F Q T (mkF m pc Ls (.int y :: .int x :: S)) := h.st fun _ k => XS.imul X.here hx rfl hd rfl k
theorem Go.iand (X : Stand p l e R s m args below meth c T locs cells slots) (hx : p.tables.exec = Jvm.exec) {x y : Int32} (hd : decode c.code pc = .ok (.iand, 1))  (h : Go p e below F Q T (mkF m (pc + 1) Ls (.int (x &&& y) :: S))) : Go p e below F Q T (mkF m pc Ls (.int y :: .int x :: S)) := h.st fun _ k => XS.iand X.here hx rfl hd rfl k
theorem Go.ior (X : Stand p l e R s m args below meth c T locs cells slots) (hx : p.tables.exec = Jvm.exec) {x y : Int32} (hd : decode c.code pc = .ok (.ior, 1))  (h : Go p e below F Q T (mkF m (pc + 1) Ls (.int (x ||| y) :: S))) : Go p e below F Q T (mkF m pc Ls (.int y :: .int x :: S)) := h.st fun _ k => XS.ior X.here hx rfl hd rfl k
theorem Go.ixor (X : Stand p l e R s m args below meth c T locs cells slots) (hx : p.tables.exec = Jvm.exec) {x y : Int32} (hd : decode c.code pc = .ok (.ixor, 1))  (h : Go p e below F Q T (mkF m (pc + 1) Ls (.int (x ^^^ y) :: S))) : Go p e below F Q T (mkF m pc Ls (.int y :: .int x :: S)) := h.st fun _ k => XS.ixor X.here hx rfl hd rfl k
theorem Go.idiv (X : Stand p l e R s m args below meth c T locs cells slots) (hx : p.tables.exec = Jvm.exec) {x y : Int32} (hd : decode c.code pc = .ok (.idiv, 1)) (hy : y ≠ 0) (h : Go p e below F Q T (mkF m (pc + 1) Ls (.int (x / y) :: S))) : Go p e below F Q T (mkF m pc Ls (.int y :: .int x :: S)) := h.st fun _ k => XS.idiv X.here hx rfl hd rfl hy k
theorem Go.ineg (X : Stand p l e R s m args below meth c T locs cells slots) (hx : p.tables.exec = Jvm.exec) {x : Int32} (hd : decode c.code pc = .ok (.ineg, 1))  (h : Go p e below F Q T (mkF m (pc + 1) Ls (.int (-x) :: S))) : Go p e below F Q T (mkF m pc Ls (.int x :: S)) := h.st fun _ k => XS.ineg X.here hx rfl hd rfl k
theorem Go.ladd (X : Stand p l e R s m args below meth c T locs cells slots) (hx : p.tables.exec = Jvm.exec) {x y : Int64} (hd : decode c.code pc = .ok (.ladd, 1))  (h : Go p e below F Q T (mkF m (pc + 1) Ls (.long (x + y) :: S))) : Go p e below F Q T (mkF m pc Ls (.long y :: .long x :: S)) := h.st fun _ k => XS.ladd X.here hx rfl hd rfl k
theorem Go.lsub (X : Stand p l e R s m args below meth c T locs cells slots) (hx : p.tables.exec = Jvm.exec) {x y : Int64} (hd : decode c.code pc = .ok (.lsub, 1))  (h : Go p e below F Q T (mkF m (pc + 1) Ls (.long (x - y) :: S))) : Go p e below F Q T (mkF m pc Ls (.long y :: .long x :: S)) := h.st fun _ k => XS.lsub X.here hx rfl hd rfl k
theorem Go.lmul (X : Stand p l e R s m args below meth c T locs cells slots) (hx : p.tables.exec = Jvm.exec) {x y : Int64} (hd : decode c.code pc = .ok (.lmul, 1))  (h : Go p e below F Q T (mkF m (pc + 1) Ls (.long (x * y) :: S))) : Go p e below F Q T (mkF m pc Ls (.long y :: .long x :: S)) := h.st fun _ k => XS.lmul X.here hx rfl hd rfl k
theorem Go.land (X : Stand p l e R s m args below meth c T locs cells slots) (hx : p.tables.exec = Jvm.exec) {x y : Int64} (hd : decode c.code pc = .ok (.land, 1))  (h : Go p e below F Q T (mkF m (pc + 1) Ls (.long (x &&& y) :: S))) : Go p e below F Q T (mkF m pc Ls (.long y :: .long x :: S)) := h.st fun _ k => XS.land X.here hx rfl hd rfl k
theorem Go.lor (X : Stand p l e R s m args below meth c T locs cells slots) (hx : p.tables.exec = Jvm.exec) {x y : Int64} (hd : decode c.code pc = .ok (.lor, 1))  (h : Go p e below F Q T (mkF m (pc + 1) Ls (.long (x ||| y) :: S))) : Go p e below F Q T (mkF m pc Ls (.long y :: .long x :: S)) := h.st fun _ k => XS.lor X.here hx rfl hd rfl k
theorem Go.lxor (X : Stand p l e R s m args below meth c T locs cells slots) (hx : p.tables.exec = Jvm.exec) {x y : Int64} (hd : decode c.code pc = .ok (.lxor, 1))  (h : Go p e below F Q T (mkF m (pc + 1) Ls (.long (x ^^^ y) :: S))) : Go p e below F Q T (mkF m pc Ls (.long y :: .long x :: S)) := h.st fun _ k => XS.lxor X.here hx rfl hd rfl k
theorem Go.ldiv (X : Stand p l e R s m args below meth c T locs cells slots) (hx : p.tables.exec = Jvm.exec) {x y : Int64} (hd : decode c.code pc = .ok (.ldiv, 1)) (hy : y ≠ 0) (h : Go p e below F Q T (mkF m (pc + 1) Ls (.long (x / y) :: S))) : Go p e below F Q T (mkF m pc Ls (.long y :: .long x :: S)) := h.st fun _ k => XS.ldiv X.here hx rfl hd rfl hy k
theorem Go.lneg (X : Stand p l e R s m args below meth c T locs cells slots) (hx : p.tables.exec = Jvm.exec) {x : Int64} (hd : decode c.code pc = .ok (.lneg, 1))  (h : Go p e below F Q T (mkF m (pc + 1) Ls (.long (-x) :: S))) : Go p e below F Q T (mkF m pc Ls (.long x :: S)) := h.st fun _ k => XS.lneg X.here hx rfl hd rfl k
theorem Go.irem (X : Stand p l e R s m args below meth c T locs cells slots) (hx : p.tables.exec = Jvm.exec) {x y : Int32} (hd : decode c.code pc = .ok (.irem, 1)) (hy : y ≠ 0) (h : Go p e below F Q T (mkF m (pc + 1) Ls (.int (x % y) :: S))) : Go p e below F Q T (mkF m pc Ls (.int y :: .int x :: S)) := h.st fun _ k => Jvm.RoadKit.iremM X hx rfl hd rfl hy k
theorem Go.lrem (X : Stand p l e R s m args below meth c T locs cells slots) (hx : p.tables.exec = Jvm.exec) {x y : Int64} (hd : decode c.code pc = .ok (.lrem, 1)) (hy : y ≠ 0) (h : Go p e below F Q T (mkF m (pc + 1) Ls (.long (x % y) :: S))) : Go p e below F Q T (mkF m pc Ls (.long y :: .long x :: S)) := h.st fun _ k => XS.lrem X.here hx rfl hd rfl hy (by rw [lrem_mod]; exact k)
theorem Go.ishl (X : Stand p l e R s m args below meth c T locs cells slots) (hx : p.tables.exec = Jvm.exec) {x : Int32} {y : Int32} (hd : decode c.code pc = .ok (.ishl, 1))  (h : Go p e below F Q T (mkF m (pc + 1) Ls (.int (x <<< (y &&& 31)) :: S))) : Go p e below F Q T (mkF m pc Ls (.int y :: .int x :: S)) := h.st fun _ k => XS.ishl X.here hx rfl hd rfl k
theorem Go.ishr (X : Stand p l e R s m args below meth c T locs cells slots) (hx : p.tables.exec = Jvm.exec) {x : Int32} {y : Int32} (hd : decode c.code pc = .ok (.ishr, 1))  (h : Go p e below F Q T (mkF m (pc + 1) Ls (.int (x >>> (y &&& 31)) :: S))) : Go p e below F Q T (mkF m pc Ls (.int y :: .int x :: S)) := h.st fun _ k => XS.ishr X.here hx rfl hd rfl k
theorem Go.iushr (X : Stand p l e R s m args below meth c T locs cells slots) (hx : p.tables.exec = Jvm.exec) {x : Int32} {y : Int32} (hd : decode c.code pc = .ok (.iushr, 1))  (h : Go p e below F Q T (mkF m (pc + 1) Ls (.int ((x.toUInt32 >>> (y &&& 31).toUInt32).toInt32) :: S))) : Go p e below F Q T (mkF m pc Ls (.int y :: .int x :: S)) := h.st fun _ k => XS.iushr X.here hx rfl hd rfl k
theorem Go.lshl (X : Stand p l e R s m args below meth c T locs cells slots) (hx : p.tables.exec = Jvm.exec) {x : Int64} {y : Int32} (hd : decode c.code pc = .ok (.lshl, 1))  (h : Go p e below F Q T (mkF m (pc + 1) Ls (.long (x <<< (y &&& 0x3f).toInt64) :: S))) : Go p e below F Q T (mkF m pc Ls (.int y :: .long x :: S)) := h.st fun _ k => XS.lshl X.here hx rfl hd rfl k
theorem Go.lshr (X : Stand p l e R s m args below meth c T locs cells slots) (hx : p.tables.exec = Jvm.exec) {x : Int64} {y : Int32} (hd : decode c.code pc = .ok (.lshr, 1))  (h : Go p e below F Q T (mkF m (pc + 1) Ls (.long (x >>> (y &&& 0x3f).toInt64) :: S))) : Go p e below F Q T (mkF m pc Ls (.int y :: .long x :: S)) := h.st fun _ k => XS.lshr X.here hx rfl hd rfl k
theorem Go.lushr (X : Stand p l e R s m args below meth c T locs cells slots) (hx : p.tables.exec = Jvm.exec) {x : Int64} {y : Int32} (hd : decode c.code pc = .ok (.lushr, 1))  (h : Go p e below F Q T (mkF m (pc + 1) Ls (.long ((x.toUInt64 >>> (y &&& 0x3f).toInt64.toUInt64).toInt64) :: S))) : Go p e below F Q T (mkF m pc Ls (.int y :: .long x :: S)) := h.st fun _ k => XS.lushr X.here hx rfl hd rfl k
theorem Go.i2l (X : Stand p l e R s m args below meth c T locs cells slots) (hx : p.tables.exec = Jvm.exec) {x : Int32} (hd : decode c.code pc = .ok (.i2l, 1))  (h : Go p e below F Q T (mkF m (pc + 1) Ls (.long (x.toInt64) :: S))) : Go p e below F Q T (mkF m pc Ls (.int x :: S)) := h.st fun _ k => XS.i2l X.here hx rfl hd rfl k
theorem Go.l2i (X : Stand p l e R s m args below meth c T locs cells slots) (hx : p.tables.exec = Jvm.exec) {x : Int64} (hd : decode c.code pc = .ok (.l2i, 1))  (h : Go p e below F Q T (mkF m (pc + 1) Ls (.int (x.toInt32) :: S))) : Go p e below F Q T (mkF m pc Ls (.long x :: S)) := h.st fun _ k => XS.l2i X.here hx rfl hd rfl k
theorem Go.i2b (X : Stand p l e R s m args below meth c T locs cells slots) (hx : p.tables.exec = Jvm.exec) {x : Int32} (hd : decode c.code pc = .ok (.i2b, 1))  (h : Go p e below F Q T (mkF m (pc + 1) Ls (.int (x.toInt8.toInt32) :: S))) : Go p e below F Q T (mkF m pc Ls (.int x :: S)) := h.st fun _ k => XS.i2b X.here hx rfl hd rfl k
theorem Go.i2s (X : Stand p l e R s m args below meth c T locs cells slots) (hx : p.tables.exec = Jvm.exec) {x : Int32} (hd : decode c.code pc = .ok (.i2s, 1))  (h : Go p e below F Q T (mkF m (pc + 1) Ls (.int (x.toInt16.toInt32) :: S))) : Go p e below F Q T (mkF m pc Ls (.int x :: S)) := h.st fun _ k => XS.i2s X.here hx rfl hd rfl k
theorem Go.i2c (X : Stand p l e R s m args below meth c T locs cells slots) (hx : p.tables.exec = Jvm.exec) {x : Int32} (hd : decode c.code pc = .ok (.i2c, 1))  (h : Go p e below F Q T (mkF m (pc + 1) Ls (.int (x.toUInt32.toUInt16.toUInt32.toInt32) :: S))) : Go p e below F Q T (mkF m pc Ls (.int x :: S)) := h.st fun _ k => XS.i2c X.here hx rfl hd rfl k
theorem Go.lcmp (X : Stand p l e R s m args below meth c T locs cells slots) (hx : p.tables.exec = Jvm.exec) {x y : Int64} (hd : decode c.code pc = .ok (.lcmp, 1))  (h : Go p e below F Q T (mkF m (pc + 1) Ls (.int (XT.cmpL x y) :: S))) : Go p e below F Q T (mkF m pc Ls (.long y :: .long x :: S)) := h.st fun _ k => XT.lcmp X.here hx rfl hd rfl k
theorem Go.dup (X : Stand p l e R s m args below meth c T locs cells slots) (hx : p.tables.exec = Jvm.exec) {x : Value} (hd : decode c.code pc = .ok (.dup, 1)) (hc : x.category = 1) (h : Go p e below F Q T (mkF m (pc + 1) Ls (x :: x :: S))) : Go p e below F Q T (mkF m pc Ls (x :: S)) := h.st fun _ k => XS.dup X.here hx rfl hd rfl hc k
theorem Go.pop (X : Stand p l e R s m args below meth c T locs cells slots) (hx : p.tables.exec = Jvm.exec) {x : Value} (hd : decode c.code pc = .ok (.pop, 1)) (hc : x.category = 1) (h : Go p e below F Q T (mkF m (pc + 1) Ls S)) : Go p e below F Q T (mkF m pc Ls (x :: S)) := h.st fun _ k => XS.pop X.here hx rfl hd rfl hc k
theorem Go.dupX1 (X : Stand p l e R s m args below meth c T locs cells slots) (hx : p.tables.exec = Jvm.exec) {x y : Value} (hd : decode c.code pc = .ok (.dup_x1, 1)) (hc : x.category = 1) (hc' : y.category = 1) (h : Go p e below F Q T (mkF m (pc + 1) Ls (x :: y :: x :: S))) : Go p e below F Q T (mkF m pc Ls (x :: y :: S)) := h.st fun _ k => XS.dupX1 X.here hx rfl hd rfl hc hc' k
theorem Go.iinc (X : Stand p l e R s m args below meth c T locs cells slots) (hx : p.tables.exec = Jvm.exec) {k : Nat} {cst : Int} {x : Int32} {l' : Array Slot} (v : Int32) (hd : decode c.code pc = .ok (.iinc k cst, 3)) (hv : Int32.ofInt cst = v) (hl : Ls[k]? = some (.val (.int x))) (hl' : storeLocals Ls k (.int (x + v)) = some l') (h : Go p e below F Q T (mkF m (pc + 3) l' S)) : Go p e below F Q T (mkF m pc Ls S) := h.st fun _ k => XT.iincV X.here hx rfl v hd hv hl hl' k
theorem Go.iincF (X : Stand p l e R s m args below meth c T locs cells slots) (hx : p.tables.exec = Jvm.exec) {k : Nat} {cst : Int} {x : Int32} {l' : Array Slot} (v z : Int32) (hd : decode c.code pc = .ok (.iinc k cst, 3)) (hv : Int32.ofInt cst = v) (hz : x + v = z) (hl : Ls[k]? = some (.val (.int x))) (hl' : storeLocals Ls k (.int z) = some l') (h : Go p e below F Q T (mkF m (pc + 3) l' S)) : Go p e below F Q T (mkF m pc Ls S) := Go.iinc X hx v hd hv hl (hz ▸ hl') h
theorem Go.istoreS (X : Stand p l e R s m args below meth c T locs cells slots) (hx : p.tables.exec = Jvm.exec) {k : Nat} {x : Int32} {o : Slot} (hd : decode c.code pc = .ok (.istore k, 2)) (hold : Ls[k]? = some o) (ho : One o) (h : Go p e below F Q T (mkF m (pc + 2) (Ls.setIfInBounds k (.val (.int x))) S)) : Go p e below F Q T (mkF m pc Ls (.int x :: S)) := h.st fun _ q => XS.istoreS X.here hx rfl hd rfl hold ho q
theorem Go.istoreNS (X : Stand p l e R s m args below meth c T locs cells slots) (hx : p.tables.exec = Jvm.exec) {k : Fin 4} {x : Int32} {o : Slot} (hd : decode c.code pc = .ok (.istore_n k, 1)) (hold : Ls[k.val]? = some o) (ho : One o) (h : Go p e below F Q T (mkF m (pc + 1) (Ls.setIfInBounds k.val (.val (.int x))) S)) : Go p e below F Q T (mkF m pc Ls (.int x :: S)) := h.st fun _ q => XS.istoreNS X.here hx rfl hd rfl hold ho q
theorem Go.goto (X : Stand p l e R s m args below meth c T locs cells slots) (hx : p.tables.exec = Jvm.exec) {o : Int} {pc' : Nat} (hd : decode c.code pc = .ok (.goto o, 3)) (ho : 0 ≤ (pc : Int) + o) (hp : ((pc : Int) + o).toNat = pc') (h : Go p e below F Q T (mkF m pc' Ls S)) : Go p e below F Q T (mkF m pc Ls S) := h.st fun _ k => XS.goto X.here hx rfl rfl hd ho hp k
theorem Go.ifYes (X : Stand p l e R s m args below meth c T locs cells slots) (hx : p.tables.exec = Jvm.exec) {cd : ClassFile.Cond} {x : Int32} {o : Int} {pc' : Nat} (hd : decode c.code pc = .ok (.ifCond cd o, 3)) (hc : ifCond.holds cd x = true) (ho : 0 ≤ (pc : Int) + o) (hp : ((pc : Int) + o).toNat = pc') (h : Go p e below F Q T (mkF m pc' Ls S)) : Go p e below F Q T (mkF m pc Ls (.int x :: S)) := h.st fun _ k => XS.ifYes X.here hx rfl rfl hd rfl hc ho hp k
theorem Go.ifNo (X : Stand p l e R s m args below meth c T locs cells slots) (hx : p.tables.exec = Jvm.exec) {cd : ClassFile.Cond} {x : Int32} {o : Int} (hd : decode c.code pc = .ok (.ifCond cd o, 3)) (hc : ifCond.holds cd x = false) (h : Go p e below F Q T (mkF m (pc + 3) Ls S)) : Go p e below F Q T (mkF m pc Ls (.int x :: S)) := h.st fun _ k => XS.ifNo X.here hx rfl hd rfl hc k
theorem Go.icmpYes (X : Stand p l e R s m args below meth c T locs cells slots) (hx : p.tables.exec = Jvm.exec) {cd : ClassFile.Cond} {x y : Int32} {o : Int} {pc' : Nat} (hd : decode c.code pc = .ok (.if_icmp cd o, 3)) (hc : if_icmp.holds cd x y = true) (ho : 0 ≤ (pc : Int) + o) (hp : ((pc : Int) + o).toNat = pc') (h : Go p e below F Q T (mkF m pc' Ls S)) : Go p e below F Q T (mkF m pc Ls (.int y :: .int x :: S)) := h.st fun _ k => XS.icmpYes X.here hx rfl rfl hd rfl hc ho hp k
theorem Go.icmpNo (X : Stand p l e R s m args below meth c T locs cells slots) (hx : p.tables.exec = Jvm.exec) {cd : ClassFile.Cond} {x y : Int32} {o : Int} (hd : decode c.code pc = .ok (.if_icmp cd o, 3)) (hc : if_icmp.holds cd x y = false) (h : Go p e below F Q T (mkF m (pc + 3) Ls S)) : Go p e below F Q T (mkF m pc Ls (.int y :: .int x :: S)) := h.st fun _ k => XS.icmpNo X.here hx rfl hd rfl hc k
theorem Go.ifnullYes (X : Stand p l e R s m args below meth c T locs cells slots) (hx : p.tables.exec = Jvm.exec) {o : Int} {pc' : Nat} (hd : decode c.code pc = .ok (.ifnull o, 3)) (ho : 0 ≤ (pc : Int) + o) (hp : ((pc : Int) + o).toNat = pc') (h : Go p e below F Q T (mkF m pc' Ls S)) : Go p e below F Q T (mkF m pc Ls (.null :: S)) := h.st fun _ k => XS.ifnullYes X.here hx rfl rfl hd rfl ho hp k
theorem Go.ifnullNo (X : Stand p l e R s m args below meth c T locs cells slots) (hx : p.tables.exec = Jvm.exec) {o : Int} {b : Addr} (hd : decode c.code pc = .ok (.ifnull o, 3)) (h : Go p e below F Q T (mkF m (pc + 3) Ls S)) : Go p e below F Q T (mkF m pc Ls (.ref b :: S)) := h.st fun _ k => XS.ifnullNo X.here hx rfl hd rfl k
theorem Go.ifnonnullYes (X : Stand p l e R s m args below meth c T locs cells slots) (hx : p.tables.exec = Jvm.exec) {o : Int} {b : Addr} {pc' : Nat} (hd : decode c.code pc = .ok (.ifnonnull o, 3)) (ho : 0 ≤ (pc : Int) + o) (hp : ((pc : Int) + o).toNat = pc') (h : Go p e below F Q T (mkF m pc' Ls S)) : Go p e below F Q T (mkF m pc Ls (.ref b :: S)) := h.st fun _ k => XS.ifnonnullYes X.here hx rfl rfl hd rfl ho hp k
theorem Go.ifnonnullNo (X : Stand p l e R s m args below meth c T locs cells slots) (hx : p.tables.exec = Jvm.exec) {o : Int} (hd : decode c.code pc = .ok (.ifnonnull o, 3)) (h : Go p e below F Q T (mkF m (pc + 3) Ls S)) : Go p e below F Q T (mkF m pc Ls (.null :: S)) := h.st fun _ k => XS.ifnonnullNo X.here hx rfl hd rfl k
theorem Go.acmpYes (X : Stand p l e R s m args below meth c T locs cells slots) (hx : p.tables.exec = Jvm.exec) {cd : ClassFile.ACond} {x y : Value} {o : Int} {pc' : Nat} (hd : decode c.code pc = .ok (.if_acmp cd o, 3)) (hx' : x.isRef = true) (hy' : y.isRef = true) (hc : XT.acmp cd x y = true) (ho : 0 ≤ (pc : Int) + o) (hp : ((pc : Int) + o).toNat = pc') (h : Go p e below F Q T (mkF m pc' Ls S)) : Go p e below F Q T (mkF m pc Ls (y :: x :: S)) := h.st fun _ k => XT.acmpYes X.here hx rfl rfl hd rfl hx' hy' hc ho hp k
theorem Go.acmpNo (X : Stand p l e R s m args below meth c T locs cells slots) (hx : p.tables.exec = Jvm.exec) {cd : ClassFile.ACond} {x y : Value} {o : Int} (hd : decode c.code pc = .ok (.if_acmp cd o, 3)) (hx' : x.isRef = true) (hy' : y.isRef = true) (hc : XT.acmp cd x y = false) (h : Go p e below F Q T (mkF m (pc + 3) Ls S)) : Go p e below F Q T (mkF m pc Ls (y :: x :: S)) := h.st fun _ k => XT.acmpNo X.here hx rfl hd rfl hx' hy' hc k
theorem Go.ldcI (X : Stand p l e R s m args below meth c T locs cells slots) (hx : p.tables.exec = Jvm.exec) (hZ : Z.Warmed39 s.vm) {index : Nat} {v : Int32} (hown : s.vm.findClass own = some m.cls) (w : (Jvm.Cond.constant own index v).before a0 Z = true) (hd : decode c.code pc = .ok (.ldc index, 2)) (h : Go p e below F Q T (mkF m (pc + 2) Ls (.int v :: S))) : Go p e below F Q T (mkF m pc Ls S) := h.st fun _ k => Jvm.Stand.ldcI X hx hown (mvT hZ w) rfl hd k
theorem Go.ldcWI (X : Stand p l e R s m args below meth c T locs cells slots) (hx : p.tables.exec = Jvm.exec) (hZ : Z.Warmed39 s.vm) {index : Nat} {v : Int32} (hown : s.vm.findClass own = some m.cls) (w : (Jvm.Cond.constant own index v).before a0 Z = true) (hd : decode c.code pc = .ok (.ldc_w index, 3)) (h : Go p e below F Q T (mkF m (pc + 3) Ls (.int v :: S))) : Go p e below F Q T (mkF m pc Ls S) := h.st fun _ k => Jvm.Stand.ldcWI X hx hown (mvT hZ w) rfl hd k
theorem Go.ldc2J (X : Stand p l e R s m args below meth c T locs cells slots) (hx : p.tables.exec = Jvm.exec) (hZ : Z.Warmed39 s.vm) {index : Nat} {v : Int64} (hown : s.vm.findClass own = some m.cls) (w : (Jvm.Cond.constantLong own index v).before a0 Z = true) (hd : decode c.code pc = .ok (.ldc2_w index, 3)) (h : Go p e below F Q T (mkF m (pc + 3) Ls (.long v :: S))) : Go p e below F Q T (mkF m pc Ls S) := h.st fun _ k => Jvm.Stand.ldc2J X hx hown (mvT hZ w) rfl hd k
theorem Go.retN (X : Stand p l e R s m args below meth c T locs cells slots) (hx : p.tables.exec = Jvm.exec) {t : FieldType} {z : Int32} (hret : meth.sig.returnType = some t) (hlk : meth.locks = false) (ht : t = .boolean ∨ t = .byte ∨ t = .char ∨ t = .short) (hd : decode c.code pc = .ok (.ireturn, 1)) (hC : cells ≤ C) (hN : slots ≤ N) (hQ : Q (some (.int (nar t z))) T.heap locs) : Go p e below (FE s C N) Q T (mkF m pc Ls (.int z :: S)) := by
  obtain ⟨fs, hr, hrun, hended, hW, hsame⟩ := X.leave (v := some (.int (nar t z))) (fun h => by rw [hret] at h; cases h) hlk
  exact ⟨_, _, Jvm.RoadKit.retN X hx hret ht hd hr, hrun, hended, _, _, rfl, hQ, ⟨_, rfl⟩, hW, hsame.mono hC hN⟩
theorem Go.retI (X : Stand p l e R s m args below meth c T locs cells slots) (hx : p.tables.exec = Jvm.exec) {z : Int32} (hret : meth.sig.returnType = some .int) (hlk : meth.locks = false) (hd : decode c.code pc = .ok (.ireturn, 1)) (hC : cells ≤ C) (hN : slots ≤ N) (hQ : Q (some (.int z)) T.heap locs) : Go p e below (FE s C N) Q T (mkF m pc Ls (.int z :: S)) := by
  obtain ⟨fs, hr, hrun, hended, hW, hsame⟩ := X.leave (v := some (.int z)) (fun h => by rw [hret] at h; cases h) hlk
  exact ⟨_, _, retOut X hx hret rfl (Or.inl ⟨rfl, Or.inl rfl, _, rfl⟩) hd hr, hrun, hended, _, _, rfl, hQ, ⟨_, rfl⟩, hW, hsame.mono hC hN⟩
theorem Go.retJ (X : Stand p l e R s m args below meth c T locs cells slots) (hx : p.tables.exec = Jvm.exec) {z : Int64} (hret : meth.sig.returnType = some .long) (hlk : meth.locks = false) (hd : decode c.code pc = .ok (.lreturn, 1)) (hC : cells ≤ C) (hN : slots ≤ N) (hQ : Q (some (.long z)) T.heap locs) : Go p e below (FE s C N) Q T (mkF m pc Ls (.long z :: S)) := by
  obtain ⟨fs, hr, hrun, hended, hW, hsame⟩ := X.leave (v := some (.long z)) (fun h => by rw [hret] at h; cases h) hlk
  exact ⟨_, _, retOut X hx hret rfl (Or.inr (Or.inl ⟨rfl, rfl, _, rfl⟩)) hd hr, hrun, hended, _, _, rfl, hQ, ⟨_, rfl⟩, hW, hsame.mono hC hN⟩
theorem Go.retA (X : Stand p l e R s m args below meth c T locs cells slots) (hx : p.tables.exec = Jvm.exec) {w : Value} {t : FieldType} (hret : meth.sig.returnType = some t) (hlk : meth.locks = false) (ht : t.isReference = true) (hw : w.isRef = true) (hn : narrow t w = w) (hd : decode c.code pc = .ok (.areturn, 1)) (hC : cells ≤ C) (hN : slots ≤ N) (hQ : Q (some w) T.heap locs) : Go p e below (FE s C N) Q T (mkF m pc Ls (w :: S)) := by
  obtain ⟨fs, hr, hrun, hended, hW, hsame⟩ := X.leave (v := some w) (fun h => by rw [hret] at h; cases h) hlk
  exact ⟨_, _, retOut X hx hret hn (Or.inr (Or.inr (Or.inr (Or.inr ⟨rfl, ht, hw⟩)))) hd hr, hrun, hended, _, _, rfl, hQ, ⟨_, rfl⟩, hW, hsame.mono hC hN⟩
theorem Go.retV (X : Stand p l e R s m args below meth c T locs cells slots) (hx : p.tables.exec = Jvm.exec) (hret : meth.sig.returnType = none) (hlk : meth.locks = false) (hd : decode c.code pc = .ok (.return_, 1)) (hC : cells ≤ C) (hN : slots ≤ N) (hQ : Q none T.heap locs) : Go p e below (FE s C N) Q T (mkF m pc Ls []) := by
  obtain ⟨fs, hr, hrun, hended, hW, hsame⟩ := X.leave (v := none) (fun _ => rfl) hlk
  exact ⟨_, _, X.returnOut hx hret hd hr, hrun, hended, _, _, rfl, hQ, ⟨_, rfl⟩, hW, hsame.mono hC hN⟩
theorem Go.getF (X : Stand p l e R s m args below meth c T locs cells slots) (hx : p.tables.exec = Jvm.exec) (hZ : Z.Warmed39 s.vm) {R0 O n d host : String} {index : Nat} (hown : s.vm.findClass own = some m.cls) (w : (Jvm.Cond.fieldLink own index R0 n d).before a0 Z = true ∨ (Jvm.Cond.fieldLinkNest own index R0 n d host).before a0 Z = true) (via : Via Z R0 O n d) (eT : T.heap = h) {a : Addr} {v : Value} (Fl : Fld Z h a O n d v) (hd : decode c.code pc = .ok (.getfield index, 3)) (k : ∀ T', Stand p l e R s m args below meth c T' locs cells slots → T'.heap = h → Go p e below F Q T' (mkF m (pc + 3) Ls (v :: S))) : Go p e below F Q T (mkF m pc Ls (.ref a :: S)) := by
  obtain ⟨T', X', e', st⟩ := Jvm.RoadKit.getF X hx hZ hown w via eT Fl (g := mkF m pc Ls (.ref a :: S)) rfl rfl hd
  exact (k T' X' e').st st
theorem Go.getS (X : Stand p l e R s m args below meth c T locs cells slots) (hx : p.tables.exec = Jvm.exec) (hZ : Z.Warmed39 s.vm) {R0 O n d host : String} {index : Nat} (hown : s.vm.findClass own = some m.cls) (w : (Jvm.Cond.fieldLink own index R0 n d).before a0 Z = true ∨ (Jvm.Cond.fieldLinkNest own index R0 n d host).before a0 Z = true) (via : Via Z R0 O n d) (eT : T.heap = h) {v : Value} (Fl : Sta Z h O n d v) (hd : decode c.code pc = .ok (.getstatic index, 3)) (k : ∀ T', Stand p l e R s m args below meth c T' locs cells slots → T'.heap = h → Go p e below F Q T' (mkF m (pc + 3) Ls (v :: S))) : Go p e below F Q T (mkF m pc Ls S) := by
  obtain ⟨T', X', e', st⟩ := getS2 X hx hZ hown w via eT Fl (g := mkF m pc Ls S) rfl hd
  exact (k T' X' e').st st
theorem Go.putF (X : Stand p l e R s m args below meth c T locs cells slots) (hx : p.tables.exec = Jvm.exec) (hZ : Z.Warmed39 s.vm) {R0 O n d host K : String} {index kk : Nat} {ty : FieldType} (hown : s.vm.findClass own = some m.cls) (w : (Jvm.Cond.fieldLink own index R0 n d).before a0 Z = true ∨ (Jvm.Cond.fieldLinkNest own index R0 n d host).before a0 Z = true) (via : Via Z R0 O n d) (eT : T.heap = h) {a : Addr} {v old : Value} (Fl : Fld Z h a O n d old) (E : Exa Z h a K) (L : (Jvm.Cond.lays K O n d).before a0 Z = true ∨ ((Jvm.Cond.laysFinal K O n d).before a0 Z = true ∧ own = O ∧ meth.name = "<init>")) (wi : (Jvm.Cond.instantiable K kk).before a0 Z = true) (hty : parseFieldDescriptor d = some ty) (hn : narrow ty v = v) (hf : fits ty v = true) (hd : decode c.code pc = .ok (.putfield index, 3)) (k : ∀ T' h', Stand p l e R s m args below meth c T' (locs ++ [⟨a, Jvm.RoadKit.slotOf Z O n d⟩]) cells slots → T'.heap = h' → Wr h h' a (Jvm.RoadKit.slotOf Z O n d) v → Go p e below F Q T' (mkF m (pc + 3) Ls S)) : Go p e below F Q T (mkF m pc Ls (v :: .ref a :: S)) := by
  obtain ⟨T', h', X', e', W', st⟩ := Jvm.RoadKit.putF X hx hZ hown w via eT Fl E L wi hty hn hf (g := mkF m pc Ls (v :: .ref a :: S)) rfl rfl hd
  exact (k T' h' X' e' W').st st
theorem Go.newO (X : Stand p l e R s m args below meth c T locs cells slots) (hx : p.tables.exec = Jvm.exec) (hZ : Z.Warmed39 s.vm) {K : String} {index n : Nat} (hown : s.vm.findClass own = some m.cls) (w : (Jvm.Cond.classLink own index K).before a0 Z = true) (wi : (Jvm.Cond.instantiable K n).before a0 Z = true) (wz : (Jvm.Cond.initialized K).before a0 Z = true) (eT : T.heap = h) (hd : decode c.code pc = .ok (.new index, 3)) (hc : cells + 1 ≤ R.cells) (hl : slots + n ≤ R.slots) (k : ∀ T' h' a, a = h.size → Stand p l e R s m args below meth c T' locs (cells + 1) (slots + n) → T'.heap = h' → Ext h h' → Exa Z h' a K → (∀ {O nm d : String} {ty : FieldType}, Laid Z a0 K O nm d → parseFieldDescriptor d = some ty → Fld Z h' a O nm d (defaultValue ty)) → Go p e below F Q T' (mkF m (pc + 3) Ls (.ref a :: S))) : Go p e below F Q T (mkF m pc Ls S) := by
  obtain ⟨T', h', X', e', E', A', D', -, st⟩ := Jvm.RoadKit.newO X hx hZ hown w wi wz eT (g := mkF m pc Ls S) rfl hd hc hl
  exact (k T' h' _ rfl X' e' E' A' D').st st
theorem Go.initO (X : Stand p l e R s m args below meth c T locs cells slots) (hx : p.tables.exec = Jvm.exec) (hZ : Z.Warmed39 s.vm) {idx : Nat} (hown : s.vm.findClass own = some m.cls) (w1 : (Jvm.Cond.methodLink own idx Lib.objectInit).before a0 Z = true) (w2 : (Jvm.Cond.instanceMethod Lib.objectInit).before a0 Z = true) (w3 : (Jvm.Cond.code Lib.objectInit ⟨#[0xb1]⟩ 1 none).before a0 Z = true) (eT : T.heap = h) (hsize : Ls.size = c.maxLocals) {a : Addr} (hd : decode c.code pc = .ok (.invokespecial idx, 3)) (hf : 1 ≤ R.frames) {W : Nat} (hW : (S.map fun v => v.category).sum ≤ W) (hl : W + 12 ≤ R.locals) (k : ∀ T', Stand p l e R s m args below meth c T' locs cells slots → T'.heap = h → Go p e below F Q T' (mkF m (pc + 3) Ls S)) : Go p e below F Q T (mkF m pc Ls (.ref a :: S)) := by
  obtain ⟨T', X', e', st⟩ := Jvm.RoadKit.initO X hx hZ hown w1 w2 w3 eT (g := mkF m pc Ls (.ref a :: S)) rfl hsize rfl hd hf (W := W) (by show 2 * 0 + _ ≤ _; omega) hl
  exact (k T' X' e').st st
theorem Go.callS (X : Stand p l e R s m args below meth c T locs cells slots) (hx : p.tables.exec = Jvm.exec) (hZ : Z.Warmed39 s.vm) {index : Nat} {y : MethodName} {bytes : ByteArray} {maxL : Nat} {ret : Option FieldType} {rm : Room} {as' : Array Value} {Qy : Option Value → Heap → List Loc → Prop} (hM : MetFree l y (head1 [Jvm.Cond.code y bytes maxL ret] rm) (fun a U => a = as' ∧ Z.Warmed39 U.vm ∧ U.heap = h) (fun _ _ _ _ _ => True) (fun _ U o U' => ∃ v L, o = .returned v ∧ Qy v U'.heap L ∧ FrameEnd U o U' L rm.cells rm.slots)) (hown : s.vm.findClass own = some m.cls) (wl : (Jvm.Cond.methodLink own index y).before a0 Z = true) (ws : (Jvm.Cond.static y).before a0 Z = true) (wi : (Jvm.Cond.initialized y.cls).before a0 Z = true) (wc : (Jvm.Cond.code y bytes maxL ret).before a0 Z = true) (hy : y.cls ≠ "java/lang/invoke/MethodHandle" ∧ y.cls ≠ "java/lang/invoke/VarHandle") (eT : T.heap = h) {W : Nat} (hsize : Ls.size = c.maxLocals) {argsL : List Value} (hW : (S.map fun v => v.category).sum ≤ W) (hf : rm.frames + 1 ≤ R.frames) (hl : W + (maxL + 11) + rm.locals ≤ R.locals) (hc : cells + rm.cells ≤ R.cells) (hs : slots + rm.slots ≤ R.slots) {ps : List FieldType} {r : Option FieldType} (hds : parseMethodDescriptor y.desc = some ⟨ps, r⟩) (hlen : argsL.length = ps.length) (has : argsL.toArray = as') (hd : decode c.code pc = .ok (.invokestatic index, 3)) (k : ∀ v T' L, Stand p l e R s m args below meth c T' (locs ++ L) (cells + rm.cells) (slots + rm.slots) → Qy v T'.heap L → Go p e below F Q T' (mkF m (pc + 3) Ls (v.toList ++ S))) : Go p e below F Q T (mkF m pc Ls (argsL.reverse ++ S)) := by
  obtain ⟨_, _, ⟨T', L', k', n'⟩, -, X', ⟨L, hq, e1, e2, e3⟩, st⟩ := Jvm.LawKit.callS X hx hown (mvT hZ wl) (mvT hZ ws) (mvT hZ wi) (mvT hZ wc) hy (backOf (W := W) hM hZ wc wi hf hl) (g := mkF m pc Ls (argsL.reverse ++ S)) rfl hsize (argsL := argsL) (rest := S) (lenOf hds hlen) rfl (by show 2 * 0 + _ ≤ _; omega) hd (fun _ _ => ⟨has, eT, hc, hs⟩)
  dsimp only [Pt.U, Pt.locs, Pt.cells, Pt.slots] at X' e1 e2 e3 st hq
  subst e1 e2 e3
  exact (k _ _ _ X' hq).st st
theorem Go.callI (X : Stand p l e R s m args below meth c T locs cells slots) (hx : p.tables.exec = Jvm.exec) (hZ : Z.Warmed39 s.vm) {index : Nat} {y : MethodName} {bytes : ByteArray} {maxL : Nat} {rm : Room} {as' : Array Value} {Qy : Option Value → Heap → List Loc → Prop} (hM : MetFree l y (head1 [Jvm.Cond.code y bytes maxL none] rm) (fun a U => a = as' ∧ Z.Warmed39 U.vm ∧ U.heap = h) (fun _ _ _ _ _ => True) (fun _ U o U' => ∃ v L, o = .returned v ∧ Qy v U'.heap L ∧ FrameEnd U o U' L rm.cells rm.slots)) (hy1 : y.name = "<init>") (hown : s.vm.findClass own = some m.cls) (wl : (Jvm.Cond.methodLink own index y).before a0 Z = true) (ws : (Jvm.Cond.instanceMethod y).before a0 Z = true) (wi : (Jvm.Cond.initialized y.cls).before a0 Z = true) (wc : (Jvm.Cond.code y bytes maxL none).before a0 Z = true) (hy : y.cls ≠ "java/lang/invoke/MethodHandle" ∧ y.cls ≠ "java/lang/invoke/VarHandle") (eT : T.heap = h) {a : Addr} {W : Nat} (hsize : Ls.size = c.maxLocals) {argsL : List Value} (hW : (S.map fun v => v.category).sum ≤ W) (hf : rm.frames + 1 ≤ R.frames) (hl : W + (maxL + 11) + rm.locals ≤ R.locals) (hc : cells + rm.cells ≤ R.cells) (hs : slots + rm.slots ≤ R.slots) {ps : List FieldType} {r : Option FieldType} (hds : parseMethodDescriptor y.desc = some ⟨ps, r⟩) (hlen : argsL.length = ps.length) (has : (.ref a :: argsL).toArray = as') (hd : decode c.code pc = .ok (.invokespecial index, 3)) (k : ∀ v T' L, Stand p l e R s m args below meth c T' (locs ++ L) (cells + rm.cells) (slots + rm.slots) → Qy v T'.heap L → Go p e below F Q T' (mkF m (pc + 3) Ls (v.toList ++ S))) : Go p e below F Q T (mkF m pc Ls (argsL.reverse ++ .ref a :: S)) := by
  obtain ⟨_, _, ⟨T', L', k', n'⟩, -, X', ⟨L, hq, e1, e2, e3⟩, st⟩ := X.specialBack hx hy1 hown (mvT hZ wl) (mvT hZ ws) (mvT hZ wc) hy (backOf (W := W) hM hZ wc wi hf hl) (g := mkF m pc Ls (argsL.reverse ++ .ref a :: S)) rfl hsize (Steps.refl _) (a := a) (argsL := argsL) (rest := S) (lenOf hds hlen) rfl (by show 2 * 0 + _ ≤ _; omega) hd (fun _ _ => ⟨has, eT, hc, hs⟩)
  dsimp only [Pt.U, Pt.locs, Pt.cells, Pt.slots] at X' e1 e2 e3 st hq
  subst e1 e2 e3
  exact (k _ _ _ X' hq).tr st
theorem Go.callV (X : Stand p l e R s m args below meth c T locs cells slots) (hx : p.tables.exec = Jvm.exec) (hZ : Z.Warmed39 s.vm) {index : Nat} {K : String} {y : MethodName} {bytes : ByteArray} {maxL : Nat} {ret : Option FieldType} {rm : Room} {as' : Array Value} {Qy : Option Value → Heap → List Loc → Prop} (hM : MetFree l y (head1 [Jvm.Cond.code y bytes maxL ret] rm) (fun a U => a = as' ∧ Z.Warmed39 U.vm ∧ U.heap = h) (fun _ _ _ _ _ => True) (fun _ U o U' => ∃ v L, o = .returned v ∧ Qy v U'.heap L ∧ FrameEnd U o U' L rm.cells rm.slots)) {y0 : MethodName} (hy : y0.cls ≠ "java/lang/invoke/MethodHandle" ∧ y0.cls ≠ "java/lang/invoke/VarHandle") (hown : s.vm.findClass own = some m.cls) (wl : (Jvm.Cond.methodLink own index y0).before a0 Z = true) (wd : (Jvm.Cond.declares y0).before a0 Z = true) (hnf : NotFace s y0) (wsel : (Jvm.Cond.selects K y0 y).before a0 Z = true) (ws : (Jvm.Cond.instanceMethod y).before a0 Z = true) (wi : (Jvm.Cond.initialized y.cls).before a0 Z = true) (wc : (Jvm.Cond.code y bytes maxL ret).before a0 Z = true) (eT : T.heap = h) {a : Addr} (E : Exa Z h a K) {W : Nat} (hsize : Ls.size = c.maxLocals) {argsL : List Value} (hW : (S.map fun v => v.category).sum ≤ W) (hf : rm.frames + 1 ≤ R.frames) (hl : W + (maxL + 11) + rm.locals ≤ R.locals) (hc : cells + rm.cells ≤ R.cells) (hs : slots + rm.slots ≤ R.slots) {ps : List FieldType} {r : Option FieldType} (hds : parseMethodDescriptor y0.desc = some ⟨ps, r⟩) (hlen : argsL.length = ps.length) (has : (.ref a :: argsL).toArray = as') (hd : decode c.code pc = .ok (.invokevirtual index, 3)) (k : ∀ v T' L, Stand p l e R s m args below meth c T' (locs ++ L) (cells + rm.cells) (slots + rm.slots) → Qy v T'.heap L → Go p e below F Q T' (mkF m (pc + 3) Ls (v.toList ++ S))) : Go p e below F Q T (mkF m pc Ls (argsL.reverse ++ .ref a :: S)) := by
  obtain ⟨cq, kq, q1, q2, q3⟩ := isOf hZ eT E
  obtain ⟨_, _, ⟨T', L', k', n'⟩, -, X', ⟨L, hq, e1, e2, e3⟩, st⟩ := X.virtualBack hx hown (mvT hZ wl) (mvT hZ wd) hnf (mvT hZ wsel) (mvT hZ ws) hy (backOf (W := W) hM hZ wc wi hf hl) q1 q3 (g := mkF m pc Ls (argsL.reverse ++ .ref a :: S)) rfl hsize (Steps.refl _) (argsL := argsL) (rest := S) (lenOf hds hlen) rfl (by show 2 * 0 + _ ≤ _; omega) hd (fun _ _ => ⟨has, eT, hc, hs⟩)
  dsimp only [Pt.U, Pt.locs, Pt.cells, Pt.slots] at X' e1 e2 e3 st hq
  subst e1 e2 e3
  exact (k _ _ _ X' hq).tr st
theorem Go.instY (X : Stand p l e R s m args below meth c T locs cells slots) (hx : p.tables.exec = Jvm.exec) (hZ : Z.Warmed39 s.vm) {K : String} {index : Nat} (hown : s.vm.findClass own = some m.cls) (w : (Jvm.Cond.classLink own index K).before a0 Z = true) (eT : T.heap = h) {a : Addr} (Fl : Ins Z h a K true) (hd : decode c.code pc = .ok (.instanceof index, 3)) (k : ∀ T', Stand p l e R s m args below meth c T' locs cells slots → T'.heap = h → Go p e below F Q T' (mkF m (pc + 3) Ls (.int 1 :: S))) : Go p e below F Q T (mkF m pc Ls (.ref a :: S)) := by
  obtain ⟨T', X', e', st⟩ := Jvm.RoadKit.instY X hx hZ hown w eT Fl (g := mkF m pc Ls (.ref a :: S)) rfl rfl hd
  exact (k T' X' e').st st
theorem Go.castY (X : Stand p l e R s m args below meth c T locs cells slots) (hx : p.tables.exec = Jvm.exec) (hZ : Z.Warmed39 s.vm) {K : String} {index : Nat} (hown : s.vm.findClass own = some m.cls) (w : (Jvm.Cond.classLink own index K).before a0 Z = true) (eT : T.heap = h) {a : Addr} (Fl : Ins Z h a K true) (hd : decode c.code pc = .ok (.checkcast index, 3)) (k : ∀ T', Stand p l e R s m args below meth c T' locs cells slots → T'.heap = h → Go p e below F Q T' (mkF m (pc + 3) Ls (.ref a :: S))) : Go p e below F Q T (mkF m pc Ls (.ref a :: S)) := by
  obtain ⟨T', X', e', st⟩ := Jvm.RoadKit.castY X hx hZ hown w eT Fl (g := mkF m pc Ls (.ref a :: S)) rfl rfl hd
  exact (k T' X' e').st st
theorem Go.instNo (X : Stand p l e R s m args below meth c T locs cells slots) (hx : p.tables.exec = Jvm.exec) (hZ : Z.Warmed39 s.vm) {K K0 : String} {index : Nat} (hown : s.vm.findClass own = some m.cls) (w : (Jvm.Cond.classLink own index K).before a0 Z = true) (eT : T.heap = h) {a : Addr} (E : Exa Z h a K0) (Fl : ∃ c t, Z.vm.findClass K0 = some c ∧ Z.vm.findClass K = some t ∧ Z.vm.assignable c t = false) (hd : decode c.code pc = .ok (.instanceof index, 3)) (k : ∀ T', Stand p l e R s m args below meth c T' locs cells slots → T'.heap = h → Go p e below F Q T' (mkF m (pc + 3) Ls (.int 0 :: S))) : Go p e below F Q T (mkF m pc Ls (.ref a :: S)) := by
  obtain ⟨T', X', e', st⟩ := Jvm.RoadKit.instNo X hx hZ hown w eT E Fl (g := mkF m pc Ls (.ref a :: S)) rfl rfl hd
  exact (k T' X' e').st st
theorem Go.instNull (X : Stand p l e R s m args below meth c T locs cells slots) (hx : p.tables.exec = Jvm.exec) {index : Nat} (hd : decode c.code pc = .ok (.instanceof index, 3)) (h : Go p e below F Q T (mkF m (pc + 3) Ls (.int 0 :: S))) : Go p e below F Q T (mkF m pc Ls (.null :: S)) := h.st fun _ k => X.instanceofNull hx (g := mkF m pc Ls (.null :: S)) rfl rfl hd _ k
theorem Go.castNull (X : Stand p l e R s m args below meth c T locs cells slots) (hx : p.tables.exec = Jvm.exec) {index : Nat} (hd : decode c.code pc = .ok (.checkcast index, 3)) (h : Go p e below F Q T (mkF m (pc + 3) Ls (.null :: S))) : Go p e below F Q T (mkF m pc Ls (.null :: S)) := h.st fun _ k => X.checkcastNull hx (g := mkF m pc Ls (.null :: S)) rfl rfl hd _ k
theorem own_noSub {K0 S0 K : String} {n : Nat} (w : (Jvm.Cond.superclass K0 S0).before a0 Z = true) (wk : (Jvm.Cond.instantiable K n).before a0 Z = true) (q : NS Z K0 K) (hn : K0 ≠ K) : ∃ c t, Z.vm.findClass K0 = some c ∧ Z.vm.findClass K = some t ∧ Z.vm.assignable c t = false := by
  obtain ⟨c, t, h0, g0, n3⟩ := q
  obtain ⟨p, k, kp, h1, h2, h3, h4, h5, -, h7⟩ := Cond.superclass_spec h0 w
  obtain ⟨t', k', g1, g2, g3, g4, -⟩ := Cond.instantiable_spec wk
  cases g0.symm.trans g1
  have g5 : k'.isInterface = false := by simp only [Bool.or_eq_false_iff] at g4; exact g4.1
  have ne := ids_ne h0 g0 hn
  refine ⟨c, t, h0, g0, ?_⟩
  show Z.vm.assignableAux (255 + 1) c t = false
  simp [Vm.assignableAux, ne, h2, g2, h5, g3, g5, Vm.isSubclass, n3]
theorem own_nsRoot {O K : String} {n : Nat} (w : (Jvm.Cond.noSuperclass O).before a0 Z = true) (wk : (Jvm.Cond.instantiable K n).before a0 Z = true) (hn : O ≠ K) : NS Z O K := by
  obtain ⟨c, k, h1, h2, h3, -, -⟩ := Cond.noSuperclass_spec w
  obtain ⟨t, k', g1, -⟩ := Cond.instantiable_spec wk
  have ne := ids_ne h1 g1 hn
  refine ⟨c, t, h1, g1, fun fuel => ?_⟩
  cases fuel with
  | zero => rfl
  | succ f => simp [Vm.isSubclassAux, ne, h2, h3]
theorem Sta.own_keep {h' : Heap} {K n d : String} {v : Value} {ws : List Addr} (Fl : Sta Z h K n d v) (k : Keep h h' ws) (q : ∀ x ∈ ws, ∀ cell : Cell, h[x]? = some cell → cell.vm.isStatics = false) : Sta Z h' K n d v := by
  obtain ⟨cf, i, kk, f, st, cell, h1, h2, h3, h4, h5, h6, h7⟩ := Fl
  refine ⟨cf, i, kk, f, st, cell, h1, h2, h3, h4, k.2.1 _ _ h5 (fun hm => ?_), h6, h7⟩
  have := q _ hm _ h5
  rw [h6] at this; cases this
theorem Go.newP (X : Stand p l e R s m args below meth c T locs cells slots) (hx : p.tables.exec = Jvm.exec) (hZ : Z.Warmed39 s.vm) {aty : ArrayType} (w : (Jvm.Cond.arrayClass (newarray.typeOf aty)).before a0 Z = true) (eT : T.heap = h) {n : Int32} (hd : decode c.code pc = .ok (.newarray aty, 2)) (hn : ¬ n < 0) {cap : Nat} (hcap : n.toNatClampNeg ≤ cap) (hb : cap * 8 ≤ 536870912) (hc : cells + 1 ≤ R.cells) (hl : slots + cap ≤ R.slots) (k : ∀ T' h' cA a, a = h.size → Stand p l e R s m args below meth c T' locs (cells + 1) (slots + cap) → T'.heap = h' → Ext h h' → Arr Z h' a (newA cA (newarray.typeOf aty) n) (newarray.typeOf aty) → Go p e below F Q T' (mkF m (pc + 2) Ls (.ref a :: S))) : Go p e below F Q T (mkF m pc Ls (.int n :: S)) := by
  obtain ⟨T', h', cA, X', e', E', A', st⟩ := Jvm.RoadKit.newP X hx hZ w eT (g := mkF m pc Ls (.int n :: S)) rfl hd rfl hn hcap hb hc hl
  exact (k T' h' cA _ rfl X' e' E' A').st st
theorem Go.stI (X : Stand p l e R s m args below meth c T locs cells slots) (hx : p.tables.exec = Jvm.exec) (hZ : Z.Warmed39 s.vm) (eT : T.heap = h) {a : Addr} {cl : Cell} (A : Arr Z h a cl .int) {j : Int32} {x : Int32} (hj : ¬ (j < 0 ∨ cl.slots.size ≤ j.toNatClampNeg)) (hd : decode c.code pc = .ok (.iastore, 1)) (k : ∀ T' h', Stand p l e R s m args below meth c T' (locs ++ [⟨a, j.toNatClampNeg⟩]) cells slots → T'.heap = h' → Wr h h' a j.toNatClampNeg (.int x) → Go p e below F Q T' (mkF m (pc + 1) Ls S)) : Go p e below F Q T (mkF m pc Ls (.int x :: .int j :: .ref a :: S)) := by
  obtain ⟨T', h', X', e', W', st⟩ := Jvm.RoadKit.stI X hx hZ eT A hj (g := mkF m pc Ls (.int x :: .int j :: .ref a :: S)) rfl rfl hd
  exact (k T' h' X' e' W').st st
theorem Go.stC (X : Stand p l e R s m args below meth c T locs cells slots) (hx : p.tables.exec = Jvm.exec) (hZ : Z.Warmed39 s.vm) (eT : T.heap = h) {a : Addr} {cl : Cell} (A : Arr Z h a cl .char) {j : Int32} {x : Int32} (hj : ¬ (j < 0 ∨ cl.slots.size ≤ j.toNatClampNeg)) (hd : decode c.code pc = .ok (.castore, 1)) (k : ∀ T' h', Stand p l e R s m args below meth c T' (locs ++ [⟨a, j.toNatClampNeg⟩]) cells slots → T'.heap = h' → Wr h h' a j.toNatClampNeg (.int (nar .char x)) → Go p e below F Q T' (mkF m (pc + 1) Ls S)) : Go p e below F Q T (mkF m pc Ls (.int x :: .int j :: .ref a :: S)) := by
  obtain ⟨T', h', X', e', W', st⟩ := Jvm.RoadKit.stC X hx hZ eT A hj (g := mkF m pc Ls (.int x :: .int j :: .ref a :: S)) rfl rfl hd
  exact (k T' h' X' e' W').st st
theorem Go.stB (X : Stand p l e R s m args below meth c T locs cells slots) (hx : p.tables.exec = Jvm.exec) (hZ : Z.Warmed39 s.vm) (eT : T.heap = h) {a : Addr} {cl : Cell} (A : Arr Z h a cl .byte) {j : Int32} {x : Int32} (hj : ¬ (j < 0 ∨ cl.slots.size ≤ j.toNatClampNeg)) (hd : decode c.code pc = .ok (.bastore, 1)) (k : ∀ T' h', Stand p l e R s m args below meth c T' (locs ++ [⟨a, j.toNatClampNeg⟩]) cells slots → T'.heap = h' → Wr h h' a j.toNatClampNeg (.int (nar .byte x)) → Go p e below F Q T' (mkF m (pc + 1) Ls S)) : Go p e below F Q T (mkF m pc Ls (.int x :: .int j :: .ref a :: S)) := by
  obtain ⟨T', h', X', e', W', st⟩ := Jvm.RoadKit.stB X hx hZ eT A hj (g := mkF m pc Ls (.int x :: .int j :: .ref a :: S)) rfl rfl hd
  exact (k T' h' X' e' W').st st
theorem Go.stZ (X : Stand p l e R s m args below meth c T locs cells slots) (hx : p.tables.exec = Jvm.exec) (hZ : Z.Warmed39 s.vm) (eT : T.heap = h) {a : Addr} {cl : Cell} (A : Arr Z h a cl .boolean) {j : Int32} {x : Int32} (hj : ¬ (j < 0 ∨ cl.slots.size ≤ j.toNatClampNeg)) (hd : decode c.code pc = .ok (.bastore, 1)) (k : ∀ T' h', Stand p l e R s m args below meth c T' (locs ++ [⟨a, j.toNatClampNeg⟩]) cells slots → T'.heap = h' → Wr h h' a j.toNatClampNeg (.int (nar .boolean x)) → Go p e below F Q T' (mkF m (pc + 1) Ls S)) : Go p e below F Q T (mkF m pc Ls (.int x :: .int j :: .ref a :: S)) := by
  obtain ⟨T', h', X', e', W', st⟩ := Jvm.RoadKit.stZ X hx hZ eT A hj (g := mkF m pc Ls (.int x :: .int j :: .ref a :: S)) rfl rfl hd
  exact (k T' h' X' e' W').st st
theorem Go.stS (X : Stand p l e R s m args below meth c T locs cells slots) (hx : p.tables.exec = Jvm.exec) (hZ : Z.Warmed39 s.vm) (eT : T.heap = h) {a : Addr} {cl : Cell} (A : Arr Z h a cl .short) {j : Int32} {x : Int32} (hj : ¬ (j < 0 ∨ cl.slots.size ≤ j.toNatClampNeg)) (hd : decode c.code pc = .ok (.sastore, 1)) (k : ∀ T' h', Stand p l e R s m args below meth c T' (locs ++ [⟨a, j.toNatClampNeg⟩]) cells slots → T'.heap = h' → Wr h h' a j.toNatClampNeg (.int (nar .short x)) → Go p e below F Q T' (mkF m (pc + 1) Ls S)) : Go p e below F Q T (mkF m pc Ls (.int x :: .int j :: .ref a :: S)) := by
  obtain ⟨T', h', X', e', W', st⟩ := Jvm.RoadKit.stS X hx hZ eT A hj (g := mkF m pc Ls (.int x :: .int j :: .ref a :: S)) rfl rfl hd
  exact (k T' h' X' e' W').st st
theorem Go.stJ (X : Stand p l e R s m args below meth c T locs cells slots) (hx : p.tables.exec = Jvm.exec) (hZ : Z.Warmed39 s.vm) (eT : T.heap = h) {a : Addr} {cl : Cell} (A : Arr Z h a cl .long) {j : Int32} {x : Int64} (hj : ¬ (j < 0 ∨ cl.slots.size ≤ j.toNatClampNeg)) (hd : decode c.code pc = .ok (.lastore, 1)) (k : ∀ T' h', Stand p l e R s m args below meth c T' (locs ++ [⟨a, j.toNatClampNeg⟩]) cells slots → T'.heap = h' → Wr h h' a j.toNatClampNeg (.long x) → Go p e below F Q T' (mkF m (pc + 1) Ls S)) : Go p e below F Q T (mkF m pc Ls (.long x :: .int j :: .ref a :: S)) := by
  obtain ⟨T', h', X', e', W', st⟩ := Jvm.RoadKit.stJ X hx hZ eT A hj (g := mkF m pc Ls (.long x :: .int j :: .ref a :: S)) rfl rfl hd
  exact (k T' h' X' e' W').st st
theorem Go.iaload (X : Stand p l e R s m args below meth c T locs cells slots) (hx : p.tables.exec = Jvm.exec) (hZ : Z.Warmed39 s.vm) (eT : T.heap = h) {a : Addr} {cl : Cell} (A : Arr Z h a cl .int) {j : Int32} {v : Value} (hj : ¬ (j < 0 ∨ cl.slots.size ≤ j.toNatClampNeg)) (hv : cl.slots[j.toNatClampNeg]? = some v) (hd : decode c.code pc = .ok (.iaload, 1)) (k : Go p e below F Q T (mkF m (pc + 1) Ls (v :: S))) : Go p e below F Q T (mkF m pc Ls (.int j :: .ref a :: S)) := k.st fun _ q => X.iaload hx (by rw [eT]; exact A.1) (State.isArrayOf_alike hZ.alike A.2.1) A.2.2 hj hv (g := mkF m pc Ls (.int j :: .ref a :: S)) rfl rfl hd _ q
theorem Go.caload (X : Stand p l e R s m args below meth c T locs cells slots) (hx : p.tables.exec = Jvm.exec) (hZ : Z.Warmed39 s.vm) (eT : T.heap = h) {a : Addr} {cl : Cell} (A : Arr Z h a cl .char) {j : Int32} {v : Value} (hj : ¬ (j < 0 ∨ cl.slots.size ≤ j.toNatClampNeg)) (hv : cl.slots[j.toNatClampNeg]? = some v) (hd : decode c.code pc = .ok (.caload, 1)) (k : Go p e below F Q T (mkF m (pc + 1) Ls (v :: S))) : Go p e below F Q T (mkF m pc Ls (.int j :: .ref a :: S)) := k.st fun _ q => X.caload hx (by rw [eT]; exact A.1) (State.isArrayOf_alike hZ.alike A.2.1) A.2.2 hj hv (g := mkF m pc Ls (.int j :: .ref a :: S)) rfl rfl hd _ q
theorem Go.saload (X : Stand p l e R s m args below meth c T locs cells slots) (hx : p.tables.exec = Jvm.exec) (hZ : Z.Warmed39 s.vm) (eT : T.heap = h) {a : Addr} {cl : Cell} (A : Arr Z h a cl .short) {j : Int32} {v : Value} (hj : ¬ (j < 0 ∨ cl.slots.size ≤ j.toNatClampNeg)) (hv : cl.slots[j.toNatClampNeg]? = some v) (hd : decode c.code pc = .ok (.saload, 1)) (k : Go p e below F Q T (mkF m (pc + 1) Ls (v :: S))) : Go p e below F Q T (mkF m pc Ls (.int j :: .ref a :: S)) := k.st fun _ q => X.saload hx (by rw [eT]; exact A.1) (State.isArrayOf_alike hZ.alike A.2.1) A.2.2 hj hv (g := mkF m pc Ls (.int j :: .ref a :: S)) rfl rfl hd _ q
theorem Go.laload (X : Stand p l e R s m args below meth c T locs cells slots) (hx : p.tables.exec = Jvm.exec) (hZ : Z.Warmed39 s.vm) (eT : T.heap = h) {a : Addr} {cl : Cell} (A : Arr Z h a cl .long) {j : Int32} {v : Value} (hj : ¬ (j < 0 ∨ cl.slots.size ≤ j.toNatClampNeg)) (hv : cl.slots[j.toNatClampNeg]? = some v) (hd : decode c.code pc = .ok (.laload, 1)) (k : Go p e below F Q T (mkF m (pc + 1) Ls (v :: S))) : Go p e below F Q T (mkF m pc Ls (.int j :: .ref a :: S)) := k.st fun _ q => X.laload hx (by rw [eT]; exact A.1) (State.isArrayOf_alike hZ.alike A.2.1) A.2.2 hj hv (g := mkF m pc Ls (.int j :: .ref a :: S)) rfl rfl hd _ q
theorem Go.baload (X : Stand p l e R s m args below meth c T locs cells slots) (hx : p.tables.exec = Jvm.exec) (hZ : Z.Warmed39 s.vm) (eT : T.heap = h) {a : Addr} {cl : Cell} (A : Arr Z h a cl .byte) {j : Int32} {v : Value} (hj : ¬ (j < 0 ∨ cl.slots.size ≤ j.toNatClampNeg)) (hv : cl.slots[j.toNatClampNeg]? = some v) (hd : decode c.code pc = .ok (.baload, 1)) (k : Go p e below F Q T (mkF m (pc + 1) Ls (v :: S))) : Go p e below F Q T (mkF m pc Ls (.int j :: .ref a :: S)) := k.st fun _ q => X.baloadBytes hx (by rw [eT]; exact A.1) (State.isArrayOf_alike hZ.alike A.2.1) A.2.2 hj hv (g := mkF m pc Ls (.int j :: .ref a :: S)) rfl rfl hd _ q
theorem Go.aaload (X : Stand p l e R s m args below meth c T locs cells slots) (hx : p.tables.exec = Jvm.exec) (hZ : Z.Warmed39 s.vm) (eT : T.heap = h) {a : Addr} {cl : Cell} {ty : FieldType} (A : Arr Z h a cl ty) (hty : ty.isReference = true) {j : Int32} {v : Value} (hj : ¬ (j < 0 ∨ cl.slots.size ≤ j.toNatClampNeg)) (hv : cl.slots[j.toNatClampNeg]? = some v) (hd : decode c.code pc = .ok (.aaload, 1)) (k : Go p e below F Q T (mkF m (pc + 1) Ls (v :: S))) : Go p e below F Q T (mkF m pc Ls (.int j :: .ref a :: S)) := k.st fun _ q => X.aaload hx (by rw [eT]; exact A.1) (State.isArrayOf_alike hZ.alike A.2.1) hty A.2.2 hj hv (g := mkF m pc Ls (.int j :: .ref a :: S)) rfl rfl hd _ q
theorem Go.arraylength (X : Stand p l e R s m args below meth c T locs cells slots) (hx : p.tables.exec = Jvm.exec) (hZ : Z.Warmed39 s.vm) (eT : T.heap = h) {a : Addr} {cl : Cell} {ty : FieldType} (A : Arr Z h a cl ty) {n : Int32} (S1 : cl.slots.size = n.toNatClampNeg) (hn : ¬ n < 0) (hd : decode c.code pc = .ok (.arraylength, 1)) (k : Go p e below F Q T (mkF m (pc + 1) Ls (.int n :: S))) : Go p e below F Q T (mkF m pc Ls (.ref a :: S)) := k.st fun _ q => X.arraylength hx (by rw [eT]; exact A.1) (State.isArrayOf_alike hZ.alike A.2.1) (g := mkF m pc Ls (.ref a :: S)) rfl rfl hd _ (by rw [len_of S1 hn]; exact q)
end OwnKit
def own_pick (p : Int32) (r0 : Addr) (r1 : Addr) (r2 : Addr) (r3 : Addr) (r4 : Addr) (r5 : Addr) (r6 : Addr) (r7 : Addr) (r8 : Addr) (r9 : Addr) (r10 : Addr) (r11 : Addr) (r12 : Addr) (r13 : Addr) (r14 : Addr) (r15 : Addr) : Addr := (if p = (0 : Int32) then r0 else (if p = (1 : Int32) then r1 else (if p = (2 : Int32) then r2 else (if p = (3 : Int32) then r3 else (if p = (4 : Int32) then r4 else (if p = (5 : Int32) then r5 else (if p = (6 : Int32) then r6 else (if p = (7 : Int32) then r7 else (if p = (8 : Int32) then r8 else (if p = (9 : Int32) then r9 else (if p = (10 : Int32) then r10 else (if p = (11 : Int32) then r11 else (if p = (12 : Int32) then r12 else (if p = (13 : Int32) then r13 else (if p = (14 : Int32) then r14 else r15)))))))))))))))
theorem d1_0 : decode method_3_code 0 = .ok (.iload_n 0, 1) := by decide +kernel
theorem d1_1 : decode method_3_code 1 = .ok (.ifCond .ne 7, 3) := by decide +kernel
theorem d1_4 : decode method_3_code 4 = .ok (.getstatic 20, 3) := by decide +kernel
theorem d1_7 : decode method_3_code 7 = .ok (.areturn, 1) := by decide +kernel
theorem d1_8 : decode method_3_code 8 = .ok (.iload_n 0, 1) := by decide +kernel
theorem d1_9 : decode method_3_code 9 = .ok (.iconst 1, 1) := by decide +kernel
theorem d1_10 : decode method_3_code 10 = .ok (.if_icmp .ne 7, 3) := by decide +kernel
theorem d1_13 : decode method_3_code 13 = .ok (.getstatic 24, 3) := by decide +kernel
theorem d1_16 : decode method_3_code 16 = .ok (.areturn, 1) := by decide +kernel
theorem d1_17 : decode method_3_code 17 = .ok (.iload_n 0, 1) := by decide +kernel
theorem d1_18 : decode method_3_code 18 = .ok (.iconst 2, 1) := by decide +kernel
theorem d1_19 : decode method_3_code 19 = .ok (.if_icmp .ne 7, 3) := by decide +kernel
theorem d1_22 : decode method_3_code 22 = .ok (.getstatic 27, 3) := by decide +kernel
theorem d1_25 : decode method_3_code 25 = .ok (.areturn, 1) := by decide +kernel
theorem d1_26 : decode method_3_code 26 = .ok (.iload_n 0, 1) := by decide +kernel
theorem d1_27 : decode method_3_code 27 = .ok (.iconst 3, 1) := by decide +kernel
theorem d1_28 : decode method_3_code 28 = .ok (.if_icmp .ne 7, 3) := by decide +kernel
theorem d1_31 : decode method_3_code 31 = .ok (.getstatic 30, 3) := by decide +kernel
theorem d1_34 : decode method_3_code 34 = .ok (.areturn, 1) := by decide +kernel
theorem d1_35 : decode method_3_code 35 = .ok (.iload_n 0, 1) := by decide +kernel
theorem d1_36 : decode method_3_code 36 = .ok (.iconst 4, 1) := by decide +kernel
theorem d1_37 : decode method_3_code 37 = .ok (.if_icmp .ne 7, 3) := by decide +kernel
theorem d1_40 : decode method_3_code 40 = .ok (.getstatic 33, 3) := by decide +kernel
theorem d1_43 : decode method_3_code 43 = .ok (.areturn, 1) := by decide +kernel
theorem d1_44 : decode method_3_code 44 = .ok (.iload_n 0, 1) := by decide +kernel
theorem d1_45 : decode method_3_code 45 = .ok (.iconst 5, 1) := by decide +kernel
theorem d1_46 : decode method_3_code 46 = .ok (.if_icmp .ne 7, 3) := by decide +kernel
theorem d1_49 : decode method_3_code 49 = .ok (.getstatic 36, 3) := by decide +kernel
theorem d1_52 : decode method_3_code 52 = .ok (.areturn, 1) := by decide +kernel
theorem d1_53 : decode method_3_code 53 = .ok (.iload_n 0, 1) := by decide +kernel
theorem d1_54 : decode method_3_code 54 = .ok (.bipush 6, 2) := by decide +kernel
theorem d1_56 : decode method_3_code 56 = .ok (.if_icmp .ne 7, 3) := by decide +kernel
theorem d1_59 : decode method_3_code 59 = .ok (.getstatic 39, 3) := by decide +kernel
theorem d1_62 : decode method_3_code 62 = .ok (.areturn, 1) := by decide +kernel
theorem d1_63 : decode method_3_code 63 = .ok (.iload_n 0, 1) := by decide +kernel
theorem d1_64 : decode method_3_code 64 = .ok (.bipush 7, 2) := by decide +kernel
theorem d1_66 : decode method_3_code 66 = .ok (.if_icmp .ne 7, 3) := by decide +kernel
theorem d1_69 : decode method_3_code 69 = .ok (.getstatic 42, 3) := by decide +kernel
theorem d1_72 : decode method_3_code 72 = .ok (.areturn, 1) := by decide +kernel
theorem d1_73 : decode method_3_code 73 = .ok (.iload_n 0, 1) := by decide +kernel
theorem d1_74 : decode method_3_code 74 = .ok (.bipush 8, 2) := by decide +kernel
theorem d1_76 : decode method_3_code 76 = .ok (.if_icmp .ne 7, 3) := by decide +kernel
theorem d1_79 : decode method_3_code 79 = .ok (.getstatic 45, 3) := by decide +kernel
theorem d1_82 : decode method_3_code 82 = .ok (.areturn, 1) := by decide +kernel
theorem d1_83 : decode method_3_code 83 = .ok (.iload_n 0, 1) := by decide +kernel
theorem d1_84 : decode method_3_code 84 = .ok (.bipush 9, 2) := by decide +kernel
theorem d1_86 : decode method_3_code 86 = .ok (.if_icmp .ne 7, 3) := by decide +kernel
theorem d1_89 : decode method_3_code 89 = .ok (.getstatic 48, 3) := by decide +kernel
theorem d1_92 : decode method_3_code 92 = .ok (.areturn, 1) := by decide +kernel
theorem d1_93 : decode method_3_code 93 = .ok (.iload_n 0, 1) := by decide +kernel
theorem d1_94 : decode method_3_code 94 = .ok (.bipush 10, 2) := by decide +kernel
theorem d1_96 : decode method_3_code 96 = .ok (.if_icmp .ne 7, 3) := by decide +kernel
theorem d1_99 : decode method_3_code 99 = .ok (.getstatic 51, 3) := by decide +kernel
theorem d1_102 : decode method_3_code 102 = .ok (.areturn, 1) := by decide +kernel
theorem d1_103 : decode method_3_code 103 = .ok (.iload_n 0, 1) := by decide +kernel
theorem d1_104 : decode method_3_code 104 = .ok (.bipush 11, 2) := by decide +kernel
theorem d1_106 : decode method_3_code 106 = .ok (.if_icmp .ne 7, 3) := by decide +kernel
theorem d1_109 : decode method_3_code 109 = .ok (.getstatic 54, 3) := by decide +kernel
theorem d1_112 : decode method_3_code 112 = .ok (.areturn, 1) := by decide +kernel
theorem d1_113 : decode method_3_code 113 = .ok (.iload_n 0, 1) := by decide +kernel
theorem d1_114 : decode method_3_code 114 = .ok (.bipush 12, 2) := by decide +kernel
theorem d1_116 : decode method_3_code 116 = .ok (.if_icmp .ne 7, 3) := by decide +kernel
theorem d1_119 : decode method_3_code 119 = .ok (.getstatic 57, 3) := by decide +kernel
theorem d1_122 : decode method_3_code 122 = .ok (.areturn, 1) := by decide +kernel
theorem d1_123 : decode method_3_code 123 = .ok (.iload_n 0, 1) := by decide +kernel
theorem d1_124 : decode method_3_code 124 = .ok (.bipush 13, 2) := by decide +kernel
theorem d1_126 : decode method_3_code 126 = .ok (.if_icmp .ne 7, 3) := by decide +kernel
theorem d1_129 : decode method_3_code 129 = .ok (.getstatic 60, 3) := by decide +kernel
theorem d1_132 : decode method_3_code 132 = .ok (.areturn, 1) := by decide +kernel
theorem d1_133 : decode method_3_code 133 = .ok (.iload_n 0, 1) := by decide +kernel
theorem d1_134 : decode method_3_code 134 = .ok (.bipush 14, 2) := by decide +kernel
theorem d1_136 : decode method_3_code 136 = .ok (.if_icmp .ne 7, 3) := by decide +kernel
theorem d1_139 : decode method_3_code 139 = .ok (.getstatic 63, 3) := by decide +kernel
theorem d1_142 : decode method_3_code 142 = .ok (.areturn, 1) := by decide +kernel
theorem d1_143 : decode method_3_code 143 = .ok (.getstatic 66, 3) := by decide +kernel
theorem d1_146 : decode method_3_code 146 = .ok (.areturn, 1) := by decide +kernel
theorem pn_1 : plainName "com/example/whelk/whelk/io/ApiKeySupportsPinLaw" = true := by first | (simp [plainName, overriddenIn]; done) | decide +kernel
theorem ef_rm1 (m_ : MethodId) (p : Int32) : entryFrame m_ #[(.int p)] 1 = mkF m_ 0 #[.val (.int p)] [] := by first | (simp [entryFrame, mkF, argsToLocals, Value.category]; done) | rfl
def Q1 (Z : State) (p : Int32) (r0 : Addr) (r1 : Addr) (r2 : Addr) (r3 : Addr) (r4 : Addr) (r5 : Addr) (r6 : Addr) (r7 : Addr) (r8 : Addr) (r9 : Addr) (r10 : Addr) (r11 : Addr) (r12 : Addr) (r13 : Addr) (r14 : Addr) (r15 : Addr) (h0 : Heap) (n0 : Nat) (v : Option Value) (h : Heap) (L : List Loc) : Prop := v = some (.ref (own_pick p r0 r1 r2 r3 r4 r5 r6 r7 r8 r9 r10 r11 r12 r13 r14 r15)) ∧ Fr n0 L ∧ h = h0
set_option maxRecDepth 65536 in
set_option maxHeartbeats 40000000 in
theorem rm1 (l : Launch) (Z : State) (a0 : Array Value) (hw : ∀ d ∈ tables_1, d.before a0 Z = true) (ws : List Jvm.Cond) (p : Int32) (r0 : Addr) (r1 : Addr) (r2 : Addr) (r3 : Addr) (r4 : Addr) (r5 : Addr) (r6 : Addr) (r7 : Addr) (r8 : Addr) (r9 : Addr) (r10 : Addr) (r11 : Addr) (r12 : Addr) (r13 : Addr) (r14 : Addr) (r15 : Addr) (h0 : Heap) (n0 : Nat) (Z0 : n0 ≤ h0.size) (O : Old Z n0 h0) (S_r0 : Sta Z Z.heap "com/example/whelk/whelk/io/ApiKey" "PRODUCE" "Lcom/example/whelk/whelk/io/ApiKey;" (.ref r0)) (S_r1 : Sta Z Z.heap "com/example/whelk/whelk/io/ApiKey" "FETCH" "Lcom/example/whelk/whelk/io/ApiKey;" (.ref r1)) (S_r2 : Sta Z Z.heap "com/example/whelk/whelk/io/ApiKey" "LIST_OFFSETS" "Lcom/example/whelk/whelk/io/ApiKey;" (.ref r2)) (S_r3 : Sta Z Z.heap "com/example/whelk/whelk/io/ApiKey" "METADATA" "Lcom/example/whelk/whelk/io/ApiKey;" (.ref r3)) (S_r4 : Sta Z Z.heap "com/example/whelk/whelk/io/ApiKey" "OFFSET_COMMIT" "Lcom/example/whelk/whelk/io/ApiKey;" (.ref r4)) (S_r5 : Sta Z Z.heap "com/example/whelk/whelk/io/ApiKey" "OFFSET_FETCH" "Lcom/example/whelk/whelk/io/ApiKey;" (.ref r5)) (S_r6 : Sta Z Z.heap "com/example/whelk/whelk/io/ApiKey" "FIND_COORDINATOR" "Lcom/example/whelk/whelk/io/ApiKey;" (.ref r6)) (S_r7 : Sta Z Z.heap "com/example/whelk/whelk/io/ApiKey" "JOIN_GROUP" "Lcom/example/whelk/whelk/io/ApiKey;" (.ref r7)) (S_r8 : Sta Z Z.heap "com/example/whelk/whelk/io/ApiKey" "HEARTBEAT" "Lcom/example/whelk/whelk/io/ApiKey;" (.ref r8)) (S_r9 : Sta Z Z.heap "com/example/whelk/whelk/io/ApiKey" "LEAVE_GROUP" "Lcom/example/whelk/whelk/io/ApiKey;" (.ref r9)) (S_r10 : Sta Z Z.heap "com/example/whelk/whelk/io/ApiKey" "SYNC_GROUP" "Lcom/example/whelk/whelk/io/ApiKey;" (.ref r10)) (S_r11 : Sta Z Z.heap "com/example/whelk/whelk/io/ApiKey" "API_VERSIONS" "Lcom/example/whelk/whelk/io/ApiKey;" (.ref r11)) (S_r12 : Sta Z Z.heap "com/example/whelk/whelk/io/ApiKey" "CREATE_TOPICS" "Lcom/example/whelk/whelk/io/ApiKey;" (.ref r12)) (S_r13 : Sta Z Z.heap "com/example/whelk/whelk/io/ApiKey" "DELETE_TOPICS" "Lcom/example/whelk/whelk/io/ApiKey;" (.ref r13)) (S_r14 : Sta Z Z.heap "com/example/whelk/whelk/io/ApiKey" "INIT_PRODUCER_ID" "Lcom/example/whelk/whelk/io/ApiKey;" (.ref r14)) (S_r15 : Sta Z Z.heap "com/example/whelk/whelk/io/ApiKey" "CREATE_PARTITIONS" "Lcom/example/whelk/whelk/io/ApiKey;" (.ref r15)) :
    MetFree l (⟨"com/example/whelk/whelk/io/ApiKeySupportsPinLaw", "pick", "(I)Lcom/example/whelk/whelk/io/ApiKey;"⟩ : MethodName) (head1 (Jvm.Cond.code (⟨"com/example/whelk/whelk/io/ApiKeySupportsPinLaw", "pick", "(I)Lcom/example/whelk/whelk/io/ApiKey;"⟩ : MethodName) method_3_code 1 (some (.object "com/example/whelk/whelk/io/ApiKey")) :: ws) ({ frames := 0, cells := 0, slots := 0, locals := 0 } : Room)) (fun a_ U_ => a_ = #[(.int p)] ∧ Z.Warmed39 U_.vm ∧ U_.heap = h0) (fun _ _ _ _ _ => True) (fun _ U_ o_ V_ => ∃ v_ L_, o_ = .returned v_ ∧ Q1 Z p r0 r1 r2 r3 r4 r5 r6 r7 r8 r9 r10 r11 r12 r13 r14 r15 h0 n0 v_ V_.heap L_ ∧ FrameEnd U_ o_ V_ L_ ({ frames := 0, cells := 0, slots := 0, locals := 0 } : Room).cells ({ frames := 0, cells := 0, slots := 0, locals := 0 } : Room).slots) := by
  refine metOf (Q := Q1 Z p r0 r1 r2 r3 r4 r5 r6 r7 r8 r9 r10 r11 r12 r13 r14 r15 h0 n0) (plainFor_of_name pn_1) ?_
  intro p_ e_ s_ m_ below meth c_ s₁ X0 hx hby hml hret hlk hZ hown hnm e0
  rw [ef_rm1]
  have N0 := Fr.nil n0
  show Go p_ e_ below _ _ s₁ (mkF m_ 0 #[.val (.int p)] [])
  refine Go.iloadN X0 hx (hb hby d1_0) rfl ?_
  by_cases hc1_1 : p = (0 : Int32)
  · skip
    refine Go.ifNo X0 hx (hb hby d1_1) ((if0 _ _).trans (teq hc1_1).2) ?_
    show Go p_ e_ below _ _ s₁ (mkF m_ 4 #[.val (.int p)] [])
    refine Go.getS X0 hx hZ hown (host := "") (Or.inl (hw _ (List.mem_of_getElem? (i := 6) rfl))) Via.refl e0 (S_r0.ext O.2) (hb hby d1_4) ?_
    intro T2 X2 e2
    show Go p_ e_ below _ _ T2 (mkF m_ 7 #[.val (.int p)] [(.ref r0)])
    refine Go.retA X2 hx hret hlk rfl rfl rfl (hb hby d1_7) (by decide) (by decide) ?_
    exact ⟨by unfold own_pick; rw [if_pos hc1_1] <;> rfl, N0, e2⟩
  · skip
    refine Go.ifYes X0 hx (pc' := 8) (hb hby d1_1) ((if0 _ _).trans (feq hc1_1).2) (by decide) (by decide) ?_
    show Go p_ e_ below _ _ s₁ (mkF m_ 8 #[.val (.int p)] [])
    refine Go.iloadN X0 hx (hb hby d1_8) rfl ?_
    refine Go.iconst X0 hx (1 : Int32) (hb hby d1_9) rfl ?_
    by_cases hc10_3 : p = (1 : Int32)
    · skip
      refine Go.icmpNo X0 hx (hb hby d1_10) (teq hc10_3).2 ?_
      show Go p_ e_ below _ _ s₁ (mkF m_ 13 #[.val (.int p)] [])
      refine Go.getS X0 hx hZ hown (host := "") (Or.inl (hw _ (List.mem_of_getElem? (i := 18) rfl))) Via.refl e0 (S_r1.ext O.2) (hb hby d1_13) ?_
      intro T4 X4 e4
      show Go p_ e_ below _ _ T4 (mkF m_ 16 #[.val (.int p)] [(.ref r1)])
      refine Go.retA X4 hx hret hlk rfl rfl rfl (hb hby d1_16) (by decide) (by decide) ?_
      exact ⟨by unfold own_pick; rw [if_neg hc1_1, if_pos hc10_3] <;> rfl, N0, e4⟩
    · skip
      refine Go.icmpYes X0 hx (pc' := 17) (hb hby d1_10) (feq hc10_3).2 (by decide) (by decide) ?_
      show Go p_ e_ below _ _ s₁ (mkF m_ 17 #[.val (.int p)] [])
      refine Go.iloadN X0 hx (hb hby d1_17) rfl ?_
      refine Go.iconst X0 hx (2 : Int32) (hb hby d1_18) rfl ?_
      by_cases hc19_5 : p = (2 : Int32)
      · skip
        refine Go.icmpNo X0 hx (hb hby d1_19) (teq hc19_5).2 ?_
        show Go p_ e_ below _ _ s₁ (mkF m_ 22 #[.val (.int p)] [])
        refine Go.getS X0 hx hZ hown (host := "") (Or.inl (hw _ (List.mem_of_getElem? (i := 26) rfl))) Via.refl e0 (S_r2.ext O.2) (hb hby d1_22) ?_
        intro T6 X6 e6
        show Go p_ e_ below _ _ T6 (mkF m_ 25 #[.val (.int p)] [(.ref r2)])
        refine Go.retA X6 hx hret hlk rfl rfl rfl (hb hby d1_25) (by decide) (by decide) ?_
        exact ⟨by unfold own_pick; rw [if_neg hc1_1, if_neg hc10_3, if_pos hc19_5] <;> rfl, N0, e6⟩
      · skip
        refine Go.icmpYes X0 hx (pc' := 26) (hb hby d1_19) (feq hc19_5).2 (by decide) (by decide) ?_
        show Go p_ e_ below _ _ s₁ (mkF m_ 26 #[.val (.int p)] [])
        refine Go.iloadN X0 hx (hb hby d1_26) rfl ?_
        refine Go.iconst X0 hx (3 : Int32) (hb hby d1_27) rfl ?_
        by_cases hc28_7 : p = (3 : Int32)
        · skip
          refine Go.icmpNo X0 hx (hb hby d1_28) (teq hc28_7).2 ?_
          show Go p_ e_ below _ _ s₁ (mkF m_ 31 #[.val (.int p)] [])
          refine Go.getS X0 hx hZ hown (host := "") (Or.inl (hw _ (List.mem_of_getElem? (i := 28) rfl))) Via.refl e0 (S_r3.ext O.2) (hb hby d1_31) ?_
          intro T8 X8 e8
          show Go p_ e_ below _ _ T8 (mkF m_ 34 #[.val (.int p)] [(.ref r3)])
          refine Go.retA X8 hx hret hlk rfl rfl rfl (hb hby d1_34) (by decide) (by decide) ?_
          exact ⟨by unfold own_pick; rw [if_neg hc1_1, if_neg hc10_3, if_neg hc19_5, if_pos hc28_7] <;> rfl, N0, e8⟩
        · skip
          refine Go.icmpYes X0 hx (pc' := 35) (hb hby d1_28) (feq hc28_7).2 (by decide) (by decide) ?_
          show Go p_ e_ below _ _ s₁ (mkF m_ 35 #[.val (.int p)] [])
          refine Go.iloadN X0 hx (hb hby d1_35) rfl ?_
          refine Go.iconst X0 hx (4 : Int32) (hb hby d1_36) rfl ?_
          by_cases hc37_9 : p = (4 : Int32)
          · skip
            refine Go.icmpNo X0 hx (hb hby d1_37) (teq hc37_9).2 ?_
            show Go p_ e_ below _ _ s₁ (mkF m_ 40 #[.val (.int p)] [])
            refine Go.getS X0 hx hZ hown (host := "") (Or.inl (hw _ (List.mem_of_getElem? (i := 20) rfl))) Via.refl e0 (S_r4.ext O.2) (hb hby d1_40) ?_
            intro T10 X10 e10
            show Go p_ e_ below _ _ T10 (mkF m_ 43 #[.val (.int p)] [(.ref r4)])
            refine Go.retA X10 hx hret hlk rfl rfl rfl (hb hby d1_43) (by decide) (by decide) ?_
            exact ⟨by unfold own_pick; rw [if_neg hc1_1, if_neg hc10_3, if_neg hc19_5, if_neg hc28_7, if_pos hc37_9] <;> rfl, N0, e10⟩
          · skip
            refine Go.icmpYes X0 hx (pc' := 44) (hb hby d1_37) (feq hc37_9).2 (by decide) (by decide) ?_
            show Go p_ e_ below _ _ s₁ (mkF m_ 44 #[.val (.int p)] [])
            refine Go.iloadN X0 hx (hb hby d1_44) rfl ?_
            refine Go.iconst X0 hx (5 : Int32) (hb hby d1_45) rfl ?_
            by_cases hc46_11 : p = (5 : Int32)
            · skip
              refine Go.icmpNo X0 hx (hb hby d1_46) (teq hc46_11).2 ?_
              show Go p_ e_ below _ _ s₁ (mkF m_ 49 #[.val (.int p)] [])
              refine Go.getS X0 hx hZ hown (host := "") (Or.inl (hw _ (List.mem_of_getElem? (i := 40) rfl))) Via.refl e0 (S_r5.ext O.2) (hb hby d1_49) ?_
              intro T12 X12 e12
              show Go p_ e_ below _ _ T12 (mkF m_ 52 #[.val (.int p)] [(.ref r5)])
              refine Go.retA X12 hx hret hlk rfl rfl rfl (hb hby d1_52) (by decide) (by decide) ?_
              exact ⟨by unfold own_pick; rw [if_neg hc1_1, if_neg hc10_3, if_neg hc19_5, if_neg hc28_7, if_neg hc37_9, if_pos hc46_11] <;> rfl, N0, e12⟩
            · skip
              refine Go.icmpYes X0 hx (pc' := 53) (hb hby d1_46) (feq hc46_11).2 (by decide) (by decide) ?_
              show Go p_ e_ below _ _ s₁ (mkF m_ 53 #[.val (.int p)] [])
              refine Go.iloadN X0 hx (hb hby d1_53) rfl ?_
              refine Go.bipush X0 hx (6 : Int32) (hb hby d1_54) rfl ?_
              by_cases hc56_13 : p = (6 : Int32)
              · skip
                refine Go.icmpNo X0 hx (hb hby d1_56) (teq hc56_13).2 ?_
                show Go p_ e_ below _ _ s₁ (mkF m_ 59 #[.val (.int p)] [])
                refine Go.getS X0 hx hZ hown (host := "") (Or.inl (hw _ (List.mem_of_getElem? (i := 44) rfl))) Via.refl e0 (S_r6.ext O.2) (hb hby d1_59) ?_
                intro T14 X14 e14
                show Go p_ e_ below _ _ T14 (mkF m_ 62 #[.val (.int p)] [(.ref r6)])
                refine Go.retA X14 hx hret hlk rfl rfl rfl (hb hby d1_62) (by decide) (by decide) ?_
                exact ⟨by unfold own_pick; rw [if_neg hc1_1, if_neg hc10_3, if_neg hc19_5, if_neg hc28_7, if_neg hc37_9, if_neg hc46_11, if_pos hc56_13] <;> rfl, N0, e14⟩
              · skip
                refine Go.icmpYes X0 hx (pc' := 63) (hb hby d1_56) (feq hc56_13).2 (by decide) (by decide) ?_
                show Go p_ e_ below _ _ s₁ (mkF m_ 63 #[.val (.int p)] [])
                refine Go.iloadN X0 hx (hb hby d1_63) rfl ?_
                refine Go.bipush X0 hx (7 : Int32) (hb hby d1_64) rfl ?_
                by_cases hc66_15 : p = (7 : Int32)
                · skip
                  refine Go.icmpNo X0 hx (hb hby d1_66) (teq hc66_15).2 ?_
                  show Go p_ e_ below _ _ s₁ (mkF m_ 69 #[.val (.int p)] [])
                  refine Go.getS X0 hx hZ hown (host := "") (Or.inl (hw _ (List.mem_of_getElem? (i := 38) rfl))) Via.refl e0 (S_r7.ext O.2) (hb hby d1_69) ?_
                  intro T16 X16 e16
                  show Go p_ e_ below _ _ T16 (mkF m_ 72 #[.val (.int p)] [(.ref r7)])
                  refine Go.retA X16 hx hret hlk rfl rfl rfl (hb hby d1_72) (by decide) (by decide) ?_
                  exact ⟨by unfold own_pick; rw [if_neg hc1_1, if_neg hc10_3, if_neg hc19_5, if_neg hc28_7, if_neg hc37_9, if_neg hc46_11, if_neg hc56_13, if_pos hc66_15] <;> rfl, N0, e16⟩
                · skip
                  refine Go.icmpYes X0 hx (pc' := 73) (hb hby d1_66) (feq hc66_15).2 (by decide) (by decide) ?_
                  show Go p_ e_ below _ _ s₁ (mkF m_ 73 #[.val (.int p)] [])
                  refine Go.iloadN X0 hx (hb hby d1_73) rfl ?_
                  refine Go.bipush X0 hx (8 : Int32) (hb hby d1_74) rfl ?_
                  by_cases hc76_17 : p = (8 : Int32)
                  · skip
                    refine Go.icmpNo X0 hx (hb hby d1_76) (teq hc76_17).2 ?_
                    show Go p_ e_ below _ _ s₁ (mkF m_ 79 #[.val (.int p)] [])
                    refine Go.getS X0 hx hZ hown (host := "") (Or.inl (hw _ (List.mem_of_getElem? (i := 24) rfl))) Via.refl e0 (S_r8.ext O.2) (hb hby d1_79) ?_
                    intro T18 X18 e18
                    show Go p_ e_ below _ _ T18 (mkF m_ 82 #[.val (.int p)] [(.ref r8)])
                    refine Go.retA X18 hx hret hlk rfl rfl rfl (hb hby d1_82) (by decide) (by decide) ?_
                    exact ⟨by unfold own_pick; rw [if_neg hc1_1, if_neg hc10_3, if_neg hc19_5, if_neg hc28_7, if_neg hc37_9, if_neg hc46_11, if_neg hc56_13, if_neg hc66_15, if_pos hc76_17] <;> rfl, N0, e18⟩
                  · skip
                    refine Go.icmpYes X0 hx (pc' := 83) (hb hby d1_76) (feq hc76_17).2 (by decide) (by decide) ?_
                    show Go p_ e_ below _ _ s₁ (mkF m_ 83 #[.val (.int p)] [])
                    refine Go.iloadN X0 hx (hb hby d1_83) rfl ?_
                    refine Go.bipush X0 hx (9 : Int32) (hb hby d1_84) rfl ?_
                    by_cases hc86_19 : p = (9 : Int32)
                    · skip
                      refine Go.icmpNo X0 hx (hb hby d1_86) (teq hc86_19).2 ?_
                      show Go p_ e_ below _ _ s₁ (mkF m_ 89 #[.val (.int p)] [])
                      refine Go.getS X0 hx hZ hown (host := "") (Or.inl (hw _ (List.mem_of_getElem? (i := 36) rfl))) Via.refl e0 (S_r9.ext O.2) (hb hby d1_89) ?_
                      intro T20 X20 e20
                      show Go p_ e_ below _ _ T20 (mkF m_ 92 #[.val (.int p)] [(.ref r9)])
                      refine Go.retA X20 hx hret hlk rfl rfl rfl (hb hby d1_92) (by decide) (by decide) ?_
                      exact ⟨by unfold own_pick; rw [if_neg hc1_1, if_neg hc10_3, if_neg hc19_5, if_neg hc28_7, if_neg hc37_9, if_neg hc46_11, if_neg hc56_13, if_neg hc66_15, if_neg hc76_17, if_pos hc86_19] <;> rfl, N0, e20⟩
                    · skip
                      refine Go.icmpYes X0 hx (pc' := 93) (hb hby d1_86) (feq hc86_19).2 (by decide) (by decide) ?_
                      show Go p_ e_ below _ _ s₁ (mkF m_ 93 #[.val (.int p)] [])
                      refine Go.iloadN X0 hx (hb hby d1_93) rfl ?_
                      refine Go.bipush X0 hx (10 : Int32) (hb hby d1_94) rfl ?_
                      by_cases hc96_21 : p = (10 : Int32)
                      · skip
                        refine Go.icmpNo X0 hx (hb hby d1_96) (teq hc96_21).2 ?_
                        show Go p_ e_ below _ _ s₁ (mkF m_ 99 #[.val (.int p)] [])
                        refine Go.getS X0 hx hZ hown (host := "") (Or.inl (hw _ (List.mem_of_getElem? (i := 30) rfl))) Via.refl e0 (S_r10.ext O.2) (hb hby d1_99) ?_
                        intro T22 X22 e22
                        show Go p_ e_ below _ _ T22 (mkF m_ 102 #[.val (.int p)] [(.ref r10)])
                        refine Go.retA X22 hx hret hlk rfl rfl rfl (hb hby d1_102) (by decide) (by decide) ?_
                        exact ⟨by unfold own_pick; rw [if_neg hc1_1, if_neg hc10_3, if_neg hc19_5, if_neg hc28_7, if_neg hc37_9, if_neg hc46_11, if_neg hc56_13, if_neg hc66_15, if_neg hc76_17, if_neg hc86_19, if_pos hc96_21] <;> rfl, N0, e22⟩
                      · skip
                        refine Go.icmpYes X0 hx (pc' := 103) (hb hby d1_96) (feq hc96_21).2 (by decide) (by decide) ?_
                        show Go p_ e_ below _ _ s₁ (mkF m_ 103 #[.val (.int p)] [])
                        refine Go.iloadN X0 hx (hb hby d1_103) rfl ?_
                        refine Go.bipush X0 hx (11 : Int32) (hb hby d1_104) rfl ?_
                        by_cases hc106_23 : p = (11 : Int32)
                        · skip
                          refine Go.icmpNo X0 hx (hb hby d1_106) (teq hc106_23).2 ?_
                          show Go p_ e_ below _ _ s₁ (mkF m_ 109 #[.val (.int p)] [])
                          refine Go.getS X0 hx hZ hown (host := "") (Or.inl (hw _ (List.mem_of_getElem? (i := 34) rfl))) Via.refl e0 (S_r11.ext O.2) (hb hby d1_109) ?_
                          intro T24 X24 e24
                          show Go p_ e_ below _ _ T24 (mkF m_ 112 #[.val (.int p)] [(.ref r11)])
                          refine Go.retA X24 hx hret hlk rfl rfl rfl (hb hby d1_112) (by decide) (by decide) ?_
                          exact ⟨by unfold own_pick; rw [if_neg hc1_1, if_neg hc10_3, if_neg hc19_5, if_neg hc28_7, if_neg hc37_9, if_neg hc46_11, if_neg hc56_13, if_neg hc66_15, if_neg hc76_17, if_neg hc86_19, if_neg hc96_21, if_pos hc106_23] <;> rfl, N0, e24⟩
                        · skip
                          refine Go.icmpYes X0 hx (pc' := 113) (hb hby d1_106) (feq hc106_23).2 (by decide) (by decide) ?_
                          show Go p_ e_ below _ _ s₁ (mkF m_ 113 #[.val (.int p)] [])
                          refine Go.iloadN X0 hx (hb hby d1_113) rfl ?_
                          refine Go.bipush X0 hx (12 : Int32) (hb hby d1_114) rfl ?_
                          by_cases hc116_25 : p = (12 : Int32)
                          · skip
                            refine Go.icmpNo X0 hx (hb hby d1_116) (teq hc116_25).2 ?_
                            show Go p_ e_ below _ _ s₁ (mkF m_ 119 #[.val (.int p)] [])
                            refine Go.getS X0 hx hZ hown (host := "") (Or.inl (hw _ (List.mem_of_getElem? (i := 46) rfl))) Via.refl e0 (S_r12.ext O.2) (hb hby d1_119) ?_
                            intro T26 X26 e26
                            show Go p_ e_ below _ _ T26 (mkF m_ 122 #[.val (.int p)] [(.ref r12)])
                            refine Go.retA X26 hx hret hlk rfl rfl rfl (hb hby d1_122) (by decide) (by decide) ?_
                            exact ⟨by unfold own_pick; rw [if_neg hc1_1, if_neg hc10_3, if_neg hc19_5, if_neg hc28_7, if_neg hc37_9, if_neg hc46_11, if_neg hc56_13, if_neg hc66_15, if_neg hc76_17, if_neg hc86_19, if_neg hc96_21, if_neg hc106_23, if_pos hc116_25] <;> rfl, N0, e26⟩
                          · skip
                            refine Go.icmpYes X0 hx (pc' := 123) (hb hby d1_116) (feq hc116_25).2 (by decide) (by decide) ?_
                            show Go p_ e_ below _ _ s₁ (mkF m_ 123 #[.val (.int p)] [])
                            refine Go.iloadN X0 hx (hb hby d1_123) rfl ?_
                            refine Go.bipush X0 hx (13 : Int32) (hb hby d1_124) rfl ?_
                            by_cases hc126_27 : p = (13 : Int32)
                            · skip
                              refine Go.icmpNo X0 hx (hb hby d1_126) (teq hc126_27).2 ?_
                              show Go p_ e_ below _ _ s₁ (mkF m_ 129 #[.val (.int p)] [])
                              refine Go.getS X0 hx hZ hown (host := "") (Or.inl (hw _ (List.mem_of_getElem? (i := 32) rfl))) Via.refl e0 (S_r13.ext O.2) (hb hby d1_129) ?_
                              intro T28 X28 e28
                              show Go p_ e_ below _ _ T28 (mkF m_ 132 #[.val (.int p)] [(.ref r13)])
                              refine Go.retA X28 hx hret hlk rfl rfl rfl (hb hby d1_132) (by decide) (by decide) ?_
                              exact ⟨by unfold own_pick; rw [if_neg hc1_1, if_neg hc10_3, if_neg hc19_5, if_neg hc28_7, if_neg hc37_9, if_neg hc46_11, if_neg hc56_13, if_neg hc66_15, if_neg hc76_17, if_neg hc86_19, if_neg hc96_21, if_neg hc106_23, if_neg hc116_25, if_pos hc126_27] <;> rfl, N0, e28⟩
                            · skip
                              refine Go.icmpYes X0 hx (pc' := 133) (hb hby d1_126) (feq hc126_27).2 (by decide) (by decide) ?_
                              show Go p_ e_ below _ _ s₁ (mkF m_ 133 #[.val (.int p)] [])
                              refine Go.iloadN X0 hx (hb hby d1_133) rfl ?_
                              refine Go.bipush X0 hx (14 : Int32) (hb hby d1_134) rfl ?_
                              by_cases hc136_29 : p = (14 : Int32)
                              · skip
                                refine Go.icmpNo X0 hx (hb hby d1_136) (teq hc136_29).2 ?_
                                show Go p_ e_ below _ _ s₁ (mkF m_ 139 #[.val (.int p)] [])
                                refine Go.getS X0 hx hZ hown (host := "") (Or.inl (hw _ (List.mem_of_getElem? (i := 42) rfl))) Via.refl e0 (S_r14.ext O.2) (hb hby d1_139) ?_
                                intro T30 X30 e30
                                show Go p_ e_ below _ _ T30 (mkF m_ 142 #[.val (.int p)] [(.ref r14)])
                                refine Go.retA X30 hx hret hlk rfl rfl rfl (hb hby d1_142) (by decide) (by decide) ?_
                                exact ⟨by unfold own_pick; rw [if_neg hc1_1, if_neg hc10_3, if_neg hc19_5, if_neg hc28_7, if_neg hc37_9, if_neg hc46_11, if_neg hc56_13, if_neg hc66_15, if_neg hc76_17, if_neg hc86_19, if_neg hc96_21, if_neg hc106_23, if_neg hc116_25, if_neg hc126_27, if_pos hc136_29] <;> rfl, N0, e30⟩
                              · skip
                                refine Go.icmpYes X0 hx (pc' := 143) (hb hby d1_136) (feq hc136_29).2 (by decide) (by decide) ?_
                                show Go p_ e_ below _ _ s₁ (mkF m_ 143 #[.val (.int p)] [])
                                refine Go.getS X0 hx hZ hown (host := "") (Or.inl (hw _ (List.mem_of_getElem? (i := 22) rfl))) Via.refl e0 (S_r15.ext O.2) (hb hby d1_143) ?_
                                intro T31 X31 e31
                                show Go p_ e_ below _ _ T31 (mkF m_ 146 #[.val (.int p)] [(.ref r15)])
                                refine Go.retA X31 hx hret hlk rfl rfl rfl (hb hby d1_146) (by decide) (by decide) ?_
                                exact ⟨by unfold own_pick; rw [if_neg hc1_1, if_neg hc10_3, if_neg hc19_5, if_neg hc28_7, if_neg hc37_9, if_neg hc46_11, if_neg hc56_13, if_neg hc66_15, if_neg hc76_17, if_neg hc86_19, if_neg hc96_21, if_neg hc106_23, if_neg hc116_25, if_neg hc126_27, if_neg hc136_29] <;> rfl, N0, e31⟩
def own_sup (p : Int32)  (mi : Int32) (ma : Int32) : Int32 := (if p < mi then (0 : Int32) else (if ma < p then (0 : Int32) else (1 : Int32)))
theorem d2_0 : decode prog_9_method_8_code 0 = .ok (.iload_n 1, 1) := by decide +kernel
theorem d2_1 : decode prog_9_method_8_code 1 = .ok (.aload_n 0, 1) := by decide +kernel
theorem d2_2 : decode prog_9_method_8_code 2 = .ok (.getfield 75, 3) := by decide +kernel
theorem d2_5 : decode prog_9_method_8_code 5 = .ok (.if_icmp .lt 15, 3) := by decide +kernel
theorem d2_8 : decode prog_9_method_8_code 8 = .ok (.iload_n 1, 1) := by decide +kernel
theorem d2_9 : decode prog_9_method_8_code 9 = .ok (.aload_n 0, 1) := by decide +kernel
theorem d2_10 : decode prog_9_method_8_code 10 = .ok (.getfield 78, 3) := by decide +kernel
theorem d2_13 : decode prog_9_method_8_code 13 = .ok (.if_icmp .gt 7, 3) := by decide +kernel
theorem d2_16 : decode prog_9_method_8_code 16 = .ok (.iconst 1, 1) := by decide +kernel
theorem d2_17 : decode prog_9_method_8_code 17 = .ok (.goto 4, 3) := by decide +kernel
theorem d2_20 : decode prog_9_method_8_code 20 = .ok (.iconst 0, 1) := by decide +kernel
theorem d2_21 : decode prog_9_method_8_code 21 = .ok (.ireturn, 1) := by decide +kernel
theorem pn_2 : plainName "com/example/whelk/whelk/io/ApiKey" = true := by first | (simp [plainName, overriddenIn]; done) | decide +kernel
theorem ef_rm2 (m_ : MethodId) (a : Addr) (p : Int32) : entryFrame m_ #[(.ref a), (.int p)] 2 = mkF m_ 0 #[.val (.ref a), .val (.int p)] [] := by first | (simp [entryFrame, mkF, argsToLocals, Value.category]; done) | rfl
def Q2 (Z : State) (a : Addr) (p : Int32)  (mi : Int32) (ma : Int32) (h0 : Heap) (n0 : Nat) (v : Option Value) (h : Heap) (L : List Loc) : Prop := v = some (.int (own_sup p mi ma)) ∧ Fr n0 L ∧ h = h0
set_option maxRecDepth 65536 in
set_option maxHeartbeats 40000000 in
theorem rm2 (l : Launch) (Z : State) (a0 : Array Value) (hw : ∀ d ∈ tables_1, d.before a0 Z = true) (ws : List Jvm.Cond) (a : Addr) (p : Int32)  (mi : Int32) (ma : Int32) (h0 : Heap) (n0 : Nat) (Z0 : n0 ≤ h0.size)  (F_mi : Fld Z h0 a "com/example/whelk/whelk/io/ApiKey" "minVersion" "S" (.int mi)) (F_ma : Fld Z h0 a "com/example/whelk/whelk/io/ApiKey" "maxVersion" "S" (.int ma)) :
    MetFree l (⟨"com/example/whelk/whelk/io/ApiKey", "supports", "(S)Z"⟩ : MethodName) (head1 (Jvm.Cond.code (⟨"com/example/whelk/whelk/io/ApiKey", "supports", "(S)Z"⟩ : MethodName) prog_9_method_8_code 2 (some .boolean) :: ws) ({ frames := 0, cells := 0, slots := 0, locals := 0 } : Room)) (fun a_ U_ => a_ = #[(.ref a), (.int p)] ∧ Z.Warmed39 U_.vm ∧ U_.heap = h0) (fun _ _ _ _ _ => True) (fun _ U_ o_ V_ => ∃ v_ L_, o_ = .returned v_ ∧ Q2 Z a p mi ma h0 n0 v_ V_.heap L_ ∧ FrameEnd U_ o_ V_ L_ ({ frames := 0, cells := 0, slots := 0, locals := 0 } : Room).cells ({ frames := 0, cells := 0, slots := 0, locals := 0 } : Room).slots) := by
  refine metOf (Q := Q2 Z a p mi ma h0 n0) (plainFor_of_name pn_2) ?_
  intro p_ e_ s_ m_ below meth c_ s₁ X0 hx hby hml hret hlk hZ hown hnm e0
  rw [ef_rm2]
  have N0 := Fr.nil n0
  show Go p_ e_ below _ _ s₁ (mkF m_ 0 #[.val (.ref a), .val (.int p)] [])
  refine Go.iloadN X0 hx (hb hby d2_0) rfl ?_
  refine Go.aloadN X0 hx (hb hby d2_1) rfl rfl ?_
  refine Go.getF X0 hx hZ hown (host := "") (Or.inl (hw _ (List.mem_of_getElem? (i := 14) rfl))) Via.refl e0 F_mi (hb hby d2_2) ?_
  intro T1 X1 e1
  show Go p_ e_ below _ _ T1 (mkF m_ 5 #[.val (.ref a), .val (.int p)] [(.int mi), (.int p)])
  by_cases hc5_2 : p < mi
  · skip
    refine Go.icmpYes X1 hx (pc' := 20) (hb hby d2_5) (tlt hc5_2).1 (by decide) (by decide) ?_
    show Go p_ e_ below _ _ T1 (mkF m_ 20 #[.val (.ref a), .val (.int p)] [])
    refine Go.iconst X1 hx (0 : Int32) (hb hby d2_20) rfl ?_
    refine Go.retN X1 hx hret hlk (by simp) (hb hby d2_21) (by decide) (by decide) ?_
    exact ⟨by unfold own_sup; rw [if_pos hc5_2] <;> rfl, N0, e1⟩
  · skip
    refine Go.icmpNo X1 hx (hb hby d2_5) (flt hc5_2).1 ?_
    show Go p_ e_ below _ _ T1 (mkF m_ 8 #[.val (.ref a), .val (.int p)] [])
    refine Go.iloadN X1 hx (hb hby d2_8) rfl ?_
    refine Go.aloadN X1 hx (hb hby d2_9) rfl rfl ?_
    refine Go.getF X1 hx hZ hown (host := "") (Or.inl (hw _ (List.mem_of_getElem? (i := 16) rfl))) Via.refl e1 F_ma (hb hby d2_10) ?_
    intro T3 X3 e3
    show Go p_ e_ below _ _ T3 (mkF m_ 13 #[.val (.ref a), .val (.int p)] [(.int ma), (.int p)])
    by_cases hc13_4 : ma < p
    · skip
      refine Go.icmpYes X3 hx (pc' := 20) (hb hby d2_13) (tlt hc13_4).2.2.1 (by decide) (by decide) ?_
      show Go p_ e_ below _ _ T3 (mkF m_ 20 #[.val (.ref a), .val (.int p)] [])
      refine Go.iconst X3 hx (0 : Int32) (hb hby d2_20) rfl ?_
      refine Go.retN X3 hx hret hlk (by simp) (hb hby d2_21) (by decide) (by decide) ?_
      exact ⟨by unfold own_sup; rw [if_neg hc5_2, if_pos hc13_4] <;> rfl, N0, e3⟩
    · skip
      refine Go.icmpNo X3 hx (hb hby d2_13) (flt hc13_4).2.2.1 ?_
      show Go p_ e_ below _ _ T3 (mkF m_ 16 #[.val (.ref a), .val (.int p)] [])
      refine Go.iconst X3 hx (1 : Int32) (hb hby d2_16) rfl ?_
      refine Go.goto X3 hx (pc' := 21) (hb hby d2_17) (by decide) (by decide) ?_
      refine Go.retN X3 hx hret hlk (by simp) (hb hby d2_21) (by decide) (by decide) ?_
      exact ⟨by unfold own_sup; rw [if_neg hc5_2, if_neg hc13_4] <;> rfl, N0, e3⟩
theorem own_k16 (k : Int32) (h0 : 0 ≤ k.toInt) (h1 : k.toInt < 16) : k = (0 : Int32) ∨ k = (1 : Int32) ∨ k = (2 : Int32) ∨ k = (3 : Int32) ∨ k = (4 : Int32) ∨ k = (5 : Int32) ∨ k = (6 : Int32) ∨ k = (7 : Int32) ∨ k = (8 : Int32) ∨ k = (9 : Int32) ∨ k = (10 : Int32) ∨ k = (11 : Int32) ∨ k = (12 : Int32) ∨ k = (13 : Int32) ∨ k = (14 : Int32) ∨ k = (15 : Int32) := by
  simp only [← Int32.toInt_inj]
  have e0 : (0 : Int32).toInt = 0 := rfl
  have e1 : (1 : Int32).toInt = 1 := rfl
  have e2 : (2 : Int32).toInt = 2 := rfl
  have e3 : (3 : Int32).toInt = 3 := rfl
  have e4 : (4 : Int32).toInt = 4 := rfl
  have e5 : (5 : Int32).toInt = 5 := rfl
  have e6 : (6 : Int32).toInt = 6 := rfl
  have e7 : (7 : Int32).toInt = 7 := rfl
  have e8 : (8 : Int32).toInt = 8 := rfl
  have e9 : (9 : Int32).toInt = 9 := rfl
  have e10 : (10 : Int32).toInt = 10 := rfl
  have e11 : (11 : Int32).toInt = 11 := rfl
  have e12 : (12 : Int32).toInt = 12 := rfl
  have e13 : (13 : Int32).toInt = 13 := rfl
  have e14 : (14 : Int32).toInt = 14 := rfl
  have e15 : (15 : Int32).toInt = 15 := rfl
  omega
theorem own_tab {Z : State} (k : Int32) (r0 : Addr) (r1 : Addr) (r2 : Addr) (r3 : Addr) (r4 : Addr) (r5 : Addr) (r6 : Addr) (r7 : Addr) (r8 : Addr) (r9 : Addr) (r10 : Addr) (r11 : Addr) (r12 : Addr) (r13 : Addr) (r14 : Addr) (r15 : Addr) (h0 : 0 ≤ k.toInt) (h1 : k.toInt < 16) (E_r0 : Exa Z Z.heap r0 "com/example/whelk/whelk/io/ApiKey") (A_r0 : Fld Z Z.heap r0 "com/example/whelk/whelk/io/ApiKey" "minVersion" "S" (.int (0 : Int32))) (B_r0 : Fld Z Z.heap r0 "com/example/whelk/whelk/io/ApiKey" "maxVersion" "S" (.int (7 : Int32))) (E_r1 : Exa Z Z.heap r1 "com/example/whelk/whelk/io/ApiKey") (A_r1 : Fld Z Z.heap r1 "com/example/whelk/whelk/io/ApiKey" "minVersion" "S" (.int (4 : Int32))) (B_r1 : Fld Z Z.heap r1 "com/example/whelk/whelk/io/ApiKey" "maxVersion" "S" (.int (11 : Int32))) (E_r2 : Exa Z Z.heap r2 "com/example/whelk/whelk/io/ApiKey") (A_r2 : Fld Z Z.heap r2 "com/example/whelk/whelk/io/ApiKey" "minVersion" "S" (.int (1 : Int32))) (B_r2 : Fld Z Z.heap r2 "com/example/whelk/whelk/io/ApiKey" "maxVersion" "S" (.int (2 : Int32))) (E_r3 : Exa Z Z.heap r3 "com/example/whelk/whelk/io/ApiKey") (A_r3 : Fld Z Z.heap r3 "com/example/whelk/whelk/io/ApiKey" "minVersion" "S" (.int (0 : Int32))) (B_r3 : Fld Z Z.heap r3 "com/example/whelk/whelk/io/ApiKey" "maxVersion" "S" (.int (4 : Int32))) (E_r4 : Exa Z Z.heap r4 "com/example/whelk/whelk/io/ApiKey") (A_r4 : Fld Z Z.heap r4 "com/example/whelk/whelk/io/ApiKey" "minVersion" "S" (.int (0 : Int32))) (B_r4 : Fld Z Z.heap r4 "com/example/whelk/whelk/io/ApiKey" "maxVersion" "S" (.int (7 : Int32))) (E_r5 : Exa Z Z.heap r5 "com/example/whelk/whelk/io/ApiKey") (A_r5 : Fld Z Z.heap r5 "com/example/whelk/whelk/io/ApiKey" "minVersion" "S" (.int (0 : Int32))) (B_r5 : Fld Z Z.heap r5 "com/example/whelk/whelk/io/ApiKey" "maxVersion" "S" (.int (7 : Int32))) (E_r6 : Exa Z Z.heap r6 "com/example/whelk/whelk/io/ApiKey") (A_r6 : Fld Z Z.heap r6 "com/example/whelk/whelk/io/ApiKey" "minVersion" "S" (.int (0 : Int32))) (B_r6 : Fld Z Z.heap r6 "com/example/whelk/whelk/io/ApiKey" "maxVersion" "S" (.int (2 : Int32))) (E_r7 : Exa Z Z.heap r7 "com/example/whelk/whelk/io/ApiKey") (A_r7 : Fld Z Z.heap r7 "com/example/whelk/whelk/io/ApiKey" "minVersion" "S" (.int (0 : Int32))) (B_r7 : Fld Z Z.heap r7 "com/example/whelk/whelk/io/ApiKey" "maxVersion" "S" (.int (5 : Int32))) (E_r8 : Exa Z Z.heap r8 "com/example/whelk/whelk/io/ApiKey") (A_r8 : Fld Z Z.heap r8 "com/example/whelk/whelk/io/ApiKey" "minVersion" "S" (.int (0 : Int32))) (B_r8 : Fld Z Z.heap r8 "com/example/whelk/whelk/io/ApiKey" "maxVersion" "S" (.int (3 : Int32))) (E_r9 : Exa Z Z.heap r9 "com/example/whelk/whelk/io/ApiKey") (A_r9 : Fld Z Z.heap r9 "com/example/whelk/whelk/io/ApiKey" "minVersion" "S" (.int (0 : Int32))) (B_r9 : Fld Z Z.heap r9 "com/example/whelk/whelk/io/ApiKey" "maxVersion" "S" (.int (2 : Int32))) (E_r10 : Exa Z Z.heap r10 "com/example/whelk/whelk/io/ApiKey") (A_r10 : Fld Z Z.heap r10 "com/example/whelk/whelk/io/ApiKey" "minVersion" "S" (.int (0 : Int32))) (B_r10 : Fld Z Z.heap r10 "com/example/whelk/whelk/io/ApiKey" "maxVersion" "S" (.int (3 : Int32))) (E_r11 : Exa Z Z.heap r11 "com/example/whelk/whelk/io/ApiKey") (A_r11 : Fld Z Z.heap r11 "com/example/whelk/whelk/io/ApiKey" "minVersion" "S" (.int (0 : Int32))) (B_r11 : Fld Z Z.heap r11 "com/example/whelk/whelk/io/ApiKey" "maxVersion" "S" (.int (3 : Int32))) (E_r12 : Exa Z Z.heap r12 "com/example/whelk/whelk/io/ApiKey") (A_r12 : Fld Z Z.heap r12 "com/example/whelk/whelk/io/ApiKey" "minVersion" "S" (.int (0 : Int32))) (B_r12 : Fld Z Z.heap r12 "com/example/whelk/whelk/io/ApiKey" "maxVersion" "S" (.int (4 : Int32))) (E_r13 : Exa Z Z.heap r13 "com/example/whelk/whelk/io/ApiKey") (A_r13 : Fld Z Z.heap r13 "com/example/whelk/whelk/io/ApiKey" "minVersion" "S" (.int (0 : Int32))) (B_r13 : Fld Z Z.heap r13 "com/example/whelk/whelk/io/ApiKey" "maxVersion" "S" (.int (3 : Int32))) (E_r14 : Exa Z Z.heap r14 "com/example/whelk/whelk/io/ApiKey") (A_r14 : Fld Z Z.heap r14 "com/example/whelk/whelk/io/ApiKey" "minVersion" "S" (.int (0 : Int32))) (B_r14 : Fld Z Z.heap r14 "com/example/whelk/whelk/io/ApiKey" "maxVersion" "S" (.int (4 : Int32))) (E_r15 : Exa Z Z.heap r15 "com/example/whelk/whelk/io/ApiKey") (A_r15 : Fld Z Z.heap r15 "com/example/whelk/whelk/io/ApiKey" "minVersion" "S" (.int (0 : Int32))) (B_r15 : Fld Z Z.heap r15 "com/example/whelk/whelk/io/ApiKey" "maxVersion" "S" (.int (1 : Int32))) :
    ∃ (rk : Addr) (lo hi : Int32), ([(.int (0 : Int32)), (.int (4 : Int32)), (.int (1 : Int32)), (.int (0 : Int32)), (.int (0 : Int32)), (.int (0 : Int32)), (.int (0 : Int32)), (.int (0 : Int32)), (.int (0 : Int32)), (.int (0 : Int32)), (.int (0 : Int32)), (.int (0 : Int32)), (.int (0 : Int32)), (.int (0 : Int32)), (.int (0 : Int32)), (.int (0 : Int32))] : List Value).getD k.toNatClampNeg (.int (0 : Int32)) = .int lo ∧ ([(.int (7 : Int32)), (.int (11 : Int32)), (.int (2 : Int32)), (.int (4 : Int32)), (.int (7 : Int32)), (.int (7 : Int32)), (.int (2 : Int32)), (.int (5 : Int32)), (.int (3 : Int32)), (.int (2 : Int32)), (.int (3 : Int32)), (.int (3 : Int32)), (.int (4 : Int32)), (.int (3 : Int32)), (.int (4 : Int32)), (.int (1 : Int32))] : List Value).getD k.toNatClampNeg (.int (0 : Int32)) = .int hi ∧ own_pick k r0 r1 r2 r3 r4 r5 r6 r7 r8 r9 r10 r11 r12 r13 r14 r15 = rk ∧ Exa Z Z.heap rk "com/example/whelk/whelk/io/ApiKey" ∧ Fld Z Z.heap rk "com/example/whelk/whelk/io/ApiKey" "minVersion" "S" (.int lo) ∧ Fld Z Z.heap rk "com/example/whelk/whelk/io/ApiKey" "maxVersion" "S" (.int hi) := by
  rcases own_k16 k h0 h1 with rfl | rfl | rfl | rfl | rfl | rfl | rfl | rfl | rfl | rfl | rfl | rfl | rfl | rfl | rfl | rfl
  · exact ⟨r0, _, _, rfl, rfl, rfl, E_r0, A_r0, B_r0⟩
  · exact ⟨r1, _, _, rfl, rfl, rfl, E_r1, A_r1, B_r1⟩
  · exact ⟨r2, _, _, rfl, rfl, rfl, E_r2, A_r2, B_r2⟩
  · exact ⟨r3, _, _, rfl, rfl, rfl, E_r3, A_r3, B_r3⟩
  · exact ⟨r4, _, _, rfl, rfl, rfl, E_r4, A_r4, B_r4⟩
  · exact ⟨r5, _, _, rfl, rfl, rfl, E_r5, A_r5, B_r5⟩
  · exact ⟨r6, _, _, rfl, rfl, rfl, E_r6, A_r6, B_r6⟩
  · exact ⟨r7, _, _, rfl, rfl, rfl, E_r7, A_r7, B_r7⟩
  · exact ⟨r8, _, _, rfl, rfl, rfl, E_r8, A_r8, B_r8⟩
  · exact ⟨r9, _, _, rfl, rfl, rfl, E_r9, A_r9, B_r9⟩
  · exact ⟨r10, _, _, rfl, rfl, rfl, E_r10, A_r10, B_r10⟩
  · exact ⟨r11, _, _, rfl, rfl, rfl, E_r11, A_r11, B_r11⟩
  · exact ⟨r12, _, _, rfl, rfl, rfl, E_r12, A_r12, B_r12⟩
  · exact ⟨r13, _, _, rfl, rfl, rfl, E_r13, A_r13, B_r13⟩
  · exact ⟨r14, _, _, rfl, rfl, rfl, E_r14, A_r14, B_r14⟩
  · exact ⟨r15, _, _, rfl, rfl, rfl, E_r15, A_r15, B_r15⟩
theorem own_kr (x : Int32) : 0 ≤ ((x &&& (2147483647 : Int32)) % (16 : Int32)).toInt ∧ ((x &&& (2147483647 : Int32)) % (16 : Int32)).toInt < 16 := by
  have h1 : (x &&& 2147483647).toInt = x.toInt % (2 ^ 31 : Nat) := c_mask x 2147483647 31 (by decide) (by decide)
  have h2 := c_irem (x &&& 2147483647) 16 16 (by decide)
  omega
theorem own_kin {k : Int32} (h : 0 ≤ k.toInt ∧ k.toInt < 16) : ¬ k < 0 ∧ k < (16 : Int32) := by
  have e0 : (0 : Int32).toInt = 0 := rfl
  have e1 : (16 : Int32).toInt = 16 := rfl
  rw [Int32.lt_iff_toInt_lt, Int32.lt_iff_toInt_lt]
  omega
theorem own_fin (v lo hi ex : Int32) (h : ex = if v < lo then (0 : Int32) else if hi < v then (0 : Int32) else (1 : Int32)) : own_sup v lo hi = ex := by
  subst h; unfold own_sup; rfl
theorem pd_oIcLcom_example_whelk_whelk_io_ApiKey : parseMethodDescriptor "(I)Lcom/example/whelk/whelk/io/ApiKey;" = some ⟨[.int], some (.object "com/example/whelk/whelk/io/ApiKey")⟩ := by decide +kernel
theorem pd_oScZ : parseMethodDescriptor "(S)Z" = some ⟨[.short], some .boolean⟩ := by decide +kernel
theorem pn_0 : plainName "com/example/whelk/whelk/io/ApiKeySupportsPinLaw" = true := by first | (simp [plainName, overriddenIn]; done) | decide +kernel
theorem ef_rm0 (m_ : MethodId) (p0 : Int32) (p1 : Int32) (p2 : Int32) : entryFrame m_ #[(.int p0), (.int p1), (.int p2)] maxLocals = mkF m_ 0 #[.val (.int p0), .val (.int p1), .val (.int p2), .unset, .unset, .unset, .unset, .unset, .unset, .unset, .unset] [] := by first | (simp [entryFrame, mkF, argsToLocals, Value.category, maxLocals]; done) | rfl
def Q0 (Z : State) (p0 : Int32) (p1 : Int32) (p2 : Int32) (r0 : Addr) (r1 : Addr) (r2 : Addr) (r3 : Addr) (r4 : Addr) (r5 : Addr) (r6 : Addr) (r7 : Addr) (r8 : Addr) (r9 : Addr) (r10 : Addr) (r11 : Addr) (r12 : Addr) (r13 : Addr) (r14 : Addr) (r15 : Addr) (h0 : Heap) (n0 : Nat) (v : Option Value) (h : Heap) (L : List Loc) : Prop := v = some (.int 1) ∧ Fr n0 L
set_option maxRecDepth 65536 in
set_option maxHeartbeats 40000000 in
theorem rm0 (l : Launch) (Z : State) (a0 : Array Value) (hw : ∀ d ∈ tables_1, d.before a0 Z = true) (ws : List Jvm.Cond) (p0 : Int32) (p1 : Int32) (p2 : Int32) (r0 : Addr) (r1 : Addr) (r2 : Addr) (r3 : Addr) (r4 : Addr) (r5 : Addr) (r6 : Addr) (r7 : Addr) (r8 : Addr) (r9 : Addr) (r10 : Addr) (r11 : Addr) (r12 : Addr) (r13 : Addr) (r14 : Addr) (r15 : Addr) (h0 : Heap) (n0 : Nat) (Z0 : n0 ≤ h0.size) (O : Old Z n0 h0) (S_r0 : Sta Z Z.heap "com/example/whelk/whelk/io/ApiKey" "PRODUCE" "Lcom/example/whelk/whelk/io/ApiKey;" (.ref r0)) (S_r1 : Sta Z Z.heap "com/example/whelk/whelk/io/ApiKey" "FETCH" "Lcom/example/whelk/whelk/io/ApiKey;" (.ref r1)) (S_r2 : Sta Z Z.heap "com/example/whelk/whelk/io/ApiKey" "LIST_OFFSETS" "Lcom/example/whelk/whelk/io/ApiKey;" (.ref r2)) (S_r3 : Sta Z Z.heap "com/example/whelk/whelk/io/ApiKey" "METADATA" "Lcom/example/whelk/whelk/io/ApiKey;" (.ref r3)) (S_r4 : Sta Z Z.heap "com/example/whelk/whelk/io/ApiKey" "OFFSET_COMMIT" "Lcom/example/whelk/whelk/io/ApiKey;" (.ref r4)) (S_r5 : Sta Z Z.heap "com/example/whelk/whelk/io/ApiKey" "OFFSET_FETCH" "Lcom/example/whelk/whelk/io/ApiKey;" (.ref r5)) (S_r6 : Sta Z Z.heap "com/example/whelk/whelk/io/ApiKey" "FIND_COORDINATOR" "Lcom/example/whelk/whelk/io/ApiKey;" (.ref r6)) (S_r7 : Sta Z Z.heap "com/example/whelk/whelk/io/ApiKey" "JOIN_GROUP" "Lcom/example/whelk/whelk/io/ApiKey;" (.ref r7)) (S_r8 : Sta Z Z.heap "com/example/whelk/whelk/io/ApiKey" "HEARTBEAT" "Lcom/example/whelk/whelk/io/ApiKey;" (.ref r8)) (S_r9 : Sta Z Z.heap "com/example/whelk/whelk/io/ApiKey" "LEAVE_GROUP" "Lcom/example/whelk/whelk/io/ApiKey;" (.ref r9)) (S_r10 : Sta Z Z.heap "com/example/whelk/whelk/io/ApiKey" "SYNC_GROUP" "Lcom/example/whelk/whelk/io/ApiKey;" (.ref r10)) (S_r11 : Sta Z Z.heap "com/example/whelk/whelk/io/ApiKey" "API_VERSIONS" "Lcom/example/whelk/whelk/io/ApiKey;" (.ref r11)) (S_r12 : Sta Z Z.heap "com/example/whelk/whelk/io/ApiKey" "CREATE_TOPICS" "Lcom/example/whelk/whelk/io/ApiKey;" (.ref r12)) (S_r13 : Sta Z Z.heap "com/example/whelk/whelk/io/ApiKey" "DELETE_TOPICS" "Lcom/example/whelk/whelk/io/ApiKey;" (.ref r13)) (S_r14 : Sta Z Z.heap "com/example/whelk/whelk/io/ApiKey" "INIT_PRODUCER_ID" "Lcom/example/whelk/whelk/io/ApiKey;" (.ref r14)) (S_r15 : Sta Z Z.heap "com/example/whelk/whelk/io/ApiKey" "CREATE_PARTITIONS" "Lcom/example/whelk/whelk/io/ApiKey;" (.ref r15)) (E_r0 : Exa Z Z.heap r0 "com/example/whelk/whelk/io/ApiKey") (A_r0 : Fld Z Z.heap r0 "com/example/whelk/whelk/io/ApiKey" "minVersion" "S" (.int (0 : Int32))) (B_r0 : Fld Z Z.heap r0 "com/example/whelk/whelk/io/ApiKey" "maxVersion" "S" (.int (7 : Int32))) (E_r1 : Exa Z Z.heap r1 "com/example/whelk/whelk/io/ApiKey") (A_r1 : Fld Z Z.heap r1 "com/example/whelk/whelk/io/ApiKey" "minVersion" "S" (.int (4 : Int32))) (B_r1 : Fld Z Z.heap r1 "com/example/whelk/whelk/io/ApiKey" "maxVersion" "S" (.int (11 : Int32))) (E_r2 : Exa Z Z.heap r2 "com/example/whelk/whelk/io/ApiKey") (A_r2 : Fld Z Z.heap r2 "com/example/whelk/whelk/io/ApiKey" "minVersion" "S" (.int (1 : Int32))) (B_r2 : Fld Z Z.heap r2 "com/example/whelk/whelk/io/ApiKey" "maxVersion" "S" (.int (2 : Int32))) (E_r3 : Exa Z Z.heap r3 "com/example/whelk/whelk/io/ApiKey") (A_r3 : Fld Z Z.heap r3 "com/example/whelk/whelk/io/ApiKey" "minVersion" "S" (.int (0 : Int32))) (B_r3 : Fld Z Z.heap r3 "com/example/whelk/whelk/io/ApiKey" "maxVersion" "S" (.int (4 : Int32))) (E_r4 : Exa Z Z.heap r4 "com/example/whelk/whelk/io/ApiKey") (A_r4 : Fld Z Z.heap r4 "com/example/whelk/whelk/io/ApiKey" "minVersion" "S" (.int (0 : Int32))) (B_r4 : Fld Z Z.heap r4 "com/example/whelk/whelk/io/ApiKey" "maxVersion" "S" (.int (7 : Int32))) (E_r5 : Exa Z Z.heap r5 "com/example/whelk/whelk/io/ApiKey") (A_r5 : Fld Z Z.heap r5 "com/example/whelk/whelk/io/ApiKey" "minVersion" "S" (.int (0 : Int32))) (B_r5 : Fld Z Z.heap r5 "com/example/whelk/whelk/io/ApiKey" "maxVersion" "S" (.int (7 : Int32))) (E_r6 : Exa Z Z.heap r6 "com/example/whelk/whelk/io/ApiKey") (A_r6 : Fld Z Z.heap r6 "com/example/whelk/whelk/io/ApiKey" "minVersion" "S" (.int (0 : Int32))) (B_r6 : Fld Z Z.heap r6 "com/example/whelk/whelk/io/ApiKey" "maxVersion" "S" (.int (2 : Int32))) (E_r7 : Exa Z Z.heap r7 "com/example/whelk/whelk/io/ApiKey") (A_r7 : Fld Z Z.heap r7 "com/example/whelk/whelk/io/ApiKey" "minVersion" "S" (.int (0 : Int32))) (B_r7 : Fld Z Z.heap r7 "com/example/whelk/whelk/io/ApiKey" "maxVersion" "S" (.int (5 : Int32))) (E_r8 : Exa Z Z.heap r8 "com/example/whelk/whelk/io/ApiKey") (A_r8 : Fld Z Z.heap r8 "com/example/whelk/whelk/io/ApiKey" "minVersion" "S" (.int (0 : Int32))) (B_r8 : Fld Z Z.heap r8 "com/example/whelk/whelk/io/ApiKey" "maxVersion" "S" (.int (3 : Int32))) (E_r9 : Exa Z Z.heap r9 "com/example/whelk/whelk/io/ApiKey") (A_r9 : Fld Z Z.heap r9 "com/example/whelk/whelk/io/ApiKey" "minVersion" "S" (.int (0 : Int32))) (B_r9 : Fld Z Z.heap r9 "com/example/whelk/whelk/io/ApiKey" "maxVersion" "S" (.int (2 : Int32))) (E_r10 : Exa Z Z.heap r10 "com/example/whelk/whelk/io/ApiKey") (A_r10 : Fld Z Z.heap r10 "com/example/whelk/whelk/io/ApiKey" "minVersion" "S" (.int (0 : Int32))) (B_r10 : Fld Z Z.heap r10 "com/example/whelk/whelk/io/ApiKey" "maxVersion" "S" (.int (3 : Int32))) (E_r11 : Exa Z Z.heap r11 "com/example/whelk/whelk/io/ApiKey") (A_r11 : Fld Z Z.heap r11 "com/example/whelk/whelk/io/ApiKey" "minVersion" "S" (.int (0 : Int32))) (B_r11 : Fld Z Z.heap r11 "com/example/whelk/whelk/io/ApiKey" "maxVersion" "S" (.int (3 : Int32))) (E_r12 : Exa Z Z.heap r12 "com/example/whelk/whelk/io/ApiKey") (A_r12 : Fld Z Z.heap r12 "com/example/whelk/whelk/io/ApiKey" "minVersion" "S" (.int (0 : Int32))) (B_r12 : Fld Z Z.heap r12 "com/example/whelk/whelk/io/ApiKey" "maxVersion" "S" (.int (4 : Int32))) (E_r13 : Exa Z Z.heap r13 "com/example/whelk/whelk/io/ApiKey") (A_r13 : Fld Z Z.heap r13 "com/example/whelk/whelk/io/ApiKey" "minVersion" "S" (.int (0 : Int32))) (B_r13 : Fld Z Z.heap r13 "com/example/whelk/whelk/io/ApiKey" "maxVersion" "S" (.int (3 : Int32))) (E_r14 : Exa Z Z.heap r14 "com/example/whelk/whelk/io/ApiKey") (A_r14 : Fld Z Z.heap r14 "com/example/whelk/whelk/io/ApiKey" "minVersion" "S" (.int (0 : Int32))) (B_r14 : Fld Z Z.heap r14 "com/example/whelk/whelk/io/ApiKey" "maxVersion" "S" (.int (4 : Int32))) (E_r15 : Exa Z Z.heap r15 "com/example/whelk/whelk/io/ApiKey") (A_r15 : Fld Z Z.heap r15 "com/example/whelk/whelk/io/ApiKey" "minVersion" "S" (.int (0 : Int32))) (B_r15 : Fld Z Z.heap r15 "com/example/whelk/whelk/io/ApiKey" "maxVersion" "S" (.int (1 : Int32))) :
    MetFree l x (head1 (Jvm.Cond.code x code maxLocals ret :: ws) room_1) (fun a_ U_ => a_ = #[(.int p0), (.int p1), (.int p2)] ∧ Z.Warmed39 U_.vm ∧ U_.heap = h0) (fun _ _ _ _ _ => True) (fun _ U_ o_ V_ => ∃ v_ L_, o_ = .returned v_ ∧ Q0 Z p0 p1 p2 r0 r1 r2 r3 r4 r5 r6 r7 r8 r9 r10 r11 r12 r13 r14 r15 h0 n0 v_ V_.heap L_ ∧ FrameEnd U_ o_ V_ L_ room_1.cells room_1.slots) := by
  refine metOf (Q := Q0 Z p0 p1 p2 r0 r1 r2 r3 r4 r5 r6 r7 r8 r9 r10 r11 r12 r13 r14 r15 h0 n0) (plainFor_of_name pn_0) ?_
  intro p_ e_ s_ m_ below meth c_ s₁ X0 hx hby hml hret hlk hZ hown hnm e0
  rw [ef_rm0]
  have N0 := Fr.nil n0
  show Go p_ e_ below _ _ s₁ (mkF m_ 0 #[.val (.int p0), .val (.int p1), .val (.int p2), .unset, .unset, .unset, .unset, .unset, .unset, .unset, .unset] [])
  refine Go.iloadN X0 hx (hb hby at_0) rfl ?_
  refine Go.ldcI X0 hx hZ hown (hw _ (List.mem_of_getElem? (i := 0) rfl)) (hb hby at_1) ?_
  refine Go.iand X0 hx (hb hby at_3) ?_
  refine Go.bipush X0 hx (16 : Int32) (hb hby at_4) rfl ?_
  refine Go.irem X0 hx (hb hby at_6) (by decide) ?_
  refine Go.istoreN X0 hx (l' := #[.val (.int p0), .val (.int p1), .val (.int p2), .val (.int ((p0 &&& (2147483647 : Int32)) % (16 : Int32))), .unset, .unset, .unset, .unset, .unset, .unset, .unset]) (hb hby at_7) rfl ?_
  have j1 : ∀ (T2 : State) (l2 : List Loc) (vv : Int32), Stand p_ l e_ room_1 s_ m_ #[(.int p0), (.int p1), (.int p2)] below meth c_ T2 l2 0 0 → Fr n0 l2 → T2.heap = h0 → (vv = (if (p2 &&& (1 : Int32)) = (0 : Int32) then (((p1 &&& (15 : Int32)) - (2 : Int32)).toInt16.toInt32) else (p1.toInt16.toInt32))) → Go p_ e_ below (FE s_ room_1.cells room_1.slots) (Q0 Z p0 p1 p2 r0 r1 r2 r3 r4 r5 r6 r7 r8 r9 r10 r11 r12 r13 r14 r15 h0 n0) T2 (mkF m_ 30 #[.val (.int p0), .val (.int p1), .val (.int p2), .val (.int ((p0 &&& (2147483647 : Int32)) % (16 : Int32))), .val (.int vv), .unset, .unset, .unset, .unset, .unset, .unset] []) := by
    intro T2 l2 vv X2 N2 e2  h_vv
    show Go p_ e_ below _ _ T2 (mkF m_ 30 #[.val (.int p0), .val (.int p1), .val (.int p2), .val (.int ((p0 &&& (2147483647 : Int32)) % (16 : Int32))), .val (.int vv), .unset, .unset, .unset, .unset, .unset, .unset] [])
    refine Go.bipush X2 hx (16 : Int32) (hb hby at_30) rfl ?_
    refine Go.newP X2 hx hZ (hw _ (List.mem_of_getElem? (i := 1) rfl)) e2 (hb hby at_32) (by decide) (cap := 16) (by decide) (by decide) (by decide) (by decide) ?_
    intro T3 h3 c3 b3 zq3 X3 e3 E3 A3
    have g_b3 : n0 ≤ b3 := Nat.le_trans Z0 (Nat.le_of_eq zq3.symm)
    have Z3 : n0 ≤ h3.size := Nat.le_trans Z0 E3.1
    have O_3_ := O.ext E3
    have V3 : Arv Z h3 b3 c3 .int (16 : Int32) [(.int (0 : Int32)), (.int (0 : Int32)), (.int (0 : Int32)), (.int (0 : Int32)), (.int (0 : Int32)), (.int (0 : Int32)), (.int (0 : Int32)), (.int (0 : Int32)), (.int (0 : Int32)), (.int (0 : Int32)), (.int (0 : Int32)), (.int (0 : Int32)), (.int (0 : Int32)), (.int (0 : Int32)), (.int (0 : Int32)), (.int (0 : Int32))] (.int (0 : Int32)) := (Arv.new A3 (by decide)).pad (pad_rep [] (.int (0 : Int32)) 16)
    show Go p_ e_ below _ _ T3 (mkF m_ 34 #[.val (.int p0), .val (.int p1), .val (.int p2), .val (.int ((p0 &&& (2147483647 : Int32)) % (16 : Int32))), .val (.int vv), .unset, .unset, .unset, .unset, .unset, .unset] [(.ref b3)])
    refine Go.dup X3 hx (hb hby at_34) rfl ?_
    refine Go.iconst X3 hx (0 : Int32) (hb hby at_35) rfl ?_
    refine Go.iconst X3 hx (0 : Int32) (hb hby at_36) rfl ?_
    obtain ⟨cl4, Ar4, q4, S4, M4, H4, G4⟩ := V3
    refine Go.stI X3 hx hZ e3 Ar4 (inb_of S4 ⟨by decide, by decide⟩) (hb hby at_37) ?_
    intro T4 h4 X4 e4 W4
    have N4 := Fr.snoc X4 N2 g_b3
    have V4 : Arv Z h4 b3 c3 .int (16 : Int32) [(.int (0 : Int32)), (.int (0 : Int32)), (.int (0 : Int32)), (.int (0 : Int32)), (.int (0 : Int32)), (.int (0 : Int32)), (.int (0 : Int32)), (.int (0 : Int32)), (.int (0 : Int32)), (.int (0 : Int32)), (.int (0 : Int32)), (.int (0 : Int32)), (.int (0 : Int32)), (.int (0 : Int32)), (.int (0 : Int32)), (.int (0 : Int32))] (.int (0 : Int32)) := Arv.set Ar4 q4 S4 M4 H4 G4 rfl W4 0 rfl (Nat.le_of_ble_eq_true rfl)
    have O_4_ := O_3_.wr W4 g_b3
    have Z4 : n0 ≤ h4.size := by rw [W4.size]; exact Z3
    show Go p_ e_ below _ _ T4 (mkF m_ 38 #[.val (.int p0), .val (.int p1), .val (.int p2), .val (.int ((p0 &&& (2147483647 : Int32)) % (16 : Int32))), .val (.int vv), .unset, .unset, .unset, .unset, .unset, .unset] [(.ref b3)])
    refine Go.dup X4 hx (hb hby at_38) rfl ?_
    refine Go.iconst X4 hx (1 : Int32) (hb hby at_39) rfl ?_
    refine Go.iconst X4 hx (4 : Int32) (hb hby at_40) rfl ?_
    obtain ⟨cl5, Ar5, q5, S5, M5, H5, G5⟩ := V4
    refine Go.stI X4 hx hZ e4 Ar5 (inb_of S5 ⟨by decide, by decide⟩) (hb hby at_41) ?_
    intro T5 h5 X5 e5 W5
    have N5 := Fr.snoc X5 N4 g_b3
    have V5 : Arv Z h5 b3 c3 .int (16 : Int32) [(.int (0 : Int32)), (.int (4 : Int32)), (.int (0 : Int32)), (.int (0 : Int32)), (.int (0 : Int32)), (.int (0 : Int32)), (.int (0 : Int32)), (.int (0 : Int32)), (.int (0 : Int32)), (.int (0 : Int32)), (.int (0 : Int32)), (.int (0 : Int32)), (.int (0 : Int32)), (.int (0 : Int32)), (.int (0 : Int32)), (.int (0 : Int32))] (.int (0 : Int32)) := Arv.set Ar5 q5 S5 M5 H5 G5 rfl W5 1 rfl (Nat.le_of_ble_eq_true rfl)
    have O_5_ := O_4_.wr W5 g_b3
    have Z5 : n0 ≤ h5.size := by rw [W5.size]; exact Z4
    show Go p_ e_ below _ _ T5 (mkF m_ 42 #[.val (.int p0), .val (.int p1), .val (.int p2), .val (.int ((p0 &&& (2147483647 : Int32)) % (16 : Int32))), .val (.int vv), .unset, .unset, .unset, .unset, .unset, .unset] [(.ref b3)])
    refine Go.dup X5 hx (hb hby at_42) rfl ?_
    refine Go.iconst X5 hx (2 : Int32) (hb hby at_43) rfl ?_
    refine Go.iconst X5 hx (1 : Int32) (hb hby at_44) rfl ?_
    obtain ⟨cl6, Ar6, q6, S6, M6, H6, G6⟩ := V5
    refine Go.stI X5 hx hZ e5 Ar6 (inb_of S6 ⟨by decide, by decide⟩) (hb hby at_45) ?_
    intro T6 h6 X6 e6 W6
    have N6 := Fr.snoc X6 N5 g_b3
    have V6 : Arv Z h6 b3 c3 .int (16 : Int32) [(.int (0 : Int32)), (.int (4 : Int32)), (.int (1 : Int32)), (.int (0 : Int32)), (.int (0 : Int32)), (.int (0 : Int32)), (.int (0 : Int32)), (.int (0 : Int32)), (.int (0 : Int32)), (.int (0 : Int32)), (.int (0 : Int32)), (.int (0 : Int32)), (.int (0 : Int32)), (.int (0 : Int32)), (.int (0 : Int32)), (.int (0 : Int32))] (.int (0 : Int32)) := Arv.set Ar6 q6 S6 M6 H6 G6 rfl W6 2 rfl (Nat.le_of_ble_eq_true rfl)
    have O_6_ := O_5_.wr W6 g_b3
    have Z6 : n0 ≤ h6.size := by rw [W6.size]; exact Z5
    show Go p_ e_ below _ _ T6 (mkF m_ 46 #[.val (.int p0), .val (.int p1), .val (.int p2), .val (.int ((p0 &&& (2147483647 : Int32)) % (16 : Int32))), .val (.int vv), .unset, .unset, .unset, .unset, .unset, .unset] [(.ref b3)])
    refine Go.dup X6 hx (hb hby at_46) rfl ?_
    refine Go.iconst X6 hx (3 : Int32) (hb hby at_47) rfl ?_
    refine Go.iconst X6 hx (0 : Int32) (hb hby at_48) rfl ?_
    obtain ⟨cl7, Ar7, q7, S7, M7, H7, G7⟩ := V6
    refine Go.stI X6 hx hZ e6 Ar7 (inb_of S7 ⟨by decide, by decide⟩) (hb hby at_49) ?_
    intro T7 h7 X7 e7 W7
    have N7 := Fr.snoc X7 N6 g_b3
    have V7 : Arv Z h7 b3 c3 .int (16 : Int32) [(.int (0 : Int32)), (.int (4 : Int32)), (.int (1 : Int32)), (.int (0 : Int32)), (.int (0 : Int32)), (.int (0 : Int32)), (.int (0 : Int32)), (.int (0 : Int32)), (.int (0 : Int32)), (.int (0 : Int32)), (.int (0 : Int32)), (.int (0 : Int32)), (.int (0 : Int32)), (.int (0 : Int32)), (.int (0 : Int32)), (.int (0 : Int32))] (.int (0 : Int32)) := Arv.set Ar7 q7 S7 M7 H7 G7 rfl W7 3 rfl (Nat.le_of_ble_eq_true rfl)
    have O_7_ := O_6_.wr W7 g_b3
    have Z7 : n0 ≤ h7.size := by rw [W7.size]; exact Z6
    show Go p_ e_ below _ _ T7 (mkF m_ 50 #[.val (.int p0), .val (.int p1), .val (.int p2), .val (.int ((p0 &&& (2147483647 : Int32)) % (16 : Int32))), .val (.int vv), .unset, .unset, .unset, .unset, .unset, .unset] [(.ref b3)])
    refine Go.dup X7 hx (hb hby at_50) rfl ?_
    refine Go.iconst X7 hx (4 : Int32) (hb hby at_51) rfl ?_
    refine Go.iconst X7 hx (0 : Int32) (hb hby at_52) rfl ?_
    obtain ⟨cl8, Ar8, q8, S8, M8, H8, G8⟩ := V7
    refine Go.stI X7 hx hZ e7 Ar8 (inb_of S8 ⟨by decide, by decide⟩) (hb hby at_53) ?_
    intro T8 h8 X8 e8 W8
    have N8 := Fr.snoc X8 N7 g_b3
    have V8 : Arv Z h8 b3 c3 .int (16 : Int32) [(.int (0 : Int32)), (.int (4 : Int32)), (.int (1 : Int32)), (.int (0 : Int32)), (.int (0 : Int32)), (.int (0 : Int32)), (.int (0 : Int32)), (.int (0 : Int32)), (.int (0 : Int32)), (.int (0 : Int32)), (.int (0 : Int32)), (.int (0 : Int32)), (.int (0 : Int32)), (.int (0 : Int32)), (.int (0 : Int32)), (.int (0 : Int32))] (.int (0 : Int32)) := Arv.set Ar8 q8 S8 M8 H8 G8 rfl W8 4 rfl (Nat.le_of_ble_eq_true rfl)
    have O_8_ := O_7_.wr W8 g_b3
    have Z8 : n0 ≤ h8.size := by rw [W8.size]; exact Z7
    show Go p_ e_ below _ _ T8 (mkF m_ 54 #[.val (.int p0), .val (.int p1), .val (.int p2), .val (.int ((p0 &&& (2147483647 : Int32)) % (16 : Int32))), .val (.int vv), .unset, .unset, .unset, .unset, .unset, .unset] [(.ref b3)])
    refine Go.dup X8 hx (hb hby at_54) rfl ?_
    refine Go.iconst X8 hx (5 : Int32) (hb hby at_55) rfl ?_
    refine Go.iconst X8 hx (0 : Int32) (hb hby at_56) rfl ?_
    obtain ⟨cl9, Ar9, q9, S9, M9, H9, G9⟩ := V8
    refine Go.stI X8 hx hZ e8 Ar9 (inb_of S9 ⟨by decide, by decide⟩) (hb hby at_57) ?_
    intro T9 h9 X9 e9 W9
    have N9 := Fr.snoc X9 N8 g_b3
    have V9 : Arv Z h9 b3 c3 .int (16 : Int32) [(.int (0 : Int32)), (.int (4 : Int32)), (.int (1 : Int32)), (.int (0 : Int32)), (.int (0 : Int32)), (.int (0 : Int32)), (.int (0 : Int32)), (.int (0 : Int32)), (.int (0 : Int32)), (.int (0 : Int32)), (.int (0 : Int32)), (.int (0 : Int32)), (.int (0 : Int32)), (.int (0 : Int32)), (.int (0 : Int32)), (.int (0 : Int32))] (.int (0 : Int32)) := Arv.set Ar9 q9 S9 M9 H9 G9 rfl W9 5 rfl (Nat.le_of_ble_eq_true rfl)
    have O_9_ := O_8_.wr W9 g_b3
    have Z9 : n0 ≤ h9.size := by rw [W9.size]; exact Z8
    show Go p_ e_ below _ _ T9 (mkF m_ 58 #[.val (.int p0), .val (.int p1), .val (.int p2), .val (.int ((p0 &&& (2147483647 : Int32)) % (16 : Int32))), .val (.int vv), .unset, .unset, .unset, .unset, .unset, .unset] [(.ref b3)])
    refine Go.dup X9 hx (hb hby at_58) rfl ?_
    refine Go.bipush X9 hx (6 : Int32) (hb hby at_59) rfl ?_
    refine Go.iconst X9 hx (0 : Int32) (hb hby at_61) rfl ?_
    obtain ⟨cl10, Ar10, q10, S10, M10, H10, G10⟩ := V9
    refine Go.stI X9 hx hZ e9 Ar10 (inb_of S10 ⟨by decide, by decide⟩) (hb hby at_62) ?_
    intro T10 h10 X10 e10 W10
    have N10 := Fr.snoc X10 N9 g_b3
    have V10 : Arv Z h10 b3 c3 .int (16 : Int32) [(.int (0 : Int32)), (.int (4 : Int32)), (.int (1 : Int32)), (.int (0 : Int32)), (.int (0 : Int32)), (.int (0 : Int32)), (.int (0 : Int32)), (.int (0 : Int32)), (.int (0 : Int32)), (.int (0 : Int32)), (.int (0 : Int32)), (.int (0 : Int32)), (.int (0 : Int32)), (.int (0 : Int32)), (.int (0 : Int32)), (.int (0 : Int32))] (.int (0 : Int32)) := Arv.set Ar10 q10 S10 M10 H10 G10 rfl W10 6 rfl (Nat.le_of_ble_eq_true rfl)
    have O_10_ := O_9_.wr W10 g_b3
    have Z10 : n0 ≤ h10.size := by rw [W10.size]; exact Z9
    show Go p_ e_ below _ _ T10 (mkF m_ 63 #[.val (.int p0), .val (.int p1), .val (.int p2), .val (.int ((p0 &&& (2147483647 : Int32)) % (16 : Int32))), .val (.int vv), .unset, .unset, .unset, .unset, .unset, .unset] [(.ref b3)])
    refine Go.dup X10 hx (hb hby at_63) rfl ?_
    refine Go.bipush X10 hx (7 : Int32) (hb hby at_64) rfl ?_
    refine Go.iconst X10 hx (0 : Int32) (hb hby at_66) rfl ?_
    obtain ⟨cl11, Ar11, q11, S11, M11, H11, G11⟩ := V10
    refine Go.stI X10 hx hZ e10 Ar11 (inb_of S11 ⟨by decide, by decide⟩) (hb hby at_67) ?_
    intro T11 h11 X11 e11 W11
    have N11 := Fr.snoc X11 N10 g_b3
    have V11 : Arv Z h11 b3 c3 .int (16 : Int32) [(.int (0 : Int32)), (.int (4 : Int32)), (.int (1 : Int32)), (.int (0 : Int32)), (.int (0 : Int32)), (.int (0 : Int32)), (.int (0 : Int32)), (.int (0 : Int32)), (.int (0 : Int32)), (.int (0 : Int32)), (.int (0 : Int32)), (.int (0 : Int32)), (.int (0 : Int32)), (.int (0 : Int32)), (.int (0 : Int32)), (.int (0 : Int32))] (.int (0 : Int32)) := Arv.set Ar11 q11 S11 M11 H11 G11 rfl W11 7 rfl (Nat.le_of_ble_eq_true rfl)
    have O_11_ := O_10_.wr W11 g_b3
    have Z11 : n0 ≤ h11.size := by rw [W11.size]; exact Z10
    show Go p_ e_ below _ _ T11 (mkF m_ 68 #[.val (.int p0), .val (.int p1), .val (.int p2), .val (.int ((p0 &&& (2147483647 : Int32)) % (16 : Int32))), .val (.int vv), .unset, .unset, .unset, .unset, .unset, .unset] [(.ref b3)])
    refine Go.dup X11 hx (hb hby at_68) rfl ?_
    refine Go.bipush X11 hx (8 : Int32) (hb hby at_69) rfl ?_
    refine Go.iconst X11 hx (0 : Int32) (hb hby at_71) rfl ?_
    obtain ⟨cl12, Ar12, q12, S12, M12, H12, G12⟩ := V11
    refine Go.stI X11 hx hZ e11 Ar12 (inb_of S12 ⟨by decide, by decide⟩) (hb hby at_72) ?_
    intro T12 h12 X12 e12 W12
    have N12 := Fr.snoc X12 N11 g_b3
    have V12 : Arv Z h12 b3 c3 .int (16 : Int32) [(.int (0 : Int32)), (.int (4 : Int32)), (.int (1 : Int32)), (.int (0 : Int32)), (.int (0 : Int32)), (.int (0 : Int32)), (.int (0 : Int32)), (.int (0 : Int32)), (.int (0 : Int32)), (.int (0 : Int32)), (.int (0 : Int32)), (.int (0 : Int32)), (.int (0 : Int32)), (.int (0 : Int32)), (.int (0 : Int32)), (.int (0 : Int32))] (.int (0 : Int32)) := Arv.set Ar12 q12 S12 M12 H12 G12 rfl W12 8 rfl (Nat.le_of_ble_eq_true rfl)
    have O_12_ := O_11_.wr W12 g_b3
    have Z12 : n0 ≤ h12.size := by rw [W12.size]; exact Z11
    show Go p_ e_ below _ _ T12 (mkF m_ 73 #[.val (.int p0), .val (.int p1), .val (.int p2), .val (.int ((p0 &&& (2147483647 : Int32)) % (16 : Int32))), .val (.int vv), .unset, .unset, .unset, .unset, .unset, .unset] [(.ref b3)])
    refine Go.dup X12 hx (hb hby at_73) rfl ?_
    refine Go.bipush X12 hx (9 : Int32) (hb hby at_74) rfl ?_
    refine Go.iconst X12 hx (0 : Int32) (hb hby at_76) rfl ?_
    obtain ⟨cl13, Ar13, q13, S13, M13, H13, G13⟩ := V12
    refine Go.stI X12 hx hZ e12 Ar13 (inb_of S13 ⟨by decide, by decide⟩) (hb hby at_77) ?_
    intro T13 h13 X13 e13 W13
    have N13 := Fr.snoc X13 N12 g_b3
    have V13 : Arv Z h13 b3 c3 .int (16 : Int32) [(.int (0 : Int32)), (.int (4 : Int32)), (.int (1 : Int32)), (.int (0 : Int32)), (.int (0 : Int32)), (.int (0 : Int32)), (.int (0 : Int32)), (.int (0 : Int32)), (.int (0 : Int32)), (.int (0 : Int32)), (.int (0 : Int32)), (.int (0 : Int32)), (.int (0 : Int32)), (.int (0 : Int32)), (.int (0 : Int32)), (.int (0 : Int32))] (.int (0 : Int32)) := Arv.set Ar13 q13 S13 M13 H13 G13 rfl W13 9 rfl (Nat.le_of_ble_eq_true rfl)
    have O_13_ := O_12_.wr W13 g_b3
    have Z13 : n0 ≤ h13.size := by rw [W13.size]; exact Z12
    show Go p_ e_ below _ _ T13 (mkF m_ 78 #[.val (.int p0), .val (.int p1), .val (.int p2), .val (.int ((p0 &&& (2147483647 : Int32)) % (16 : Int32))), .val (.int vv), .unset, .unset, .unset, .unset, .unset, .unset] [(.ref b3)])
    refine Go.dup X13 hx (hb hby at_78) rfl ?_
    refine Go.bipush X13 hx (10 : Int32) (hb hby at_79) rfl ?_
    refine Go.iconst X13 hx (0 : Int32) (hb hby at_81) rfl ?_
    obtain ⟨cl14, Ar14, q14, S14, M14, H14, G14⟩ := V13
    refine Go.stI X13 hx hZ e13 Ar14 (inb_of S14 ⟨by decide, by decide⟩) (hb hby at_82) ?_
    intro T14 h14 X14 e14 W14
    have N14 := Fr.snoc X14 N13 g_b3
    have V14 : Arv Z h14 b3 c3 .int (16 : Int32) [(.int (0 : Int32)), (.int (4 : Int32)), (.int (1 : Int32)), (.int (0 : Int32)), (.int (0 : Int32)), (.int (0 : Int32)), (.int (0 : Int32)), (.int (0 : Int32)), (.int (0 : Int32)), (.int (0 : Int32)), (.int (0 : Int32)), (.int (0 : Int32)), (.int (0 : Int32)), (.int (0 : Int32)), (.int (0 : Int32)), (.int (0 : Int32))] (.int (0 : Int32)) := Arv.set Ar14 q14 S14 M14 H14 G14 rfl W14 10 rfl (Nat.le_of_ble_eq_true rfl)
    have O_14_ := O_13_.wr W14 g_b3
    have Z14 : n0 ≤ h14.size := by rw [W14.size]; exact Z13
    show Go p_ e_ below _ _ T14 (mkF m_ 83 #[.val (.int p0), .val (.int p1), .val (.int p2), .val (.int ((p0 &&& (2147483647 : Int32)) % (16 : Int32))), .val (.int vv), .unset, .unset, .unset, .unset, .unset, .unset] [(.ref b3)])
    refine Go.dup X14 hx (hb hby at_83) rfl ?_
    refine Go.bipush X14 hx (11 : Int32) (hb hby at_84) rfl ?_
    refine Go.iconst X14 hx (0 : Int32) (hb hby at_86) rfl ?_
    obtain ⟨cl15, Ar15, q15, S15, M15, H15, G15⟩ := V14
    refine Go.stI X14 hx hZ e14 Ar15 (inb_of S15 ⟨by decide, by decide⟩) (hb hby at_87) ?_
    intro T15 h15 X15 e15 W15
    have N15 := Fr.snoc X15 N14 g_b3
    have V15 : Arv Z h15 b3 c3 .int (16 : Int32) [(.int (0 : Int32)), (.int (4 : Int32)), (.int (1 : Int32)), (.int (0 : Int32)), (.int (0 : Int32)), (.int (0 : Int32)), (.int (0 : Int32)), (.int (0 : Int32)), (.int (0 : Int32)), (.int (0 : Int32)), (.int (0 : Int32)), (.int (0 : Int32)), (.int (0 : Int32)), (.int (0 : Int32)), (.int (0 : Int32)), (.int (0 : Int32))] (.int (0 : Int32)) := Arv.set Ar15 q15 S15 M15 H15 G15 rfl W15 11 rfl (Nat.le_of_ble_eq_true rfl)
    have O_15_ := O_14_.wr W15 g_b3
    have Z15 : n0 ≤ h15.size := by rw [W15.size]; exact Z14
    show Go p_ e_ below _ _ T15 (mkF m_ 88 #[.val (.int p0), .val (.int p1), .val (.int p2), .val (.int ((p0 &&& (2147483647 : Int32)) % (16 : Int32))), .val (.int vv), .unset, .unset, .unset, .unset, .unset, .unset] [(.ref b3)])
    refine Go.dup X15 hx (hb hby at_88) rfl ?_
    refine Go.bipush X15 hx (12 : Int32) (hb hby at_89) rfl ?_
    refine Go.iconst X15 hx (0 : Int32) (hb hby at_91) rfl ?_
    obtain ⟨cl16, Ar16, q16, S16, M16, H16, G16⟩ := V15
    refine Go.stI X15 hx hZ e15 Ar16 (inb_of S16 ⟨by decide, by decide⟩) (hb hby at_92) ?_
    intro T16 h16 X16 e16 W16
    have N16 := Fr.snoc X16 N15 g_b3
    have V16 : Arv Z h16 b3 c3 .int (16 : Int32) [(.int (0 : Int32)), (.int (4 : Int32)), (.int (1 : Int32)), (.int (0 : Int32)), (.int (0 : Int32)), (.int (0 : Int32)), (.int (0 : Int32)), (.int (0 : Int32)), (.int (0 : Int32)), (.int (0 : Int32)), (.int (0 : Int32)), (.int (0 : Int32)), (.int (0 : Int32)), (.int (0 : Int32)), (.int (0 : Int32)), (.int (0 : Int32))] (.int (0 : Int32)) := Arv.set Ar16 q16 S16 M16 H16 G16 rfl W16 12 rfl (Nat.le_of_ble_eq_true rfl)
    have O_16_ := O_15_.wr W16 g_b3
    have Z16 : n0 ≤ h16.size := by rw [W16.size]; exact Z15
    show Go p_ e_ below _ _ T16 (mkF m_ 93 #[.val (.int p0), .val (.int p1), .val (.int p2), .val (.int ((p0 &&& (2147483647 : Int32)) % (16 : Int32))), .val (.int vv), .unset, .unset, .unset, .unset, .unset, .unset] [(.ref b3)])
    refine Go.dup X16 hx (hb hby at_93) rfl ?_
    refine Go.bipush X16 hx (13 : Int32) (hb hby at_94) rfl ?_
    refine Go.iconst X16 hx (0 : Int32) (hb hby at_96) rfl ?_
    obtain ⟨cl17, Ar17, q17, S17, M17, H17, G17⟩ := V16
    refine Go.stI X16 hx hZ e16 Ar17 (inb_of S17 ⟨by decide, by decide⟩) (hb hby at_97) ?_
    intro T17 h17 X17 e17 W17
    have N17 := Fr.snoc X17 N16 g_b3
    have V17 : Arv Z h17 b3 c3 .int (16 : Int32) [(.int (0 : Int32)), (.int (4 : Int32)), (.int (1 : Int32)), (.int (0 : Int32)), (.int (0 : Int32)), (.int (0 : Int32)), (.int (0 : Int32)), (.int (0 : Int32)), (.int (0 : Int32)), (.int (0 : Int32)), (.int (0 : Int32)), (.int (0 : Int32)), (.int (0 : Int32)), (.int (0 : Int32)), (.int (0 : Int32)), (.int (0 : Int32))] (.int (0 : Int32)) := Arv.set Ar17 q17 S17 M17 H17 G17 rfl W17 13 rfl (Nat.le_of_ble_eq_true rfl)
    have O_17_ := O_16_.wr W17 g_b3
    have Z17 : n0 ≤ h17.size := by rw [W17.size]; exact Z16
    show Go p_ e_ below _ _ T17 (mkF m_ 98 #[.val (.int p0), .val (.int p1), .val (.int p2), .val (.int ((p0 &&& (2147483647 : Int32)) % (16 : Int32))), .val (.int vv), .unset, .unset, .unset, .unset, .unset, .unset] [(.ref b3)])
    refine Go.dup X17 hx (hb hby at_98) rfl ?_
    refine Go.bipush X17 hx (14 : Int32) (hb hby at_99) rfl ?_
    refine Go.iconst X17 hx (0 : Int32) (hb hby at_101) rfl ?_
    obtain ⟨cl18, Ar18, q18, S18, M18, H18, G18⟩ := V17
    refine Go.stI X17 hx hZ e17 Ar18 (inb_of S18 ⟨by decide, by decide⟩) (hb hby at_102) ?_
    intro T18 h18 X18 e18 W18
    have N18 := Fr.snoc X18 N17 g_b3
    have V18 : Arv Z h18 b3 c3 .int (16 : Int32) [(.int (0 : Int32)), (.int (4 : Int32)), (.int (1 : Int32)), (.int (0 : Int32)), (.int (0 : Int32)), (.int (0 : Int32)), (.int (0 : Int32)), (.int (0 : Int32)), (.int (0 : Int32)), (.int (0 : Int32)), (.int (0 : Int32)), (.int (0 : Int32)), (.int (0 : Int32)), (.int (0 : Int32)), (.int (0 : Int32)), (.int (0 : Int32))] (.int (0 : Int32)) := Arv.set Ar18 q18 S18 M18 H18 G18 rfl W18 14 rfl (Nat.le_of_ble_eq_true rfl)
    have O_18_ := O_17_.wr W18 g_b3
    have Z18 : n0 ≤ h18.size := by rw [W18.size]; exact Z17
    show Go p_ e_ below _ _ T18 (mkF m_ 103 #[.val (.int p0), .val (.int p1), .val (.int p2), .val (.int ((p0 &&& (2147483647 : Int32)) % (16 : Int32))), .val (.int vv), .unset, .unset, .unset, .unset, .unset, .unset] [(.ref b3)])
    refine Go.dup X18 hx (hb hby at_103) rfl ?_
    refine Go.bipush X18 hx (15 : Int32) (hb hby at_104) rfl ?_
    refine Go.iconst X18 hx (0 : Int32) (hb hby at_106) rfl ?_
    obtain ⟨cl19, Ar19, q19, S19, M19, H19, G19⟩ := V18
    refine Go.stI X18 hx hZ e18 Ar19 (inb_of S19 ⟨by decide, by decide⟩) (hb hby at_107) ?_
    intro T19 h19 X19 e19 W19
    have N19 := Fr.snoc X19 N18 g_b3
    have V19 : Arv Z h19 b3 c3 .int (16 : Int32) [(.int (0 : Int32)), (.int (4 : Int32)), (.int (1 : Int32)), (.int (0 : Int32)), (.int (0 : Int32)), (.int (0 : Int32)), (.int (0 : Int32)), (.int (0 : Int32)), (.int (0 : Int32)), (.int (0 : Int32)), (.int (0 : Int32)), (.int (0 : Int32)), (.int (0 : Int32)), (.int (0 : Int32)), (.int (0 : Int32)), (.int (0 : Int32))] (.int (0 : Int32)) := Arv.set Ar19 q19 S19 M19 H19 G19 rfl W19 15 rfl (Nat.le_of_ble_eq_true rfl)
    have O_19_ := O_18_.wr W19 g_b3
    have Z19 : n0 ≤ h19.size := by rw [W19.size]; exact Z18
    show Go p_ e_ below _ _ T19 (mkF m_ 108 #[.val (.int p0), .val (.int p1), .val (.int p2), .val (.int ((p0 &&& (2147483647 : Int32)) % (16 : Int32))), .val (.int vv), .unset, .unset, .unset, .unset, .unset, .unset] [(.ref b3)])
    refine Go.astore X19 hx (l' := #[.val (.int p0), .val (.int p1), .val (.int p2), .val (.int ((p0 &&& (2147483647 : Int32)) % (16 : Int32))), .val (.int vv), .val (.ref b3), .unset, .unset, .unset, .unset, .unset]) (hb hby at_108) rfl rfl ?_
    refine Go.bipush X19 hx (16 : Int32) (hb hby at_110) rfl ?_
    refine Go.newP X19 hx hZ (hw _ (List.mem_of_getElem? (i := 1) rfl)) e19 (hb hby at_112) (by decide) (cap := 16) (by decide) (by decide) (by decide) (by decide) ?_
    intro T20 h20 c20 b20 zq20 X20 e20 E20 A20
    have ne_b3_b20 : b3 ≠ b20 := Nat.ne_of_lt (Nat.lt_of_lt_of_le V19.lt (Nat.le_of_eq zq20.symm))
    have g_b20 : n0 ≤ b20 := Nat.le_trans Z19 (Nat.le_of_eq zq20.symm)
    have Z20 : n0 ≤ h20.size := Nat.le_trans Z19 E20.1
    have O_20_ := O_19_.ext E20
    have V_20_b3 := V19.ext E20
    have V20 : Arv Z h20 b20 c20 .int (16 : Int32) [(.int (0 : Int32)), (.int (0 : Int32)), (.int (0 : Int32)), (.int (0 : Int32)), (.int (0 : Int32)), (.int (0 : Int32)), (.int (0 : Int32)), (.int (0 : Int32)), (.int (0 : Int32)), (.int (0 : Int32)), (.int (0 : Int32)), (.int (0 : Int32)), (.int (0 : Int32)), (.int (0 : Int32)), (.int (0 : Int32)), (.int (0 : Int32))] (.int (0 : Int32)) := (Arv.new A20 (by decide)).pad (pad_rep [] (.int (0 : Int32)) 16)
    show Go p_ e_ below _ _ T20 (mkF m_ 114 #[.val (.int p0), .val (.int p1), .val (.int p2), .val (.int ((p0 &&& (2147483647 : Int32)) % (16 : Int32))), .val (.int vv), .val (.ref b3), .unset, .unset, .unset, .unset, .unset] [(.ref b20)])
    refine Go.dup X20 hx (hb hby at_114) rfl ?_
    refine Go.iconst X20 hx (0 : Int32) (hb hby at_115) rfl ?_
    refine Go.bipush X20 hx (7 : Int32) (hb hby at_116) rfl ?_
    obtain ⟨cl21, Ar21, q21, S21, M21, H21, G21⟩ := V20
    refine Go.stI X20 hx hZ e20 Ar21 (inb_of S21 ⟨by decide, by decide⟩) (hb hby at_118) ?_
    intro T21 h21 X21 e21 W21
    have N21 := Fr.snoc X21 N19 g_b20
    have V21 : Arv Z h21 b20 c20 .int (16 : Int32) [(.int (7 : Int32)), (.int (0 : Int32)), (.int (0 : Int32)), (.int (0 : Int32)), (.int (0 : Int32)), (.int (0 : Int32)), (.int (0 : Int32)), (.int (0 : Int32)), (.int (0 : Int32)), (.int (0 : Int32)), (.int (0 : Int32)), (.int (0 : Int32)), (.int (0 : Int32)), (.int (0 : Int32)), (.int (0 : Int32)), (.int (0 : Int32))] (.int (0 : Int32)) := Arv.set Ar21 q21 S21 M21 H21 G21 rfl W21 0 rfl (Nat.le_of_ble_eq_true rfl)
    have O_21_ := O_20_.wr W21 g_b20
    have V_21_b3 := V_20_b3.other W21 ne_b3_b20
    have Z21 : n0 ≤ h21.size := by rw [W21.size]; exact Z20
    show Go p_ e_ below _ _ T21 (mkF m_ 119 #[.val (.int p0), .val (.int p1), .val (.int p2), .val (.int ((p0 &&& (2147483647 : Int32)) % (16 : Int32))), .val (.int vv), .val (.ref b3), .unset, .unset, .unset, .unset, .unset] [(.ref b20)])
    refine Go.dup X21 hx (hb hby at_119) rfl ?_
    refine Go.iconst X21 hx (1 : Int32) (hb hby at_120) rfl ?_
    refine Go.bipush X21 hx (11 : Int32) (hb hby at_121) rfl ?_
    obtain ⟨cl22, Ar22, q22, S22, M22, H22, G22⟩ := V21
    refine Go.stI X21 hx hZ e21 Ar22 (inb_of S22 ⟨by decide, by decide⟩) (hb hby at_123) ?_
    intro T22 h22 X22 e22 W22
    have N22 := Fr.snoc X22 N21 g_b20
    have V22 : Arv Z h22 b20 c20 .int (16 : Int32) [(.int (7 : Int32)), (.int (11 : Int32)), (.int (0 : Int32)), (.int (0 : Int32)), (.int (0 : Int32)), (.int (0 : Int32)), (.int (0 : Int32)), (.int (0 : Int32)), (.int (0 : Int32)), (.int (0 : Int32)), (.int (0 : Int32)), (.int (0 : Int32)), (.int (0 : Int32)), (.int (0 : Int32)), (.int (0 : Int32)), (.int (0 : Int32))] (.int (0 : Int32)) := Arv.set Ar22 q22 S22 M22 H22 G22 rfl W22 1 rfl (Nat.le_of_ble_eq_true rfl)
    have O_22_ := O_21_.wr W22 g_b20
    have V_22_b3 := V_21_b3.other W22 ne_b3_b20
    have Z22 : n0 ≤ h22.size := by rw [W22.size]; exact Z21
    show Go p_ e_ below _ _ T22 (mkF m_ 124 #[.val (.int p0), .val (.int p1), .val (.int p2), .val (.int ((p0 &&& (2147483647 : Int32)) % (16 : Int32))), .val (.int vv), .val (.ref b3), .unset, .unset, .unset, .unset, .unset] [(.ref b20)])
    refine Go.dup X22 hx (hb hby at_124) rfl ?_
    refine Go.iconst X22 hx (2 : Int32) (hb hby at_125) rfl ?_
    refine Go.iconst X22 hx (2 : Int32) (hb hby at_126) rfl ?_
    obtain ⟨cl23, Ar23, q23, S23, M23, H23, G23⟩ := V22
    refine Go.stI X22 hx hZ e22 Ar23 (inb_of S23 ⟨by decide, by decide⟩) (hb hby at_127) ?_
    intro T23 h23 X23 e23 W23
    have N23 := Fr.snoc X23 N22 g_b20
    have V23 : Arv Z h23 b20 c20 .int (16 : Int32) [(.int (7 : Int32)), (.int (11 : Int32)), (.int (2 : Int32)), (.int (0 : Int32)), (.int (0 : Int32)), (.int (0 : Int32)), (.int (0 : Int32)), (.int (0 : Int32)), (.int (0 : Int32)), (.int (0 : Int32)), (.int (0 : Int32)), (.int (0 : Int32)), (.int (0 : Int32)), (.int (0 : Int32)), (.int (0 : Int32)), (.int (0 : Int32))] (.int (0 : Int32)) := Arv.set Ar23 q23 S23 M23 H23 G23 rfl W23 2 rfl (Nat.le_of_ble_eq_true rfl)
    have O_23_ := O_22_.wr W23 g_b20
    have V_23_b3 := V_22_b3.other W23 ne_b3_b20
    have Z23 : n0 ≤ h23.size := by rw [W23.size]; exact Z22
    show Go p_ e_ below _ _ T23 (mkF m_ 128 #[.val (.int p0), .val (.int p1), .val (.int p2), .val (.int ((p0 &&& (2147483647 : Int32)) % (16 : Int32))), .val (.int vv), .val (.ref b3), .unset, .unset, .unset, .unset, .unset] [(.ref b20)])
    refine Go.dup X23 hx (hb hby at_128) rfl ?_
    refine Go.iconst X23 hx (3 : Int32) (hb hby at_129) rfl ?_
    refine Go.iconst X23 hx (4 : Int32) (hb hby at_130) rfl ?_
    obtain ⟨cl24, Ar24, q24, S24, M24, H24, G24⟩ := V23
    refine Go.stI X23 hx hZ e23 Ar24 (inb_of S24 ⟨by decide, by decide⟩) (hb hby at_131) ?_
    intro T24 h24 X24 e24 W24
    have N24 := Fr.snoc X24 N23 g_b20
    have V24 : Arv Z h24 b20 c20 .int (16 : Int32) [(.int (7 : Int32)), (.int (11 : Int32)), (.int (2 : Int32)), (.int (4 : Int32)), (.int (0 : Int32)), (.int (0 : Int32)), (.int (0 : Int32)), (.int (0 : Int32)), (.int (0 : Int32)), (.int (0 : Int32)), (.int (0 : Int32)), (.int (0 : Int32)), (.int (0 : Int32)), (.int (0 : Int32)), (.int (0 : Int32)), (.int (0 : Int32))] (.int (0 : Int32)) := Arv.set Ar24 q24 S24 M24 H24 G24 rfl W24 3 rfl (Nat.le_of_ble_eq_true rfl)
    have O_24_ := O_23_.wr W24 g_b20
    have V_24_b3 := V_23_b3.other W24 ne_b3_b20
    have Z24 : n0 ≤ h24.size := by rw [W24.size]; exact Z23
    show Go p_ e_ below _ _ T24 (mkF m_ 132 #[.val (.int p0), .val (.int p1), .val (.int p2), .val (.int ((p0 &&& (2147483647 : Int32)) % (16 : Int32))), .val (.int vv), .val (.ref b3), .unset, .unset, .unset, .unset, .unset] [(.ref b20)])
    refine Go.dup X24 hx (hb hby at_132) rfl ?_
    refine Go.iconst X24 hx (4 : Int32) (hb hby at_133) rfl ?_
    refine Go.bipush X24 hx (7 : Int32) (hb hby at_134) rfl ?_
    obtain ⟨cl25, Ar25, q25, S25, M25, H25, G25⟩ := V24
    refine Go.stI X24 hx hZ e24 Ar25 (inb_of S25 ⟨by decide, by decide⟩) (hb hby at_136) ?_
    intro T25 h25 X25 e25 W25
    have N25 := Fr.snoc X25 N24 g_b20
    have V25 : Arv Z h25 b20 c20 .int (16 : Int32) [(.int (7 : Int32)), (.int (11 : Int32)), (.int (2 : Int32)), (.int (4 : Int32)), (.int (7 : Int32)), (.int (0 : Int32)), (.int (0 : Int32)), (.int (0 : Int32)), (.int (0 : Int32)), (.int (0 : Int32)), (.int (0 : Int32)), (.int (0 : Int32)), (.int (0 : Int32)), (.int (0 : Int32)), (.int (0 : Int32)), (.int (0 : Int32))] (.int (0 : Int32)) := Arv.set Ar25 q25 S25 M25 H25 G25 rfl W25 4 rfl (Nat.le_of_ble_eq_true rfl)
    have O_25_ := O_24_.wr W25 g_b20
    have V_25_b3 := V_24_b3.other W25 ne_b3_b20
    have Z25 : n0 ≤ h25.size := by rw [W25.size]; exact Z24
    show Go p_ e_ below _ _ T25 (mkF m_ 137 #[.val (.int p0), .val (.int p1), .val (.int p2), .val (.int ((p0 &&& (2147483647 : Int32)) % (16 : Int32))), .val (.int vv), .val (.ref b3), .unset, .unset, .unset, .unset, .unset] [(.ref b20)])
    refine Go.dup X25 hx (hb hby at_137) rfl ?_
    refine Go.iconst X25 hx (5 : Int32) (hb hby at_138) rfl ?_
    refine Go.bipush X25 hx (7 : Int32) (hb hby at_139) rfl ?_
    obtain ⟨cl26, Ar26, q26, S26, M26, H26, G26⟩ := V25
    refine Go.stI X25 hx hZ e25 Ar26 (inb_of S26 ⟨by decide, by decide⟩) (hb hby at_141) ?_
    intro T26 h26 X26 e26 W26
    have N26 := Fr.snoc X26 N25 g_b20
    have V26 : Arv Z h26 b20 c20 .int (16 : Int32) [(.int (7 : Int32)), (.int (11 : Int32)), (.int (2 : Int32)), (.int (4 : Int32)), (.int (7 : Int32)), (.int (7 : Int32)), (.int (0 : Int32)), (.int (0 : Int32)), (.int (0 : Int32)), (.int (0 : Int32)), (.int (0 : Int32)), (.int (0 : Int32)), (.int (0 : Int32)), (.int (0 : Int32)), (.int (0 : Int32)), (.int (0 : Int32))] (.int (0 : Int32)) := Arv.set Ar26 q26 S26 M26 H26 G26 rfl W26 5 rfl (Nat.le_of_ble_eq_true rfl)
    have O_26_ := O_25_.wr W26 g_b20
    have V_26_b3 := V_25_b3.other W26 ne_b3_b20
    have Z26 : n0 ≤ h26.size := by rw [W26.size]; exact Z25
    show Go p_ e_ below _ _ T26 (mkF m_ 142 #[.val (.int p0), .val (.int p1), .val (.int p2), .val (.int ((p0 &&& (2147483647 : Int32)) % (16 : Int32))), .val (.int vv), .val (.ref b3), .unset, .unset, .unset, .unset, .unset] [(.ref b20)])
    refine Go.dup X26 hx (hb hby at_142) rfl ?_
    refine Go.bipush X26 hx (6 : Int32) (hb hby at_143) rfl ?_
    refine Go.iconst X26 hx (2 : Int32) (hb hby at_145) rfl ?_
    obtain ⟨cl27, Ar27, q27, S27, M27, H27, G27⟩ := V26
    refine Go.stI X26 hx hZ e26 Ar27 (inb_of S27 ⟨by decide, by decide⟩) (hb hby at_146) ?_
    intro T27 h27 X27 e27 W27
    have N27 := Fr.snoc X27 N26 g_b20
    have V27 : Arv Z h27 b20 c20 .int (16 : Int32) [(.int (7 : Int32)), (.int (11 : Int32)), (.int (2 : Int32)), (.int (4 : Int32)), (.int (7 : Int32)), (.int (7 : Int32)), (.int (2 : Int32)), (.int (0 : Int32)), (.int (0 : Int32)), (.int (0 : Int32)), (.int (0 : Int32)), (.int (0 : Int32)), (.int (0 : Int32)), (.int (0 : Int32)), (.int (0 : Int32)), (.int (0 : Int32))] (.int (0 : Int32)) := Arv.set Ar27 q27 S27 M27 H27 G27 rfl W27 6 rfl (Nat.le_of_ble_eq_true rfl)
    have O_27_ := O_26_.wr W27 g_b20
    have V_27_b3 := V_26_b3.other W27 ne_b3_b20
    have Z27 : n0 ≤ h27.size := by rw [W27.size]; exact Z26
    show Go p_ e_ below _ _ T27 (mkF m_ 147 #[.val (.int p0), .val (.int p1), .val (.int p2), .val (.int ((p0 &&& (2147483647 : Int32)) % (16 : Int32))), .val (.int vv), .val (.ref b3), .unset, .unset, .unset, .unset, .unset] [(.ref b20)])
    refine Go.dup X27 hx (hb hby at_147) rfl ?_
    refine Go.bipush X27 hx (7 : Int32) (hb hby at_148) rfl ?_
    refine Go.iconst X27 hx (5 : Int32) (hb hby at_150) rfl ?_
    obtain ⟨cl28, Ar28, q28, S28, M28, H28, G28⟩ := V27
    refine Go.stI X27 hx hZ e27 Ar28 (inb_of S28 ⟨by decide, by decide⟩) (hb hby at_151) ?_
    intro T28 h28 X28 e28 W28
    have N28 := Fr.snoc X28 N27 g_b20
    have V28 : Arv Z h28 b20 c20 .int (16 : Int32) [(.int (7 : Int32)), (.int (11 : Int32)), (.int (2 : Int32)), (.int (4 : Int32)), (.int (7 : Int32)), (.int (7 : Int32)), (.int (2 : Int32)), (.int (5 : Int32)), (.int (0 : Int32)), (.int (0 : Int32)), (.int (0 : Int32)), (.int (0 : Int32)), (.int (0 : Int32)), (.int (0 : Int32)), (.int (0 : Int32)), (.int (0 : Int32))] (.int (0 : Int32)) := Arv.set Ar28 q28 S28 M28 H28 G28 rfl W28 7 rfl (Nat.le_of_ble_eq_true rfl)
    have O_28_ := O_27_.wr W28 g_b20
    have V_28_b3 := V_27_b3.other W28 ne_b3_b20
    have Z28 : n0 ≤ h28.size := by rw [W28.size]; exact Z27
    show Go p_ e_ below _ _ T28 (mkF m_ 152 #[.val (.int p0), .val (.int p1), .val (.int p2), .val (.int ((p0 &&& (2147483647 : Int32)) % (16 : Int32))), .val (.int vv), .val (.ref b3), .unset, .unset, .unset, .unset, .unset] [(.ref b20)])
    refine Go.dup X28 hx (hb hby at_152) rfl ?_
    refine Go.bipush X28 hx (8 : Int32) (hb hby at_153) rfl ?_
    refine Go.iconst X28 hx (3 : Int32) (hb hby at_155) rfl ?_
    obtain ⟨cl29, Ar29, q29, S29, M29, H29, G29⟩ := V28
    refine Go.stI X28 hx hZ e28 Ar29 (inb_of S29 ⟨by decide, by decide⟩) (hb hby at_156) ?_
    intro T29 h29 X29 e29 W29
    have N29 := Fr.snoc X29 N28 g_b20
    have V29 : Arv Z h29 b20 c20 .int (16 : Int32) [(.int (7 : Int32)), (.int (11 : Int32)), (.int (2 : Int32)), (.int (4 : Int32)), (.int (7 : Int32)), (.int (7 : Int32)), (.int (2 : Int32)), (.int (5 : Int32)), (.int (3 : Int32)), (.int (0 : Int32)), (.int (0 : Int32)), (.int (0 : Int32)), (.int (0 : Int32)), (.int (0 : Int32)), (.int (0 : Int32)), (.int (0 : Int32))] (.int (0 : Int32)) := Arv.set Ar29 q29 S29 M29 H29 G29 rfl W29 8 rfl (Nat.le_of_ble_eq_true rfl)
    have O_29_ := O_28_.wr W29 g_b20
    have V_29_b3 := V_28_b3.other W29 ne_b3_b20
    have Z29 : n0 ≤ h29.size := by rw [W29.size]; exact Z28
    show Go p_ e_ below _ _ T29 (mkF m_ 157 #[.val (.int p0), .val (.int p1), .val (.int p2), .val (.int ((p0 &&& (2147483647 : Int32)) % (16 : Int32))), .val (.int vv), .val (.ref b3), .unset, .unset, .unset, .unset, .unset] [(.ref b20)])
    refine Go.dup X29 hx (hb hby at_157) rfl ?_
    refine Go.bipush X29 hx (9 : Int32) (hb hby at_158) rfl ?_
    refine Go.iconst X29 hx (2 : Int32) (hb hby at_160) rfl ?_
    obtain ⟨cl30, Ar30, q30, S30, M30, H30, G30⟩ := V29
    refine Go.stI X29 hx hZ e29 Ar30 (inb_of S30 ⟨by decide, by decide⟩) (hb hby at_161) ?_
    intro T30 h30 X30 e30 W30
    have N30 := Fr.snoc X30 N29 g_b20
    have V30 : Arv Z h30 b20 c20 .int (16 : Int32) [(.int (7 : Int32)), (.int (11 : Int32)), (.int (2 : Int32)), (.int (4 : Int32)), (.int (7 : Int32)), (.int (7 : Int32)), (.int (2 : Int32)), (.int (5 : Int32)), (.int (3 : Int32)), (.int (2 : Int32)), (.int (0 : Int32)), (.int (0 : Int32)), (.int (0 : Int32)), (.int (0 : Int32)), (.int (0 : Int32)), (.int (0 : Int32))] (.int (0 : Int32)) := Arv.set Ar30 q30 S30 M30 H30 G30 rfl W30 9 rfl (Nat.le_of_ble_eq_true rfl)
    have O_30_ := O_29_.wr W30 g_b20
    have V_30_b3 := V_29_b3.other W30 ne_b3_b20
    have Z30 : n0 ≤ h30.size := by rw [W30.size]; exact Z29
    show Go p_ e_ below _ _ T30 (mkF m_ 162 #[.val (.int p0), .val (.int p1), .val (.int p2), .val (.int ((p0 &&& (2147483647 : Int32)) % (16 : Int32))), .val (.int vv), .val (.ref b3), .unset, .unset, .unset, .unset, .unset] [(.ref b20)])
    refine Go.dup X30 hx (hb hby at_162) rfl ?_
    refine Go.bipush X30 hx (10 : Int32) (hb hby at_163) rfl ?_
    refine Go.iconst X30 hx (3 : Int32) (hb hby at_165) rfl ?_
    obtain ⟨cl31, Ar31, q31, S31, M31, H31, G31⟩ := V30
    refine Go.stI X30 hx hZ e30 Ar31 (inb_of S31 ⟨by decide, by decide⟩) (hb hby at_166) ?_
    intro T31 h31 X31 e31 W31
    have N31 := Fr.snoc X31 N30 g_b20
    have V31 : Arv Z h31 b20 c20 .int (16 : Int32) [(.int (7 : Int32)), (.int (11 : Int32)), (.int (2 : Int32)), (.int (4 : Int32)), (.int (7 : Int32)), (.int (7 : Int32)), (.int (2 : Int32)), (.int (5 : Int32)), (.int (3 : Int32)), (.int (2 : Int32)), (.int (3 : Int32)), (.int (0 : Int32)), (.int (0 : Int32)), (.int (0 : Int32)), (.int (0 : Int32)), (.int (0 : Int32))] (.int (0 : Int32)) := Arv.set Ar31 q31 S31 M31 H31 G31 rfl W31 10 rfl (Nat.le_of_ble_eq_true rfl)
    have O_31_ := O_30_.wr W31 g_b20
    have V_31_b3 := V_30_b3.other W31 ne_b3_b20
    have Z31 : n0 ≤ h31.size := by rw [W31.size]; exact Z30
    show Go p_ e_ below _ _ T31 (mkF m_ 167 #[.val (.int p0), .val (.int p1), .val (.int p2), .val (.int ((p0 &&& (2147483647 : Int32)) % (16 : Int32))), .val (.int vv), .val (.ref b3), .unset, .unset, .unset, .unset, .unset] [(.ref b20)])
    refine Go.dup X31 hx (hb hby at_167) rfl ?_
    refine Go.bipush X31 hx (11 : Int32) (hb hby at_168) rfl ?_
    refine Go.iconst X31 hx (3 : Int32) (hb hby at_170) rfl ?_
    obtain ⟨cl32, Ar32, q32, S32, M32, H32, G32⟩ := V31
    refine Go.stI X31 hx hZ e31 Ar32 (inb_of S32 ⟨by decide, by decide⟩) (hb hby at_171) ?_
    intro T32 h32 X32 e32 W32
    have N32 := Fr.snoc X32 N31 g_b20
    have V32 : Arv Z h32 b20 c20 .int (16 : Int32) [(.int (7 : Int32)), (.int (11 : Int32)), (.int (2 : Int32)), (.int (4 : Int32)), (.int (7 : Int32)), (.int (7 : Int32)), (.int (2 : Int32)), (.int (5 : Int32)), (.int (3 : Int32)), (.int (2 : Int32)), (.int (3 : Int32)), (.int (3 : Int32)), (.int (0 : Int32)), (.int (0 : Int32)), (.int (0 : Int32)), (.int (0 : Int32))] (.int (0 : Int32)) := Arv.set Ar32 q32 S32 M32 H32 G32 rfl W32 11 rfl (Nat.le_of_ble_eq_true rfl)
    have O_32_ := O_31_.wr W32 g_b20
    have V_32_b3 := V_31_b3.other W32 ne_b3_b20
    have Z32 : n0 ≤ h32.size := by rw [W32.size]; exact Z31
    show Go p_ e_ below _ _ T32 (mkF m_ 172 #[.val (.int p0), .val (.int p1), .val (.int p2), .val (.int ((p0 &&& (2147483647 : Int32)) % (16 : Int32))), .val (.int vv), .val (.ref b3), .unset, .unset, .unset, .unset, .unset] [(.ref b20)])
    refine Go.dup X32 hx (hb hby at_172) rfl ?_
    refine Go.bipush X32 hx (12 : Int32) (hb hby at_173) rfl ?_
    refine Go.iconst X32 hx (4 : Int32) (hb hby at_175) rfl ?_
    obtain ⟨cl33, Ar33, q33, S33, M33, H33, G33⟩ := V32
    refine Go.stI X32 hx hZ e32 Ar33 (inb_of S33 ⟨by decide, by decide⟩) (hb hby at_176) ?_
    intro T33 h33 X33 e33 W33
    have N33 := Fr.snoc X33 N32 g_b20
    have V33 : Arv Z h33 b20 c20 .int (16 : Int32) [(.int (7 : Int32)), (.int (11 : Int32)), (.int (2 : Int32)), (.int (4 : Int32)), (.int (7 : Int32)), (.int (7 : Int32)), (.int (2 : Int32)), (.int (5 : Int32)), (.int (3 : Int32)), (.int (2 : Int32)), (.int (3 : Int32)), (.int (3 : Int32)), (.int (4 : Int32)), (.int (0 : Int32)), (.int (0 : Int32)), (.int (0 : Int32))] (.int (0 : Int32)) := Arv.set Ar33 q33 S33 M33 H33 G33 rfl W33 12 rfl (Nat.le_of_ble_eq_true rfl)
    have O_33_ := O_32_.wr W33 g_b20
    have V_33_b3 := V_32_b3.other W33 ne_b3_b20
    have Z33 : n0 ≤ h33.size := by rw [W33.size]; exact Z32
    show Go p_ e_ below _ _ T33 (mkF m_ 177 #[.val (.int p0), .val (.int p1), .val (.int p2), .val (.int ((p0 &&& (2147483647 : Int32)) % (16 : Int32))), .val (.int vv), .val (.ref b3), .unset, .unset, .unset, .unset, .unset] [(.ref b20)])
    refine Go.dup X33 hx (hb hby at_177) rfl ?_
    refine Go.bipush X33 hx (13 : Int32) (hb hby at_178) rfl ?_
    refine Go.iconst X33 hx (3 : Int32) (hb hby at_180) rfl ?_
    obtain ⟨cl34, Ar34, q34, S34, M34, H34, G34⟩ := V33
    refine Go.stI X33 hx hZ e33 Ar34 (inb_of S34 ⟨by decide, by decide⟩) (hb hby at_181) ?_
    intro T34 h34 X34 e34 W34
    have N34 := Fr.snoc X34 N33 g_b20
    have V34 : Arv Z h34 b20 c20 .int (16 : Int32) [(.int (7 : Int32)), (.int (11 : Int32)), (.int (2 : Int32)), (.int (4 : Int32)), (.int (7 : Int32)), (.int (7 : Int32)), (.int (2 : Int32)), (.int (5 : Int32)), (.int (3 : Int32)), (.int (2 : Int32)), (.int (3 : Int32)), (.int (3 : Int32)), (.int (4 : Int32)), (.int (3 : Int32)), (.int (0 : Int32)), (.int (0 : Int32))] (.int (0 : Int32)) := Arv.set Ar34 q34 S34 M34 H34 G34 rfl W34 13 rfl (Nat.le_of_ble_eq_true rfl)
    have O_34_ := O_33_.wr W34 g_b20
    have V_34_b3 := V_33_b3.other W34 ne_b3_b20
    have Z34 : n0 ≤ h34.size := by rw [W34.size]; exact Z33
    show Go p_ e_ below _ _ T34 (mkF m_ 182 #[.val (.int p0), .val (.int p1), .val (.int p2), .val (.int ((p0 &&& (2147483647 : Int32)) % (16 : Int32))), .val (.int vv), .val (.ref b3), .unset, .unset, .unset, .unset, .unset] [(.ref b20)])
    refine Go.dup X34 hx (hb hby at_182) rfl ?_
    refine Go.bipush X34 hx (14 : Int32) (hb hby at_183) rfl ?_
    refine Go.iconst X34 hx (4 : Int32) (hb hby at_185) rfl ?_
    obtain ⟨cl35, Ar35, q35, S35, M35, H35, G35⟩ := V34
    refine Go.stI X34 hx hZ e34 Ar35 (inb_of S35 ⟨by decide, by decide⟩) (hb hby at_186) ?_
    intro T35 h35 X35 e35 W35
    have N35 := Fr.snoc X35 N34 g_b20
    have V35 : Arv Z h35 b20 c20 .int (16 : Int32) [(.int (7 : Int32)), (.int (11 : Int32)), (.int (2 : Int32)), (.int (4 : Int32)), (.int (7 : Int32)), (.int (7 : Int32)), (.int (2 : Int32)), (.int (5 : Int32)), (.int (3 : Int32)), (.int (2 : Int32)), (.int (3 : Int32)), (.int (3 : Int32)), (.int (4 : Int32)), (.int (3 : Int32)), (.int (4 : Int32)), (.int (0 : Int32))] (.int (0 : Int32)) := Arv.set Ar35 q35 S35 M35 H35 G35 rfl W35 14 rfl (Nat.le_of_ble_eq_true rfl)
    have O_35_ := O_34_.wr W35 g_b20
    have V_35_b3 := V_34_b3.other W35 ne_b3_b20
    have Z35 : n0 ≤ h35.size := by rw [W35.size]; exact Z34
    show Go p_ e_ below _ _ T35 (mkF m_ 187 #[.val (.int p0), .val (.int p1), .val (.int p2), .val (.int ((p0 &&& (2147483647 : Int32)) % (16 : Int32))), .val (.int vv), .val (.ref b3), .unset, .unset, .unset, .unset, .unset] [(.ref b20)])
    refine Go.dup X35 hx (hb hby at_187) rfl ?_
    refine Go.bipush X35 hx (15 : Int32) (hb hby at_188) rfl ?_
    refine Go.iconst X35 hx (1 : Int32) (hb hby at_190) rfl ?_
    obtain ⟨cl36, Ar36, q36, S36, M36, H36, G36⟩ := V35
    refine Go.stI X35 hx hZ e35 Ar36 (inb_of S36 ⟨by decide, by decide⟩) (hb hby at_191) ?_
    intro T36 h36 X36 e36 W36
    have N36 := Fr.snoc X36 N35 g_b20
    have V36 : Arv Z h36 b20 c20 .int (16 : Int32) [(.int (7 : Int32)), (.int (11 : Int32)), (.int (2 : Int32)), (.int (4 : Int32)), (.int (7 : Int32)), (.int (7 : Int32)), (.int (2 : Int32)), (.int (5 : Int32)), (.int (3 : Int32)), (.int (2 : Int32)), (.int (3 : Int32)), (.int (3 : Int32)), (.int (4 : Int32)), (.int (3 : Int32)), (.int (4 : Int32)), (.int (1 : Int32))] (.int (0 : Int32)) := Arv.set Ar36 q36 S36 M36 H36 G36 rfl W36 15 rfl (Nat.le_of_ble_eq_true rfl)
    have O_36_ := O_35_.wr W36 g_b20
    have V_36_b3 := V_35_b3.other W36 ne_b3_b20
    have Z36 : n0 ≤ h36.size := by rw [W36.size]; exact Z35
    show Go p_ e_ below _ _ T36 (mkF m_ 192 #[.val (.int p0), .val (.int p1), .val (.int p2), .val (.int ((p0 &&& (2147483647 : Int32)) % (16 : Int32))), .val (.int vv), .val (.ref b3), .unset, .unset, .unset, .unset, .unset] [(.ref b20)])
    refine Go.astore X36 hx (l' := #[.val (.int p0), .val (.int p1), .val (.int p2), .val (.int ((p0 &&& (2147483647 : Int32)) % (16 : Int32))), .val (.int vv), .val (.ref b3), .val (.ref b20), .unset, .unset, .unset, .unset]) (hb hby at_192) rfl rfl ?_
    obtain ⟨rk, lo, hi, hl1, hl2, hpk, Ek, Fk, Gk⟩ := own_tab (Z := Z) ((p0 &&& (2147483647 : Int32)) % (16 : Int32)) r0 r1 r2 r3 r4 r5 r6 r7 r8 r9 r10 r11 r12 r13 r14 r15 (own_kr _).1 (own_kr _).2 E_r0 A_r0 B_r0 E_r1 A_r1 B_r1 E_r2 A_r2 B_r2 E_r3 A_r3 B_r3 E_r4 A_r4 B_r4 E_r5 A_r5 B_r5 E_r6 A_r6 B_r6 E_r7 A_r7 B_r7 E_r8 A_r8 B_r8 E_r9 A_r9 B_r9 E_r10 A_r10 B_r10 E_r11 A_r11 B_r11 E_r12 A_r12 B_r12 E_r13 A_r13 B_r13 E_r14 A_r14 B_r14 E_r15 A_r15 B_r15
    refine Go.aload X36 hx (hb hby at_194) rfl rfl ?_
    refine Go.iloadN X36 hx (hb hby at_196) rfl ?_
    obtain ⟨cl37, Ar37, -, S37, M37, H37, -⟩ := V_36_b3
    have hin37 := inb_of S37 (own_kin (own_kr p0))
    refine Go.iaload X36 hx hZ e36 Ar37 hin37 (v := .int lo) (by rw [← hl1]; exact H37 _ (Nat.lt_of_not_le fun q => hin37 (Or.inr q))) (hb hby at_197) ?_
    refine Go.istore X36 hx (l' := #[.val (.int p0), .val (.int p1), .val (.int p2), .val (.int ((p0 &&& (2147483647 : Int32)) % (16 : Int32))), .val (.int vv), .val (.ref b3), .val (.ref b20), .val (.int lo), .unset, .unset, .unset]) (hb hby at_198) rfl ?_
    refine Go.aload X36 hx (hb hby at_200) rfl rfl ?_
    refine Go.iloadN X36 hx (hb hby at_202) rfl ?_
    obtain ⟨cl38, Ar38, -, S38, M38, H38, -⟩ := V36
    have hin38 := inb_of S38 (own_kin (own_kr p0))
    refine Go.iaload X36 hx hZ e36 Ar38 hin38 (v := .int hi) (by rw [← hl2]; exact H38 _ (Nat.lt_of_not_le fun q => hin38 (Or.inr q))) (hb hby at_203) ?_
    refine Go.istore X36 hx (l' := #[.val (.int p0), .val (.int p1), .val (.int p2), .val (.int ((p0 &&& (2147483647 : Int32)) % (16 : Int32))), .val (.int vv), .val (.ref b3), .val (.ref b20), .val (.int lo), .val (.int hi), .unset, .unset]) (hb hby at_204) rfl ?_
    have j39 : ∀ (T40 : State) (l40 : List Loc) (ex : Int32), Stand p_ l e_ room_1 s_ m_ #[(.int p0), (.int p1), (.int p2)] below meth c_ T40 l40 2 32 → Fr n0 l40 → T40.heap = h36 → (ex = (if vv < lo then (0 : Int32) else (if hi < vv then (0 : Int32) else (1 : Int32)))) → Go p_ e_ below (FE s_ room_1.cells room_1.slots) (Q0 Z p0 p1 p2 r0 r1 r2 r3 r4 r5 r6 r7 r8 r9 r10 r11 r12 r13 r14 r15 h0 n0) T40 (mkF m_ 225 #[.val (.int p0), .val (.int p1), .val (.int p2), .val (.int ((p0 &&& (2147483647 : Int32)) % (16 : Int32))), .val (.int vv), .val (.ref b3), .val (.ref b20), .val (.int lo), .val (.int hi), .unset, .unset] [(.int ex)]) := by
      intro T40 l40 ex X40 N40 e40  h_ex
      show Go p_ e_ below _ _ T40 (mkF m_ 225 #[.val (.int p0), .val (.int p1), .val (.int p2), .val (.int ((p0 &&& (2147483647 : Int32)) % (16 : Int32))), .val (.int vv), .val (.ref b3), .val (.ref b20), .val (.int lo), .val (.int hi), .unset, .unset] [(.int ex)])
      refine Go.istore X40 hx (l' := #[.val (.int p0), .val (.int p1), .val (.int p2), .val (.int ((p0 &&& (2147483647 : Int32)) % (16 : Int32))), .val (.int vv), .val (.ref b3), .val (.ref b20), .val (.int lo), .val (.int hi), .val (.int ex), .unset]) (hb hby at_225) rfl ?_
      refine Go.iloadN X40 hx (hb hby at_227) rfl ?_
      refine Go.callS X40 hx hZ (rm1 l Z a0 hw [] ((p0 &&& (2147483647 : Int32)) % (16 : Int32)) r0 r1 r2 r3 r4 r5 r6 r7 r8 r9 r10 r11 r12 r13 r14 r15 h36 n0 Z36 O_36_ S_r0 S_r1 S_r2 S_r3 S_r4 S_r5 S_r6 S_r7 S_r8 S_r9 S_r10 S_r11 S_r12 S_r13 S_r14 S_r15) hown (hw _ (List.mem_of_getElem? (i := 2) rfl)) (hw _ (List.mem_of_getElem? (i := 3) rfl)) (hw _ (List.mem_of_getElem? (i := 4) rfl)) (hw _ (List.mem_of_getElem? (i := 5) rfl)) (by decide) e40 (W := 0) (by rw [hml]; rfl) (argsL := [(.int ((p0 &&& (2147483647 : Int32)) % (16 : Int32)))]) (S := []) (Nat.le_of_ble_eq_true rfl) (by decide) (by decide) (by decide) (by decide) pd_oIcLcom_example_whelk_whelk_io_ApiKey rfl rfl (hb hby at_228) ?_
      rintro _ T41 L41 X41 ⟨rfl, N41q, e41⟩
      have N41 := Fr.app N40 N41q
      rw [hpk]
      show Go p_ e_ below _ _ T41 (mkF m_ 231 #[.val (.int p0), .val (.int p1), .val (.int p2), .val (.int ((p0 &&& (2147483647 : Int32)) % (16 : Int32))), .val (.int vv), .val (.ref b3), .val (.ref b20), .val (.int lo), .val (.int hi), .val (.int ex), .unset] [(.ref rk)])
      refine Go.astore X41 hx (l' := #[.val (.int p0), .val (.int p1), .val (.int p2), .val (.int ((p0 &&& (2147483647 : Int32)) % (16 : Int32))), .val (.int vv), .val (.ref b3), .val (.ref b20), .val (.int lo), .val (.int hi), .val (.int ex), .val (.ref rk)]) (hb hby at_231) rfl rfl ?_
      refine Go.aload X41 hx (hb hby at_233) rfl rfl ?_
      refine Go.iload X41 hx (hb hby at_235) rfl ?_
      refine Go.callV X41 hx hZ (y0 := (⟨"com/example/whelk/whelk/io/ApiKey", "supports", "(S)Z"⟩ : MethodName)) (rm2 l Z a0 hw [] rk vv  lo hi h36 n0 Z36  (Fk.ext O_36_.2) (Gk.ext O_36_.2)) (by decide) hown (hw _ (List.mem_of_getElem? (i := 9) rfl)) (hw _ (List.mem_of_getElem? (i := 10) rfl)) (notFace_of_selects (args := #[]) (mvT hZ (hw _ (List.mem_of_getElem? (i := 12) rfl)))) (hw _ (List.mem_of_getElem? (i := 12) rfl)) (hw _ (List.mem_of_getElem? (i := 11) rfl)) (hw _ (List.mem_of_getElem? (i := 7) rfl)) (hw _ (List.mem_of_getElem? (i := 13) rfl)) e41 (Ek.ext O_36_.2) (W := 0) (by rw [hml]; rfl) (argsL := [(.int vv)]) (S := []) (Nat.le_of_ble_eq_true rfl) (by decide) (by decide) (by decide) (by decide) pd_oScZ rfl rfl (hb hby at_237) ?_
      rintro _ T42 L42 X42 ⟨rfl, N42q, e42⟩
      have N42 := Fr.app N41 N42q
      show Go p_ e_ below _ _ T42 (mkF m_ 240 #[.val (.int p0), .val (.int p1), .val (.int p2), .val (.int ((p0 &&& (2147483647 : Int32)) % (16 : Int32))), .val (.int vv), .val (.ref b3), .val (.ref b20), .val (.int lo), .val (.int hi), .val (.int ex), .val (.ref rk)] [(.int (own_sup vv  lo hi))])
      refine Go.iload X42 hx (hb hby at_240) rfl ?_
      refine Go.icmpNo X42 hx (hb hby at_242) (teq (own_fin _ _ _ _ h_ex)).2 ?_
      show Go p_ e_ below _ _ T42 (mkF m_ 245 #[.val (.int p0), .val (.int p1), .val (.int p2), .val (.int ((p0 &&& (2147483647 : Int32)) % (16 : Int32))), .val (.int vv), .val (.ref b3), .val (.ref b20), .val (.int lo), .val (.int hi), .val (.int ex), .val (.ref rk)] [])
      refine Go.iconst X42 hx (1 : Int32) (hb hby at_245) rfl ?_
      refine Go.goto X42 hx (pc' := 250) (hb hby at_246) (by decide) (by decide) ?_
      refine Go.retN X42 hx hret hlk (by simp) (hb hby at_250) (by decide) (by decide) ?_
      exact ⟨rfl, N42⟩
    refine Go.iload X36 hx (hb hby at_206) rfl ?_
    refine Go.iload X36 hx (hb hby at_208) rfl ?_
    by_cases hc210_43 : vv < lo
    · skip
      refine Go.icmpYes X36 hx (pc' := 224) (hb hby at_210) (tlt hc210_43).2.2.1 (by decide) (by decide) ?_
      show Go p_ e_ below _ _ T36 (mkF m_ 224 #[.val (.int p0), .val (.int p1), .val (.int p2), .val (.int ((p0 &&& (2147483647 : Int32)) % (16 : Int32))), .val (.int vv), .val (.ref b3), .val (.ref b20), .val (.int lo), .val (.int hi), .unset, .unset] [])
      refine Go.iconst X36 hx (0 : Int32) (hb hby at_224) rfl ?_
      show Go p_ e_ below _ _ T36 (mkF m_ 225 #[.val (.int p0), .val (.int p1), .val (.int p2), .val (.int ((p0 &&& (2147483647 : Int32)) % (16 : Int32))), .val (.int vv), .val (.ref b3), .val (.ref b20), .val (.int lo), .val (.int hi), .unset, .unset] [(.int (0 : Int32))])
      exact j39 _ _ _ X36 N36 e36 (by rw [if_pos hc210_43])
    · skip
      refine Go.icmpNo X36 hx (hb hby at_210) (flt hc210_43).2.2.1 ?_
      show Go p_ e_ below _ _ T36 (mkF m_ 213 #[.val (.int p0), .val (.int p1), .val (.int p2), .val (.int ((p0 &&& (2147483647 : Int32)) % (16 : Int32))), .val (.int vv), .val (.ref b3), .val (.ref b20), .val (.int lo), .val (.int hi), .unset, .unset] [])
      refine Go.iload X36 hx (hb hby at_213) rfl ?_
      refine Go.iload X36 hx (hb hby at_215) rfl ?_
      by_cases hc217_44 : hi < vv
      · skip
        refine Go.icmpYes X36 hx (pc' := 224) (hb hby at_217) (tlt hc217_44).2.2.1 (by decide) (by decide) ?_
        show Go p_ e_ below _ _ T36 (mkF m_ 224 #[.val (.int p0), .val (.int p1), .val (.int p2), .val (.int ((p0 &&& (2147483647 : Int32)) % (16 : Int32))), .val (.int vv), .val (.ref b3), .val (.ref b20), .val (.int lo), .val (.int hi), .unset, .unset] [])
        refine Go.iconst X36 hx (0 : Int32) (hb hby at_224) rfl ?_
        show Go p_ e_ below _ _ T36 (mkF m_ 225 #[.val (.int p0), .val (.int p1), .val (.int p2), .val (.int ((p0 &&& (2147483647 : Int32)) % (16 : Int32))), .val (.int vv), .val (.ref b3), .val (.ref b20), .val (.int lo), .val (.int hi), .unset, .unset] [(.int (0 : Int32))])
        exact j39 _ _ _ X36 N36 e36 (by rw [if_neg hc210_43, if_pos hc217_44])
      · skip
        refine Go.icmpNo X36 hx (hb hby at_217) (flt hc217_44).2.2.1 ?_
        show Go p_ e_ below _ _ T36 (mkF m_ 220 #[.val (.int p0), .val (.int p1), .val (.int p2), .val (.int ((p0 &&& (2147483647 : Int32)) % (16 : Int32))), .val (.int vv), .val (.ref b3), .val (.ref b20), .val (.int lo), .val (.int hi), .unset, .unset] [])
        refine Go.iconst X36 hx (1 : Int32) (hb hby at_220) rfl ?_
        refine Go.goto X36 hx (pc' := 225) (hb hby at_221) (by decide) (by decide) ?_
        show Go p_ e_ below _ _ T36 (mkF m_ 225 #[.val (.int p0), .val (.int p1), .val (.int p2), .val (.int ((p0 &&& (2147483647 : Int32)) % (16 : Int32))), .val (.int vv), .val (.ref b3), .val (.ref b20), .val (.int lo), .val (.int hi), .unset, .unset] [(.int (1 : Int32))])
        exact j39 _ _ _ X36 N36 e36 (by rw [if_neg hc210_43, if_neg hc217_44])
  refine Go.iloadN X0 hx (hb hby at_8) rfl ?_
  refine Go.iconst X0 hx (1 : Int32) (hb hby at_9) rfl ?_
  refine Go.iand X0 hx (hb hby at_10) ?_
  by_cases hc11_45 : (p2 &&& (1 : Int32)) = (0 : Int32)
  · skip
    refine Go.ifYes X0 hx (pc' := 21) (hb hby at_11) ((if0 _ _).trans (teq hc11_45).1) (by decide) (by decide) ?_
    show Go p_ e_ below _ _ s₁ (mkF m_ 21 #[.val (.int p0), .val (.int p1), .val (.int p2), .val (.int ((p0 &&& (2147483647 : Int32)) % (16 : Int32))), .unset, .unset, .unset, .unset, .unset, .unset, .unset] [])
    refine Go.iloadN X0 hx (hb hby at_21) rfl ?_
    refine Go.bipush X0 hx (15 : Int32) (hb hby at_22) rfl ?_
    refine Go.iand X0 hx (hb hby at_24) ?_
    refine Go.iconst X0 hx (2 : Int32) (hb hby at_25) rfl ?_
    refine Go.isub X0 hx (hb hby at_26) ?_
    refine Go.i2s X0 hx (hb hby at_27) ?_
    refine Go.istore X0 hx (l' := #[.val (.int p0), .val (.int p1), .val (.int p2), .val (.int ((p0 &&& (2147483647 : Int32)) % (16 : Int32))), .val (.int (((p1 &&& (15 : Int32)) - (2 : Int32)).toInt16.toInt32)), .unset, .unset, .unset, .unset, .unset, .unset]) (hb hby at_28) rfl ?_
    show Go p_ e_ below _ _ s₁ (mkF m_ 30 #[.val (.int p0), .val (.int p1), .val (.int p2), .val (.int ((p0 &&& (2147483647 : Int32)) % (16 : Int32))), .val (.int (((p1 &&& (15 : Int32)) - (2 : Int32)).toInt16.toInt32)), .unset, .unset, .unset, .unset, .unset, .unset] [])
    exact j1 _ _ _ X0 N0 e0 (by rw [if_pos hc11_45])
  · skip
    refine Go.ifNo X0 hx (hb hby at_11) ((if0 _ _).trans (feq hc11_45).1) ?_
    show Go p_ e_ below _ _ s₁ (mkF m_ 14 #[.val (.int p0), .val (.int p1), .val (.int p2), .val (.int ((p0 &&& (2147483647 : Int32)) % (16 : Int32))), .unset, .unset, .unset, .unset, .unset, .unset, .unset] [])
    refine Go.iloadN X0 hx (hb hby at_14) rfl ?_
    refine Go.i2s X0 hx (hb hby at_15) ?_
    refine Go.istore X0 hx (l' := #[.val (.int p0), .val (.int p1), .val (.int p2), .val (.int ((p0 &&& (2147483647 : Int32)) % (16 : Int32))), .val (.int (p1.toInt16.toInt32)), .unset, .unset, .unset, .unset, .unset, .unset]) (hb hby at_16) rfl ?_
    refine Go.goto X0 hx (pc' := 30) (hb hby at_18) (by decide) (by decide) ?_
    show Go p_ e_ below _ _ s₁ (mkF m_ 30 #[.val (.int p0), .val (.int p1), .val (.int p2), .val (.int ((p0 &&& (2147483647 : Int32)) % (16 : Int32))), .val (.int (p1.toInt16.toInt32)), .unset, .unset, .unset, .unset, .unset, .unset] [])
    exact j1 _ _ _ X0 N0 e0 (by rw [if_neg hc11_45])
set_option maxRecDepth 65536 in
set_option maxHeartbeats 40000000 in
theorem comes_1 {Post : Tables → Env → Array Value → State → Outcome → State → Prop} (hpost : ∀ tb e args s v u, (limb_1_1.after args s (.returned v) u = true ∧ limb_1_2.after args s (.returned v) u = true ∧ True) → FrameEnd s (.returned v) u (Jvm.fieldLocs frame_1_writes args s ++ Jvm.arrayLocs frame_1_arrays args s ++ Jvm.staticLocs frame_1_statics s) 16 128 → Post tb e args s (.returned v) u) :
    ArmFor flags0 classFile x code maxLocals ret World_1 tables_1 room_1 Calls_1 rest_1 Pre_1 Post := by
  intro l hfl _ _ p e ha hc hk s m args below hf hA hF happ hP
  obtain ⟨hcalls, hrest, hpre⟩ := hP
  obtain ⟨-, -, -, hnamed, -, -, -, hat⟩ := (Spec.applies_iff hf).mp happ
  obtain ⟨hg, hn⟩ := and_e (Cond.before_iff.mp (show (Jvm.Cond.and given_1 narrow_1).before args s = true from hpre))
  obtain ⟨g1, g2⟩ := and_e hg
  obtain ⟨g3, g4⟩ := and_e g2
  obtain ⟨g5, g6⟩ := and_e g4
  obtain ⟨w0, w1, w2, rfl⟩ : ∃ w0 w1 w2 : Value, args = #[w0, w1, w2] := by
    have hs : args.size = 3 := by simpa [Cond.value, given_1] using g1
    obtain ⟨L⟩ := args
    match L, hs with
    | [w0, w1, w2], _ => exact ⟨w0, w1, w2, rfl⟩
  have hw := fun d (hd : d ∈ tables_1) => atoms_spec (ws := Jvm.Cond.code x code maxLocals ret :: tables_1) hat d (List.mem_cons_of_mem _ hd)
  have hfit : Fit s := fun {y c} hc i hi => by
    obtain ⟨ha, rfl⟩ := Array.getElem?_eq_some_iff.mp hc
    have q := List.all_eq_true.mp ((Array.all_eq_true_iff_forall_mem.mp hF) _ (Array.getElem_mem ha)) i (List.mem_range.mpr hi)
    simpa [Array.getElem?_eq_getElem hi] using q
  obtain ⟨i0, ei0⟩ := is_v g3
  obtain rfl : w0 = (.int i0) := Option.some.inj ei0
  obtain ⟨i1, ei1⟩ := is_v g5
  obtain rfl : w1 = (.int i1) := Option.some.inj ei1
  obtain ⟨i2, ei2⟩ := is_v g6
  obtain rfl : w2 = (.int i2) := Option.some.inj ei2
  obtain ⟨hk0, hj0⟩ := and_e hn
  obtain ⟨hk1, hj1⟩ := and_e hj0
  obtain ⟨hk2, hj2⟩ := and_e hj1
  obtain ⟨hk3, hj3⟩ := and_e hj2
  obtain ⟨hk4, hj4⟩ := and_e hj3
  obtain ⟨hk5, hj5⟩ := and_e hj4
  obtain ⟨hk6, hj6⟩ := and_e hj5
  obtain ⟨hk7, hj7⟩ := and_e hj6
  obtain ⟨hk8, hj8⟩ := and_e hj7
  obtain ⟨hk9, hj9⟩ := and_e hj8
  obtain ⟨hk10, hj10⟩ := and_e hj9
  obtain ⟨hk11, hj11⟩ := and_e hj10
  obtain ⟨hk12, hj12⟩ := and_e hj11
  obtain ⟨hk13, hj13⟩ := and_e hj12
  obtain ⟨hk14, hj14⟩ := and_e hj13
  obtain ⟨hk15, hj15⟩ := and_e hj14
  obtain ⟨hk16, hj16⟩ := and_e hj15
  obtain ⟨hk17, hj17⟩ := and_e hj16
  obtain ⟨hk18, hj18⟩ := and_e hj17
  obtain ⟨hk19, hj19⟩ := and_e hj18
  obtain ⟨hk20, hj20⟩ := and_e hj19
  obtain ⟨hk21, hj21⟩ := and_e hj20
  obtain ⟨hk22, hj22⟩ := and_e hj21
  obtain ⟨hk23, hj23⟩ := and_e hj22
  obtain ⟨hk24, hj24⟩ := and_e hj23
  obtain ⟨hk25, hj25⟩ := and_e hj24
  obtain ⟨hk26, hj26⟩ := and_e hj25
  obtain ⟨hk27, hj27⟩ := and_e hj26
  obtain ⟨hk28, hj28⟩ := and_e hj27
  obtain ⟨hk29, hj29⟩ := and_e hj28
  obtain ⟨hk30, hj30⟩ := and_e hj29
  obtain ⟨hk31, hj31⟩ := and_e hj30
  obtain ⟨hk32, hj32⟩ := and_e hj31
  obtain ⟨hk33, hj33⟩ := and_e hj32
  obtain ⟨hk34, hj34⟩ := and_e hj33
  obtain ⟨hk35, hj35⟩ := and_e hj34
  obtain ⟨hk36, hj36⟩ := and_e hj35
  obtain ⟨hk37, hj37⟩ := and_e hj36
  obtain ⟨hk38, hj38⟩ := and_e hj37
  obtain ⟨hk39, hj39⟩ := and_e hj38
  obtain ⟨hk40, hj40⟩ := and_e hj39
  obtain ⟨hk41, hj41⟩ := and_e hj40
  obtain ⟨hk42, hj42⟩ := and_e hj41
  obtain ⟨hk43, hj43⟩ := and_e hj42
  obtain ⟨hk44, hj44⟩ := and_e hj43
  obtain ⟨hk45, hj45⟩ := and_e hj44
  obtain ⟨hk46, hj46⟩ := and_e hj45
  have hk47 := hj46
  obtain ⟨r0, e_r0⟩ := exa_v hk0
  have S_r0 := Sta.start e_r0 (Or.inr ⟨(hw _ (List.mem_of_getElem? (i := 7) rfl)), (hw _ (List.mem_of_getElem? (i := 8) rfl))⟩)
  have E_r0 := Exa.start e_r0 hk0
  have A_r0 := Fld.start ((fld_at e_r0).symm.trans (eqv_i (Term.int_eval (0)) hk1))
  have B_r0 := Fld.start ((fld_at e_r0).symm.trans (eqv_i (Term.int_eval (7)) hk2))
  obtain ⟨r1, e_r1⟩ := exa_v hk3
  have S_r1 := Sta.start e_r1 (Or.inr ⟨(hw _ (List.mem_of_getElem? (i := 7) rfl)), (hw _ (List.mem_of_getElem? (i := 19) rfl))⟩)
  have E_r1 := Exa.start e_r1 hk3
  have A_r1 := Fld.start ((fld_at e_r1).symm.trans (eqv_i (Term.int_eval (4)) hk4))
  have B_r1 := Fld.start ((fld_at e_r1).symm.trans (eqv_i (Term.int_eval (11)) hk5))
  obtain ⟨r2, e_r2⟩ := exa_v hk15
  have S_r2 := Sta.start e_r2 (Or.inr ⟨(hw _ (List.mem_of_getElem? (i := 7) rfl)), (hw _ (List.mem_of_getElem? (i := 27) rfl))⟩)
  have E_r2 := Exa.start e_r2 hk15
  have A_r2 := Fld.start ((fld_at e_r2).symm.trans (eqv_i (Term.int_eval (1)) hk16))
  have B_r2 := Fld.start ((fld_at e_r2).symm.trans (eqv_i (Term.int_eval (2)) hk25))
  obtain ⟨r3, e_r3⟩ := exa_v hk17
  have S_r3 := Sta.start e_r3 (Or.inr ⟨(hw _ (List.mem_of_getElem? (i := 7) rfl)), (hw _ (List.mem_of_getElem? (i := 29) rfl))⟩)
  have E_r3 := Exa.start e_r3 hk17
  have A_r3 := Fld.start ((fld_at e_r3).symm.trans (eqv_i (Term.int_eval (0)) hk18))
  have B_r3 := Fld.start ((fld_at e_r3).symm.trans (eqv_i (Term.int_eval (4)) hk19))
  obtain ⟨r4, e_r4⟩ := exa_v hk6
  have S_r4 := Sta.start e_r4 (Or.inr ⟨(hw _ (List.mem_of_getElem? (i := 7) rfl)), (hw _ (List.mem_of_getElem? (i := 21) rfl))⟩)
  have E_r4 := Exa.start e_r4 hk6
  have A_r4 := Fld.start ((fld_at e_r4).symm.trans (eqv_i (Term.int_eval (0)) hk7))
  have B_r4 := Fld.start ((fld_at e_r4).symm.trans (eqv_i (Term.int_eval (7)) hk8))
  obtain ⟨r5, e_r5⟩ := exa_v hk35
  have S_r5 := Sta.start e_r5 (Or.inr ⟨(hw _ (List.mem_of_getElem? (i := 7) rfl)), (hw _ (List.mem_of_getElem? (i := 41) rfl))⟩)
  have E_r5 := Exa.start e_r5 hk35
  have A_r5 := Fld.start ((fld_at e_r5).symm.trans (eqv_i (Term.int_eval (0)) hk36))
  have B_r5 := Fld.start ((fld_at e_r5).symm.trans (eqv_i (Term.int_eval (7)) hk37))
  obtain ⟨r6, e_r6⟩ := exa_v hk40
  have S_r6 := Sta.start e_r6 (Or.inr ⟨(hw _ (List.mem_of_getElem? (i := 7) rfl)), (hw _ (List.mem_of_getElem? (i := 45) rfl))⟩)
  have E_r6 := Exa.start e_r6 hk40
  have A_r6 := Fld.start ((fld_at e_r6).symm.trans (eqv_i (Term.int_eval (0)) hk41))
  have B_r6 := Fld.start ((fld_at e_r6).symm.trans (eqv_i (Term.int_eval (2)) hk42))
  obtain ⟨r7, e_r7⟩ := exa_v hk32
  have S_r7 := Sta.start e_r7 (Or.inr ⟨(hw _ (List.mem_of_getElem? (i := 7) rfl)), (hw _ (List.mem_of_getElem? (i := 39) rfl))⟩)
  have E_r7 := Exa.start e_r7 hk32
  have A_r7 := Fld.start ((fld_at e_r7).symm.trans (eqv_i (Term.int_eval (0)) hk33))
  have B_r7 := Fld.start ((fld_at e_r7).symm.trans (eqv_i (Term.int_eval (5)) hk46))
  obtain ⟨r8, e_r8⟩ := exa_v hk12
  have S_r8 := Sta.start e_r8 (Or.inr ⟨(hw _ (List.mem_of_getElem? (i := 7) rfl)), (hw _ (List.mem_of_getElem? (i := 25) rfl))⟩)
  have E_r8 := Exa.start e_r8 hk12
  have A_r8 := Fld.start ((fld_at e_r8).symm.trans (eqv_i (Term.int_eval (0)) hk13))
  have B_r8 := Fld.start ((fld_at e_r8).symm.trans (eqv_i (Term.int_eval (3)) hk14))
  obtain ⟨r9, e_r9⟩ := exa_v hk29
  have S_r9 := Sta.start e_r9 (Or.inr ⟨(hw _ (List.mem_of_getElem? (i := 7) rfl)), (hw _ (List.mem_of_getElem? (i := 37) rfl))⟩)
  have E_r9 := Exa.start e_r9 hk29
  have A_r9 := Fld.start ((fld_at e_r9).symm.trans (eqv_i (Term.int_eval (0)) hk30))
  have B_r9 := Fld.start ((fld_at e_r9).symm.trans (eqv_i (Term.int_eval (2)) hk31))
  obtain ⟨r10, e_r10⟩ := exa_v hk20
  have S_r10 := Sta.start e_r10 (Or.inr ⟨(hw _ (List.mem_of_getElem? (i := 7) rfl)), (hw _ (List.mem_of_getElem? (i := 31) rfl))⟩)
  have E_r10 := Exa.start e_r10 hk20
  have A_r10 := Fld.start ((fld_at e_r10).symm.trans (eqv_i (Term.int_eval (0)) hk21))
  have B_r10 := Fld.start ((fld_at e_r10).symm.trans (eqv_i (Term.int_eval (3)) hk22))
  obtain ⟨r11, e_r11⟩ := exa_v hk26
  have S_r11 := Sta.start e_r11 (Or.inr ⟨(hw _ (List.mem_of_getElem? (i := 7) rfl)), (hw _ (List.mem_of_getElem? (i := 35) rfl))⟩)
  have E_r11 := Exa.start e_r11 hk26
  have A_r11 := Fld.start ((fld_at e_r11).symm.trans (eqv_i (Term.int_eval (0)) hk27))
  have B_r11 := Fld.start ((fld_at e_r11).symm.trans (eqv_i (Term.int_eval (3)) hk28))
  obtain ⟨r12, e_r12⟩ := exa_v hk43
  have S_r12 := Sta.start e_r12 (Or.inr ⟨(hw _ (List.mem_of_getElem? (i := 7) rfl)), (hw _ (List.mem_of_getElem? (i := 47) rfl))⟩)
  have E_r12 := Exa.start e_r12 hk43
  have A_r12 := Fld.start ((fld_at e_r12).symm.trans (eqv_i (Term.int_eval (0)) hk44))
  have B_r12 := Fld.start ((fld_at e_r12).symm.trans (eqv_i (Term.int_eval (4)) hk45))
  obtain ⟨r13, e_r13⟩ := exa_v hk23
  have S_r13 := Sta.start e_r13 (Or.inr ⟨(hw _ (List.mem_of_getElem? (i := 7) rfl)), (hw _ (List.mem_of_getElem? (i := 33) rfl))⟩)
  have E_r13 := Exa.start e_r13 hk23
  have A_r13 := Fld.start ((fld_at e_r13).symm.trans (eqv_i (Term.int_eval (0)) hk24))
  have B_r13 := Fld.start ((fld_at e_r13).symm.trans (eqv_i (Term.int_eval (3)) hk34))
  obtain ⟨r14, e_r14⟩ := exa_v hk38
  have S_r14 := Sta.start e_r14 (Or.inr ⟨(hw _ (List.mem_of_getElem? (i := 7) rfl)), (hw _ (List.mem_of_getElem? (i := 43) rfl))⟩)
  have E_r14 := Exa.start e_r14 hk38
  have A_r14 := Fld.start ((fld_at e_r14).symm.trans (eqv_i (Term.int_eval (0)) hk39))
  have B_r14 := Fld.start ((fld_at e_r14).symm.trans (eqv_i (Term.int_eval (4)) hk47))
  obtain ⟨r15, e_r15⟩ := exa_v hk9
  have S_r15 := Sta.start e_r15 (Or.inr ⟨(hw _ (List.mem_of_getElem? (i := 7) rfl)), (hw _ (List.mem_of_getElem? (i := 23) rfl))⟩)
  have E_r15 := Exa.start e_r15 hk9
  have A_r15 := Fld.start ((fld_at e_r15).symm.trans (eqv_i (Term.int_eval (0)) hk10))
  have B_r15 := Fld.start ((fld_at e_r15).symm.trans (eqv_i (Term.int_eval (1)) hk11))
  obtain ⟨n, o, h1, h2, h3, _, L, rfl, ⟨rfl, N⟩, hq⟩ := rm0 l s _ hw tables_1 i0 i1 i2 r0 r1 r2 r3 r4 r5 r6 r7 r8 r9 r10 r11 r12 r13 r14 r15 s.heap s.heap.size (Nat.le_refl _) (Old.start s) S_r0 S_r1 S_r2 S_r3 S_r4 S_r5 S_r6 S_r7 S_r8 S_r9 S_r10 S_r11 S_r12 S_r13 S_r14 S_r15 E_r0 A_r0 B_r0 E_r1 A_r1 B_r1 E_r2 A_r2 B_r2 E_r3 A_r3 B_r3 E_r4 A_r4 B_r4 E_r5 A_r5 B_r5 E_r6 A_r6 B_r6 E_r7 A_r7 B_r7 E_r8 A_r8 B_r8 E_r9 A_r9 B_r9 E_r10 A_r10 B_r10 E_r11 A_r11 B_r11 E_r12 A_r12 B_r12 E_r13 A_r13 B_r13 E_r14 A_r14 B_r14 E_r15 A_r15 B_r15 p e ha hc hk s m _ below hf ((Spec.applies_iff_loose hf).mp happ).1 ⟨rfl, State.Warmed39.refl s, rfl⟩ trivial
  refine ⟨n, _, h1, h2, h3, hpost _ _ _ _ _ _ ⟨Cond.after_iff.mpr rfl, Cond.after_iff.mpr (eq_i res_at (Term.int_eval (1)) rfl), trivial⟩ ⟨hq.1, hq.2.1, (hq.2.2.sift fun y hy => Or.inr (N y hy)).mono (by decide) (by decide)⟩⟩
theorem main_1_1 : Claimed_1_1 := comes_1 fun _ _ _ _ _ _ h hF => ⟨h.1, hF⟩
theorem main_1_2 : Claimed_1_2 := comes_1 fun _ _ _ _ _ _ h hF => ⟨h.2.1, hF⟩
end Jvm.Pilot.@@N@@
namespace Jvm.Pilot.@@N@@
open Jvm Jvm.ClassFile Sem Op Lib Jvm.Free Jvm.Stand Jvm.Pilot.@@N@@.Jvm.D
/-! MADE BY PROGRAM (witnessworld.py) out of the Statement's table words and the real class files: 12 classes; the members and pool entries that the words name. The judged class is class 1, her method 1. -/
namespace start1
open Jvm.ClassFile
def u (s : String) : CpInfo := .utf8 (stringToUtf16 s)
/-- a pool by its gaps: so many unusable entries, then the entry; so many at the end -/
def gap : Nat → List CpInfo → List CpInfo
  | 0, r => r
  | n + 1, r => .unusable :: gap n r
def poolList (es : List (Nat × CpInfo)) (last : Nat) : List CpInfo := es.foldr (fun e r => gap e.1 (e.2 :: r)) (gap last [])
def pool (es : List (Nat × CpInfo)) (last : Nat) : Array CpInfo := ⟨poolList es last⟩
def fileOf (pool : Array CpInfo) (this : Nat) (attrs : Array Attribute := #[]) (ms : Array MethodInfo := #[]) (fl : Nat := 33) (sup : Nat := 0) (ifs : Array Nat := #[]) (fds : Array FieldInfo := #[]) : ClassFile where
  minorVersion := 0
  majorVersion := 65
  constantPool := pool
  accessFlags := fl
  thisClass := this
  superClass := sup
  interfaces := ifs
  fields := fds
  methods := ms
  attributes := attrs
def plain (name : String) (sup : Option ClassId) : Class where
  name := name
  kind := .ordinary
  loader := none
  accessFlags := 33
  super := sup
  interfaces := #[]
  cf := none
  fields := #[]
  methods := #[]
  instanceTypes := #[]
  staticTypes := #[]
  resolved := #[]
  callSites := []
  init := .initialized
  statics := none
  mirror := none

def pool0 : Array CpInfo := pool [(5, u "<init>"), (0, u "()V"), (1, .class_ 10), (1, u "java/lang/Object")] 113

def k0m0 : Method := { name := "<init>", desc := "()V", sig := { parameters := [], returnType := none }, accessFlags := 1, code := none }
/-- java/lang/Object -/
def k0 : Class := { plain "java/lang/Object" none with
  accessFlags := 33
  interfaces := #[]
  cf := some (fileOf pool0 8 #[] #[{ accessFlags := 1, nameIndex := 5, descriptorIndex := 6, attributes := #[] }] 33 0 #[] #[])
  fields := #[]
  methods := #[k0m0]
  instanceTypes := #[]
  staticTypes := #[]
  resolved := Array.replicate 124 none
  statics := none }

def pool1 : Array CpInfo := pool [(2, .class_ 4), (1, u "java/lang/Object"), (0, u "<init>"), (0, u "()V"), (0, .integer 2147483647), (0, .methodref 9 10), (0, .class_ 11), (0, .nameAndType 12 13), (0, u "com/example/whelk/whelk/io/ApiKeySupportsPinLaw"), (0, u "pick"), (0, u "(I)Lcom/example/whelk/whelk/io/ApiKey;"), (0, .methodref 15 16), (0, .class_ 17), (0, .nameAndType 18 19), (0, u "com/example/whelk/whelk/io/ApiKey"), (0, u "supports"), (0, u "(S)Z"), (0, .fieldref 15 21), (0, .nameAndType 22 23), (0, u "PRODUCE"), (0, u "Lcom/example/whelk/whelk/io/ApiKey;"), (0, .fieldref 15 25), (0, .nameAndType 26 23), (0, u "FETCH"), (0, .fieldref 15 28), (0, .nameAndType 29 23), (0, u "LIST_OFFSETS"), (0, .fieldref 15 31), (0, .nameAndType 32 23), (0, u "METADATA"), (0, .fieldref 15 34), (0, .nameAndType 35 23), (0, u "OFFSET_COMMIT"), (0, .fieldref 15 37), (0, .nameAndType 38 23), (0, u "OFFSET_FETCH"), (0, .fieldref 15 40), (0, .nameAndType 41 23), (0, u "FIND_COORDINATOR"), (0, .fieldref 15 43), (0, .nameAndType 44 23), (0, u "JOIN_GROUP"), (0, .fieldref 15 46), (0, .nameAndType 47 23), (0, u "HEARTBEAT"), (0, .fieldref 15 49), (0, .nameAndType 50 23), (0, u "LEAVE_GROUP"), (0, .fieldref 15 52), (0, .nameAndType 53 23), (0, u "SYNC_GROUP"), (0, .fieldref 15 55), (0, .nameAndType 56 23), (0, u "API_VERSIONS"), (0, .fieldref 15 58), (0, .nameAndType 59 23), (0, u "CREATE_TOPICS"), (0, .fieldref 15 61), (0, .nameAndType 62 23), (0, u "DELETE_TOPICS"), (0, .fieldref 15 64), (0, .nameAndType 65 23), (0, u "INIT_PRODUCER_ID"), (0, .fieldref 15 67), (0, .nameAndType 68 23), (0, u "CREATE_PARTITIONS"), (2, u "law"), (0, u "(III)Z")] 5

def k1m0 : Method := { name := "<init>", desc := "()V", sig := { parameters := [], returnType := none }, accessFlags := 1, code := none }
def k1c1 : Code := { maxStack := 4, maxLocals := 11, code := code, exceptionTable := #[], attributes := #[] }
def k1m1 : Method := { name := "law", desc := "(III)Z", sig := { parameters := [.int, .int, .int], returnType := some .boolean }, accessFlags := 9, code := some k1c1 }
def k1c2 : Code := { maxStack := 2, maxLocals := 1, code := method_3_code, exceptionTable := #[], attributes := #[] }
def k1m2 : Method := { name := "pick", desc := "(I)Lcom/example/whelk/whelk/io/ApiKey;", sig := { parameters := [.int], returnType := some (.object "com/example/whelk/whelk/io/ApiKey") }, accessFlags := 10, code := some k1c2 }
/-- com/example/whelk/whelk/io/ApiKeySupportsPinLaw -/
def k1 : Class := { plain "com/example/whelk/whelk/io/ApiKeySupportsPinLaw" (some 0) with
  accessFlags := 49
  interfaces := #[]
  cf := some (fileOf pool1 9 #[] #[{ accessFlags := 1, nameIndex := 5, descriptorIndex := 6, attributes := #[] }, { accessFlags := 9, nameIndex := 71, descriptorIndex := 72, attributes := #[] }, { accessFlags := 10, nameIndex := 12, descriptorIndex := 13, attributes := #[] }] 49 2 #[] #[])
  fields := #[]
  methods := #[k1m0, k1m1, k1m2]
  instanceTypes := #[]
  staticTypes := #[]
  resolved := Array.replicate 78 none
  statics := none }

def pool2 : Array CpInfo := pool [(1, .class_ 2), (0, u "java/lang/constant/Constable"), (0, .class_ 4), (0, u "java/lang/Object")] 6

/-- java/lang/constant/Constable -/
def k2 : Class := { plain "java/lang/constant/Constable" (some 0) with
  accessFlags := 1537
  interfaces := #[]
  cf := some (fileOf pool2 1 #[] #[] 1537 3 #[] #[])
  fields := #[]
  methods := #[]
  instanceTypes := #[]
  staticTypes := #[]
  resolved := Array.replicate 11 none
  statics := none }

def pool3 : Array CpInfo := pool [(1, .class_ 2), (0, u "java/lang/Comparable"), (0, .class_ 4), (0, u "java/lang/Object")] 7

/-- java/lang/Comparable -/
def k3 : Class := { plain "java/lang/Comparable" (some 0) with
  accessFlags := 1537
  interfaces := #[]
  cf := some (fileOf pool3 1 #[] #[] 1537 3 #[] #[])
  fields := #[]
  methods := #[]
  instanceTypes := #[]
  staticTypes := #[]
  resolved := Array.replicate 12 none
  statics := none }

def pool4 : Array CpInfo := pool [(1, .class_ 2), (0, u "java/io/Serializable"), (0, .class_ 4), (0, u "java/lang/Object")] 2

/-- java/io/Serializable -/
def k4 : Class := { plain "java/io/Serializable" (some 0) with
  accessFlags := 1537
  interfaces := #[]
  cf := some (fileOf pool4 1 #[] #[] 1537 3 #[] #[])
  fields := #[]
  methods := #[]
  instanceTypes := #[]
  staticTypes := #[]
  resolved := Array.replicate 7 none
  statics := none }

def pool5 : Array CpInfo := pool [(2, .class_ 4), (1, u "java/lang/Enum"), (0, u "name"), (0, u "Ljava/lang/String;"), (2, u "ordinal"), (0, u "I"), (1, .class_ 14), (1, u "java/lang/Object"), (4, u "hash"), (86, .class_ 108), (1, u "java/lang/Enum$EnumDesc"), (2, .class_ 112), (0, u "java/lang/constant/Constable"), (0, .class_ 114), (0, u "java/lang/Comparable"), (0, .class_ 116), (0, u "java/io/Serializable")] 87

/-- java/lang/Enum -/
def k5 : Class := { plain "java/lang/Enum" (some 0) with
  accessFlags := 1057
  interfaces := #[2, 3, 4]
  cf := some (fileOf pool5 2 #[.nestMembers #[106]] #[] 1057 12 #[111, 113, 115] #[{ accessFlags := 18, nameIndex := 5, descriptorIndex := 6, attributes := #[] }, { accessFlags := 18, nameIndex := 9, descriptorIndex := 10, attributes := #[] }, { accessFlags := 2, nameIndex := 19, descriptorIndex := 10, attributes := #[] }])
  fields := #[{ name := "name", type := (.object "java/lang/String"), accessFlags := 18, slot := 0, constantValue := 0 }, { name := "ordinal", type := .int, accessFlags := 18, slot := 1, constantValue := 0 }, { name := "hash", type := .int, accessFlags := 2, slot := 2, constantValue := 0 }]
  methods := #[]
  instanceTypes := #[(.object "java/lang/String"), .int, .int]
  staticTypes := #[]
  resolved := Array.replicate 204 none
  statics := none }

def pool6 : Array CpInfo := pool [(1, .class_ 2), (0, u "com/example/whelk/whelk/io/ApiKey"), (2, u "PRODUCE"), (0, u "Lcom/example/whelk/whelk/io/ApiKey;"), (2, u "FETCH"), (2, u "LIST_OFFSETS"), (2, u "METADATA"), (2, u "OFFSET_COMMIT"), (2, u "OFFSET_FETCH"), (2, u "FIND_COORDINATOR"), (2, u "JOIN_GROUP"), (2, u "HEARTBEAT"), (2, u "LEAVE_GROUP"), (2, u "SYNC_GROUP"), (2, u "API_VERSIONS"), (2, u "CREATE_TOPICS"), (2, u "DELETE_TOPICS"), (2, u "INIT_PRODUCER_ID"), (2, u "CREATE_PARTITIONS"), (2, u "$VALUES"), (0, u "[Lcom/example/whelk/whelk/io/ApiKey;"), (6, .class_ 64), (1, u "java/lang/Enum"), (8, u "id"), (0, u "S"), (0, .fieldref 1 76), (0, .nameAndType 77 74), (0, u "minVersion"), (0, .fieldref 1 79), (0, .nameAndType 80 74), (0, u "maxVersion"), (2, u "firstFlexibleVersion"), (7, u "(S)Z"), (32, u "supports")] 6

def k6c0 : Code := { maxStack := 2, maxLocals := 2, code := prog_9_method_8_code, exceptionTable := #[], attributes := #[] }
def k6m0 : Method := { name := "supports", desc := "(S)Z", sig := { parameters := [.short], returnType := some .boolean }, accessFlags := 0, code := some k6c0 }
/-- com/example/whelk/whelk/io/ApiKey -/
def k6 : Class := { plain "com/example/whelk/whelk/io/ApiKey" (some 5) with
  accessFlags := 16432
  interfaces := #[]
  cf := some (fileOf pool6 1 #[] #[{ accessFlags := 0, nameIndex := 124, descriptorIndex := 91, attributes := #[] }] 16432 62 #[] #[{ accessFlags := 16409, nameIndex := 5, descriptorIndex := 6, attributes := #[] }, { accessFlags := 16409, nameIndex := 9, descriptorIndex := 6, attributes := #[] }, { accessFlags := 16409, nameIndex := 12, descriptorIndex := 6, attributes := #[] }, { accessFlags := 16409, nameIndex := 15, descriptorIndex := 6, attributes := #[] }, { accessFlags := 16409, nameIndex := 18, descriptorIndex := 6, attributes := #[] }, { accessFlags := 16409, nameIndex := 21, descriptorIndex := 6, attributes := #[] }, { accessFlags := 16409, nameIndex := 24, descriptorIndex := 6, attributes := #[] }, { accessFlags := 16409, nameIndex := 27, descriptorIndex := 6, attributes := #[] }, { accessFlags := 16409, nameIndex := 30, descriptorIndex := 6, attributes := #[] }, { accessFlags := 16409, nameIndex := 33, descriptorIndex := 6, attributes := #[] }, { accessFlags := 16409, nameIndex := 36, descriptorIndex := 6, attributes := #[] }, { accessFlags := 16409, nameIndex := 39, descriptorIndex := 6, attributes := #[] }, { accessFlags := 16409, nameIndex := 42, descriptorIndex := 6, attributes := #[] }, { accessFlags := 16409, nameIndex := 45, descriptorIndex := 6, attributes := #[] }, { accessFlags := 16409, nameIndex := 48, descriptorIndex := 6, attributes := #[] }, { accessFlags := 16409, nameIndex := 51, descriptorIndex := 6, attributes := #[] }, { accessFlags := 18, nameIndex := 73, descriptorIndex := 74, attributes := #[] }, { accessFlags := 18, nameIndex := 77, descriptorIndex := 74, attributes := #[] }, { accessFlags := 18, nameIndex := 80, descriptorIndex := 74, attributes := #[] }, { accessFlags := 18, nameIndex := 83, descriptorIndex := 74, attributes := #[] }, { accessFlags := 4122, nameIndex := 54, descriptorIndex := 55, attributes := #[] }])
  fields := #[{ name := "PRODUCE", type := (.object "com/example/whelk/whelk/io/ApiKey"), accessFlags := 16409, slot := 0, constantValue := 0 }, { name := "FETCH", type := (.object "com/example/whelk/whelk/io/ApiKey"), accessFlags := 16409, slot := 1, constantValue := 0 }, { name := "LIST_OFFSETS", type := (.object "com/example/whelk/whelk/io/ApiKey"), accessFlags := 16409, slot := 2, constantValue := 0 }, { name := "METADATA", type := (.object "com/example/whelk/whelk/io/ApiKey"), accessFlags := 16409, slot := 3, constantValue := 0 }, { name := "OFFSET_COMMIT", type := (.object "com/example/whelk/whelk/io/ApiKey"), accessFlags := 16409, slot := 4, constantValue := 0 }, { name := "OFFSET_FETCH", type := (.object "com/example/whelk/whelk/io/ApiKey"), accessFlags := 16409, slot := 5, constantValue := 0 }, { name := "FIND_COORDINATOR", type := (.object "com/example/whelk/whelk/io/ApiKey"), accessFlags := 16409, slot := 6, constantValue := 0 }, { name := "JOIN_GROUP", type := (.object "com/example/whelk/whelk/io/ApiKey"), accessFlags := 16409, slot := 7, constantValue := 0 }, { name := "HEARTBEAT", type := (.object "com/example/whelk/whelk/io/ApiKey"), accessFlags := 16409, slot := 8, constantValue := 0 }, { name := "LEAVE_GROUP", type := (.object "com/example/whelk/whelk/io/ApiKey"), accessFlags := 16409, slot := 9, constantValue := 0 }, { name := "SYNC_GROUP", type := (.object "com/example/whelk/whelk/io/ApiKey"), accessFlags := 16409, slot := 10, constantValue := 0 }, { name := "API_VERSIONS", type := (.object "com/example/whelk/whelk/io/ApiKey"), accessFlags := 16409, slot := 11, constantValue := 0 }, { name := "CREATE_TOPICS", type := (.object "com/example/whelk/whelk/io/ApiKey"), accessFlags := 16409, slot := 12, constantValue := 0 }, { name := "DELETE_TOPICS", type := (.object "com/example/whelk/whelk/io/ApiKey"), accessFlags := 16409, slot := 13, constantValue := 0 }, { name := "INIT_PRODUCER_ID", type := (.object "com/example/whelk/whelk/io/ApiKey"), accessFlags := 16409, slot := 14, constantValue := 0 }, { name := "CREATE_PARTITIONS", type := (.object "com/example/whelk/whelk/io/ApiKey"), accessFlags := 16409, slot := 15, constantValue := 0 }, { name := "id", type := .short, accessFlags := 18, slot := 3, constantValue := 0 }, { name := "minVersion", type := .short, accessFlags := 18, slot := 4, constantValue := 0 }, { name := "maxVersion", type := .short, accessFlags := 18, slot := 5, constantValue := 0 }, { name := "firstFlexibleVersion", type := .short, accessFlags := 18, slot := 6, constantValue := 0 }, { name := "$VALUES", type := (.array (.object "com/example/whelk/whelk/io/ApiKey")), accessFlags := 4122, slot := 16, constantValue := 0 }]
  methods := #[k6m0]
  instanceTypes := #[(.object "java/lang/String"), .int, .int, .short, .short, .short, .short]
  staticTypes := #[(.object "com/example/whelk/whelk/io/ApiKey"), (.object "com/example/whelk/whelk/io/ApiKey"), (.object "com/example/whelk/whelk/io/ApiKey"), (.object "com/example/whelk/whelk/io/ApiKey"), (.object "com/example/whelk/whelk/io/ApiKey"), (.object "com/example/whelk/whelk/io/ApiKey"), (.object "com/example/whelk/whelk/io/ApiKey"), (.object "com/example/whelk/whelk/io/ApiKey"), (.object "com/example/whelk/whelk/io/ApiKey"), (.object "com/example/whelk/whelk/io/ApiKey"), (.object "com/example/whelk/whelk/io/ApiKey"), (.object "com/example/whelk/whelk/io/ApiKey"), (.object "com/example/whelk/whelk/io/ApiKey"), (.object "com/example/whelk/whelk/io/ApiKey"), (.object "com/example/whelk/whelk/io/ApiKey"), (.object "com/example/whelk/whelk/io/ApiKey"), (.array (.object "com/example/whelk/whelk/io/ApiKey"))]
  resolved := Array.replicate 131 none
  statics := some 0 }

def pool7 : Array CpInfo := pool [(1, u "java/lang/Cloneable"), (0, .class_ 1), (0, u "java/lang/Object"), (0, .class_ 3)] 3

/-- java/lang/Cloneable -/
def k7 : Class := { plain "java/lang/Cloneable" (some 0) with
  accessFlags := 1537
  interfaces := #[]
  cf := some (fileOf pool7 2 #[] #[] 1537 4 #[] #[])
  fields := #[]
  methods := #[]
  instanceTypes := #[]
  staticTypes := #[]
  resolved := Array.replicate 8 none
  statics := none }

/-- the primitive byte -/
def k8 : Class := { plain "byte" none with kind := .primitive 'B', accessFlags := 0x411 }
/-- [B -/
def k9 : Class := { plain "[B" (some 0) with kind := .array 8 .byte, interfaces := #[7, 4], accessFlags := 1041 }

/-- the primitive int -/
def k10 : Class := { plain "int" none with kind := .primitive 'I', accessFlags := 0x411 }
/-- [I -/
def k11 : Class := { plain "[I" (some 0) with kind := .array 10 .int, interfaces := #[7, 4], accessFlags := 1041 }

def heap : Heap := #[{ cls := 6, slots := #[.ref 1, .ref 2, .ref 3, .ref 4, .ref 5, .ref 6, .ref 7, .ref 8, .ref 9, .ref 10, .ref 11, .ref 12, .ref 13, .ref 14, .ref 15, .ref 16, .null], vm := .statics 6 },
  { cls := 6, slots := #[.null, .int 0, .int 0, .int 0, .int 0, .int 7, .int 0], vm := .none },
  { cls := 6, slots := #[.null, .int 1, .int 0, .int 0, .int 4, .int 11, .int 0], vm := .none },
  { cls := 6, slots := #[.null, .int 2, .int 0, .int 0, .int 1, .int 2, .int 0], vm := .none },
  { cls := 6, slots := #[.null, .int 3, .int 0, .int 0, .int 0, .int 4, .int 0], vm := .none },
  { cls := 6, slots := #[.null, .int 4, .int 0, .int 0, .int 0, .int 7, .int 0], vm := .none },
  { cls := 6, slots := #[.null, .int 5, .int 0, .int 0, .int 0, .int 7, .int 0], vm := .none },
  { cls := 6, slots := #[.null, .int 6, .int 0, .int 0, .int 0, .int 2, .int 0], vm := .none },
  { cls := 6, slots := #[.null, .int 7, .int 0, .int 0, .int 0, .int 5, .int 0], vm := .none },
  { cls := 6, slots := #[.null, .int 8, .int 0, .int 0, .int 0, .int 3, .int 0], vm := .none },
  { cls := 6, slots := #[.null, .int 9, .int 0, .int 0, .int 0, .int 2, .int 0], vm := .none },
  { cls := 6, slots := #[.null, .int 10, .int 0, .int 0, .int 0, .int 3, .int 0], vm := .none },
  { cls := 6, slots := #[.null, .int 11, .int 0, .int 0, .int 0, .int 3, .int 0], vm := .none },
  { cls := 6, slots := #[.null, .int 12, .int 0, .int 0, .int 0, .int 4, .int 0], vm := .none },
  { cls := 6, slots := #[.null, .int 13, .int 0, .int 0, .int 0, .int 3, .int 0], vm := .none },
  { cls := 6, slots := #[.null, .int 14, .int 0, .int 0, .int 0, .int 4, .int 0], vm := .none },
  { cls := 6, slots := #[.null, .int 15, .int 0, .int 0, .int 0, .int 1, .int 0], vm := .none }]
def classes : Array Class := #[k0, k1, k2, k3, k4, k5, k6, k7, k8, k9, k10, k11]
def interned : List (Array UInt16 × Addr) := []
def slotsUsed : Nat := 129
def theMethod : MethodId := ⟨1, 1⟩
def args0 : Array Value := #[.int 5, .int 9, .int 1]
def aboutOver (below : List Frame) : State where
  vm := { classes := classes, interned := interned.toArray }
  heap := heap
  slotsUsed := slotsUsed
  threads := #[{ frames := .invoking theMethod args0 :: below }]
def below0 : List Frame := [.native { method := ⟨0, 0⟩, args := #[] }]
def about1 : State := aboutOver below0
def p0 : Program := .bare "" "" ""
def e0 : Env := launch0.env 0 0 0
theorem w_frames : about1.frames = Frame.invoking theMethod args0 :: below0 := rfl
set_option maxRecDepth 65536 in
theorem w_args : argsFit about1.vm theMethod args0 = true := by decide +kernel
set_option maxRecDepth 65536 in
theorem w_heap : heapFits about1 = true := by decide +kernel
set_option maxRecDepth 65536 in
theorem w_runnable : about1.curStatus? = some .runnable := by decide +kernel
set_option maxRecDepth 65536 in
theorem w_alone : about1.alone = true := by decide +kernel
set_option maxRecDepth 65536 in
theorem w_named : about1.methodNamed? x = some theMethod := by decide +kernel
set_option maxRecDepth 65536 in
theorem w_hears : about1.hears theMethod below0 = true := by decide +kernel
set_option maxRecDepth 65536 in
theorem w_ripe : about1.ripe theMethod args0 below0 = true := by decide +kernel
theorem w_running : about1.status = .running := rfl
set_option maxRecDepth 65536 in
theorem w_room : about1.hasRoom e0.platform room_1 = true :=
  launch0.hasRoom_least _ room_1 (by decide +kernel) (by decide +kernel) (by decide +kernel) (by decide +kernel) (by decide +kernel) (by decide +kernel)
theorem allAtoms_all (ts : List Jvm.Cond) (a : Array Jvm.Value) (st : Jvm.State) : (allAtoms ts).before a st = ts.all (fun c => c.before a st) := by
  induction ts with
  | nil => rfl
  | cons c t ih =>
    show (Jvm.Cond.and c (allAtoms t)).before a st = _
    rw [Jvm.Cond.before_and, ih, List.all_cons]
def words1 : List Jvm.Cond := Jvm.Cond.code x code maxLocals ret :: tables_1
/-- a 'code' word, met by the world's own term for the bytes: nothing is compared byte by byte -/
theorem code_word {y : MethodName} {bytes : ByteArray} {mx : Nat} {rt : Option FieldType} {a : Array Value} {s : State} {m : MethodId} {meth : Method} {c : Code} (h1 : s.methodNamed? y = some m) (h2 : s.vm.method? m = some meth) (h3 : meth.code = some c) (h4 : c.code = bytes)
    (h5 : (c.maxLocals == mx && c.exceptionTable.isEmpty && decide (c.maxStack ≤ mostOperands) && decide (meth.sig.returnType = rt) && !meth.locks && decide (parseMethodDescriptor y.desc = some meth.sig)) = true) : (Jvm.Cond.code y bytes mx rt).before a s = true := by
  simp only [Bool.and_eq_true, beq_iff_eq, Bool.not_eq_true', decide_eq_true_eq] at h5
  obtain ⟨⟨⟨⟨⟨g1, g2⟩, g3⟩, g4⟩, g5⟩, g6⟩ := h5
  simp [Cond.before, Cond.holds, Cond.value, h1, h2, h3, h4, g1, g2, g3, g4, g5, g6]
def isCode : Jvm.Cond → Bool
  | .code _ _ _ _ => true
  | _ => false
theorem all_split {L : List Jvm.Cond} {P : Jvm.Cond → Bool} (h1 : L.all (fun c => isCode c || P c) = true) (h2 : ∀ c ∈ L.filter isCode, P c = true) : L.all P = true := by
  refine List.all_eq_true.mpr fun c hc => ?_
  have h := List.all_eq_true.mp h1 c hc
  rcases Bool.eq_false_or_eq_true (isCode c) with hi | hi
  · exact h2 c (List.mem_filter.mpr ⟨hc, hi⟩)
  · simpa [hi] using h
set_option maxRecDepth 65536 in
theorem w_c0 : (Jvm.Cond.code x code maxLocals ret).before args0 about1 = true := code_word (m := ⟨1, 1⟩) (meth := k1m1) (c := k1c1) (by decide +kernel) rfl rfl rfl (by decide +kernel)
set_option maxRecDepth 65536 in
theorem w_c1 : (Jvm.Cond.code ({ cls := "com/example/whelk/whelk/io/ApiKeySupportsPinLaw", name := "pick", desc := "(I)Lcom/example/whelk/whelk/io/ApiKey;" } : Jvm.MethodName) method_3_code (1 : Nat) (Option.some (Jvm.ClassFile.FieldType.object "com/example/whelk/whelk/io/ApiKey"))).before args0 about1 = true := code_word (m := ⟨1, 2⟩) (meth := k1m2) (c := k1c2) (by decide +kernel) rfl rfl rfl (by decide +kernel)
set_option maxRecDepth 65536 in
theorem w_c2 : (Jvm.Cond.code ({ cls := "com/example/whelk/whelk/io/ApiKey", name := "supports", desc := "(S)Z" } : Jvm.MethodName) prog_9_method_8_code (2 : Nat) (Option.some Jvm.ClassFile.FieldType.boolean)).before args0 about1 = true := code_word (m := ⟨6, 0⟩) (meth := k6m0) (c := k6c0) (by decide +kernel) rfl rfl rfl (by decide +kernel)
def codes1 : List Jvm.Cond := [Jvm.Cond.code x code maxLocals ret, Jvm.Cond.code ({ cls := "com/example/whelk/whelk/io/ApiKeySupportsPinLaw", name := "pick", desc := "(I)Lcom/example/whelk/whelk/io/ApiKey;" } : Jvm.MethodName) method_3_code (1 : Nat) (Option.some (Jvm.ClassFile.FieldType.object "com/example/whelk/whelk/io/ApiKey")), Jvm.Cond.code ({ cls := "com/example/whelk/whelk/io/ApiKey", name := "supports", desc := "(S)Z" } : Jvm.MethodName) prog_9_method_8_code (2 : Nat) (Option.some Jvm.ClassFile.FieldType.boolean)]
set_option maxRecDepth 65536 in
theorem codes_eq : words1.filter isCode = codes1 := rfl
theorem w_codes : ∀ c ∈ words1.filter isCode, c.before args0 about1 = true := by
  rw [codes_eq]
  intro c hc
  simp only [codes1, List.mem_cons, List.not_mem_nil, or_false] at hc
  rcases hc with rfl | rfl | rfl
  · exact w_c0
  · exact w_c1
  · exact w_c2
set_option maxRecDepth 65536 in
theorem w_t1 : (words1.take 24).all (fun c => isCode c || c.before args0 about1) = true := by decide +kernel
set_option maxRecDepth 65536 in
theorem w_t2 : ((words1.drop 24).take 24).all (fun c => isCode c || c.before args0 about1) = true := by decide +kernel
set_option maxRecDepth 65536 in
theorem w_t3 : ((words1.drop 24).drop 24).all (fun c => isCode c || c.before args0 about1) = true := by decide +kernel
theorem w_tables : (allAtoms (Jvm.Cond.code x code maxLocals ret :: tables_1)).before args0 about1 = true := by
  rw [allAtoms_all]
  show words1.all (fun c => c.before args0 about1) = true
  refine all_split ?_ w_codes
  rw [← List.take_append_drop 24 words1, List.all_append, w_t1, ← List.take_append_drop 24 (words1.drop 24), List.all_append, w_t2, w_t3]
  rfl
set_option maxRecDepth 65536 in
theorem w_case : (Jvm.Cond.and given_1 narrow_1).before args0 about1 = true := by decide +kernel
theorem w_applies : (headSpec (Jvm.Cond.code x code maxLocals ret :: tables_1) room_1).applies x e0.platform about1 = true :=
  (Spec.applies_iff w_frames).mpr ⟨w_running, w_runnable, w_alone, w_named, w_hears, w_ripe, w_room, w_tables⟩
theorem atStart : AtStart classFile x code maxLocals ret World_1 tables_1 room_1 Calls_1 rest_1 Pre_1 launch0 p0 e0 about1 theMethod args0 below0 :=
  ⟨lists_1, trivial, launch0.admits_env _ _ _, launch0.least_env, fairChoices_fair.cas, fairChoices_fair.clock, w_frames, w_args, w_heap, w_applies, trivial, trivial, w_case⟩
end start1
theorem witness_1 : WitnessClaimed_1 := ⟨start1.p0, start1.e0, start1.about1, start1.theMethod, start1.args0, start1.below0, start1.atStart⟩
end Jvm.Pilot.@@N@@
