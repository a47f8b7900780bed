import JvmDerived
import JvmDerived.Pilot.@@N@@Statement
import JvmDerived.Pilot.@@N@@Code
set_option linter.unusedVariables false
set_option linter.unusedSimpArgs false
namespace Jvm.Pilot.@@N@@
open Jvm Jvm.ClassFile Sem Op Lib Jvm.Free Jvm.Stand Jvm.LawKit Jvm.RoadKit Bundle Jvm.Pilot.@@N@@.Jvm.D
section OwnKit
variable {p : Program} {l : Launch} {e : Env} {R : Room} {s : State} {m : MethodId} {args : Array Value} {below : List Frame} {meth : Method} {c : Code} {T : State} {locs : List Loc} {cells slots : Nat} {Z : State} {a0 : Array Value} {h : Heap} {pc : Nat} {Ls : Array Slot} {S : List Value} {Q : Option Value → Heap → List Loc → Prop} {K J : Nat} {Fn : Outcome → State → List Loc → Prop}
/-- from here the body comes to its return, and then Q holds -/
def Go (p : Program) (e : Env) (below : List Frame) (Fn : Outcome → State → List Loc → Prop) (Q : Option Value → Heap → List Loc → Prop) (T : State) (g : JFrame) : Prop :=
  ∃ s₂ o, Steps p.tables e below (T.setTop g) s₂ ∧ s₂.status = .running ∧ Ended s₂ below o ∧ ∃ v L, o = .returned v ∧ Q v s₂.heap L ∧ Fn o s₂ L
theorem Go.st {T' : State} {g g' : JFrame} (st : ∀ t, Steps p.tables e below (T'.setTop g') t → Steps p.tables e below (T.setTop g) t) (k : Go p e below Fn Q T' g') : Go p e below Fn Q T g := by
  obtain ⟨s2, o, h1, h2⟩ := k
  exact ⟨s2, o, st _ h1, h2⟩
theorem own_w {d : Jvm.Cond} (hw : ∀ d ∈ tables_1, d.before a0 Z = true) (i : Nat) (h : tables_1[i]? = some d) : d.before a0 Z = true := hw _ (List.mem_of_getElem? h)
/-- a body's contract, at the heap h0 -/
def OwnMet (l : Launch) (Z : State) (y : MethodName) (bytes : ByteArray) (maxL : Nat) (ret : Option FieldType) (ws : List Jvm.Cond) (rm : Room) (as' : List Value) (h0 : Heap) (Qc : Option Value → Heap → List Loc → Prop) : Prop :=
  MetFree l y (head1 (Jvm.Cond.code y bytes maxL ret :: ws) rm) (fun a U => a = as'.toArray ∧ Z.Warmed39 U.vm ∧ U.heap = h0) (fun _ _ _ _ _ => True) (fun _ U o U' => ∃ v L, o = .returned v ∧ Qc v U'.heap L ∧ FrameEnd U o U' L rm.cells rm.slots)
theorem own_body {y : MethodName} {bytes : ByteArray} {maxL : Nat} {ret : Option FieldType} {ws : List Jvm.Cond} {rm : Room} {as' : List Value} {h0 : Heap} {Qc : Option Value → Heap → List Loc → Prop} {Ls : Array Slot} (hpl : plainFor y = true) (hef : ∀ m, entryFrame m as'.toArray maxL = mkF m 0 Ls [])
    (k : ∀ (p : Program) (e : Env) (s : State) (m : MethodId) (below : List Frame) (meth : Method) (c : Code) (T : State), p.tables.exec = Jvm.exec → c.code = bytes → c.maxLocals = maxL → s.vm.findClass y.cls = some m.cls → meth.name = y.name → meth.sig.returnType = ret → meth.locks = false → Z.Warmed39 s.vm → Stand p l e rm s m as'.toArray below meth c T [] 0 0 → T.heap = h0 → Go p e below (fun o t L => FrameEnd s o t L rm.cells rm.slots) Qc T (mkF m 0 Ls [])) : OwnMet l Z y bytes maxL ret ws rm as' h0 Qc := by
  refine MetFree.of_bodySF hpl hisR ?_
  intro p e s m args below meth c s₁ Bd hml0 hP hK
  obtain ⟨rfl, hZ, hh⟩ := hP
  have e0 : s₁.heap = h0 := by rw [← hh, Bd.state]; rfl
  have g := k p e s m below meth c s₁ Bd.exec Bd.bytes hml0 (findClass_of_methodNamed Bd.named) (name_of_methodNamed Bd.named Bd.method).1 Bd.returns (BodyLoose.notSynchronized Bd) hZ (Stand.of_body Bd) e0
  rw [hef]
  exact g
theorem Go.mono {Q' : Option Value → Heap → List Loc → Prop} {g : JFrame} (k : Go p e below Fn Q' T g) (hq : ∀ v h L, Q' v h L → Q v h L) : Go p e below Fn Q T g := by
  obtain ⟨s2, o, h1, h2, h3, v, L, h4, h5, h6⟩ := k
  exact ⟨s2, o, h1, h2, h3, v, L, h4, hq _ _ _ h5, h6⟩

theorem gn (X : Stand p l e R s m args below meth c T locs cells slots) (hx : p.tables.exec = Jvm.exec) (q : Nat) {k : Fin 4} {v : Int32} (hd : decode c.code pc = .ok (.iload_n k, 1)) (hl : Ls[k.val]? = some (.val (.int v))) (hq : pc + 1 = q) (k : Go p e below Fn Q T (mkF m q Ls (.int v :: S))) : Go p e below Fn Q T (mkF m pc Ls (S)) := by
  subst hq; exact k.st fun _ z => XS.iloadN X.here hx rfl hd hl z
theorem gl (X : Stand p l e R s m args below meth c T locs cells slots) (hx : p.tables.exec = Jvm.exec) (q : Nat) {k : Nat} {v : Int32} (hd : decode c.code pc = .ok (.iload k, 2)) (hl : Ls[k]? = some (.val (.int v))) (hq : pc + 2 = q) (k : Go p e below Fn Q T (mkF m q Ls (.int v :: S))) : Go p e below Fn Q T (mkF m pc Ls (S)) := by
  subst hq; exact k.st fun _ z => XS.iload X.here hx rfl hd hl z
theorem g_istoreN (X : Stand p l e R s m args below meth c T locs cells slots) (hx : p.tables.exec = Jvm.exec) (q : Nat) {k : Fin 4} {v : Int32} (l' : Array Slot) (hd : decode c.code pc = .ok (.istore_n k, 1)) (hl : storeLocals Ls k.val (.int v) = some l') (hq : pc + 1 = q) (k : Go p e below Fn Q T (mkF m q l' (S))) : Go p e below Fn Q T (mkF m pc Ls (.int v :: S)) := by
  subst hq; exact k.st fun _ z => XS.istoreN X.here hx rfl hd rfl hl z
theorem gs (X : Stand p l e R s m args below meth c T locs cells slots) (hx : p.tables.exec = Jvm.exec) (q : Nat) {k : Nat} {v : Int32} (l' : Array Slot) (hd : decode c.code pc = .ok (.istore k, 2)) (hl : storeLocals Ls k (.int v) = some l') (hq : pc + 2 = q) (k : Go p e below Fn Q T (mkF m q l' (S))) : Go p e below Fn Q T (mkF m pc Ls (.int v :: S)) := by
  subst hq; exact k.st fun _ z => XS.istore X.here hx rfl hd rfl hl z
theorem g_lloadN (X : Stand p l e R s m args below meth c T locs cells slots) (hx : p.tables.exec = Jvm.exec) (q : Nat) {k : Fin 4} {v : Int64} (hd : decode c.code pc = .ok (.lload_n k, 1)) (hl : Ls[k.val]? = some (.val (.long v))) (hq : pc + 1 = q) (k : Go p e below Fn Q T (mkF m q Ls (.long v :: S))) : Go p e below Fn Q T (mkF m pc Ls (S)) := by
  subst hq; exact k.st fun _ z => XS.lloadN X.here hx rfl hd hl z
theorem g_lload (X : Stand p l e R s m args below meth c T locs cells slots) (hx : p.tables.exec = Jvm.exec) (q : Nat) {k : Nat} {v : Int64} (hd : decode c.code pc = .ok (.lload k, 2)) (hl : Ls[k]? = some (.val (.long v))) (hq : pc + 2 = q) (k : Go p e below Fn Q T (mkF m q Ls (.long v :: S))) : Go p e below Fn Q T (mkF m pc Ls (S)) := by
  subst hq; exact k.st fun _ z => XS.lload X.here hx rfl hd hl z
theorem g_lstore (X : Stand p l e R s m args below meth c T locs cells slots) (hx : p.tables.exec = Jvm.exec) (q : Nat) {k : Nat} {v : Int64} (l' : Array Slot) (hd : decode c.code pc = .ok (.lstore k, 2)) (hl : storeLocals Ls k (.long v) = some l') (hq : pc + 2 = q) (k : Go p e below Fn Q T (mkF m q l' (S))) : Go p e below Fn Q T (mkF m pc Ls (.long v :: S)) := by
  subst hq; exact k.st fun _ z => XS.lstore X.here hx rfl hd rfl hl z
theorem ga (X : Stand p l e R s m args below meth c T locs cells slots) (hx : p.tables.exec = Jvm.exec) (q : Nat) {k : Fin 4} {v : Value} (hd : decode c.code pc = .ok (.aload_n k, 1)) (hl : Ls[k.val]? = some (.val v)) (hv : v.isRef = true) (hq : pc + 1 = q) (k : Go p e below Fn Q T (mkF m q Ls (v :: S))) : Go p e below Fn Q T (mkF m pc Ls (S)) := by
  subst hq; exact k.st fun _ z => XS.aloadN X.here hx rfl hd hl hv z
theorem gA (X : Stand p l e R s m args below meth c T locs cells slots) (hx : p.tables.exec = Jvm.exec) (q : Nat) {k : Nat} {v : Value} (hd : decode c.code pc = .ok (.aload k, 2)) (hl : Ls[k]? = some (.val v)) (hv : v.isRef = true) (hq : pc + 2 = q) (k : Go p e below Fn Q T (mkF m q Ls (v :: S))) : Go p e below Fn Q T (mkF m pc Ls (S)) := by
  subst hq; exact k.st fun _ z => XS.aload X.here hx rfl hd hl hv z
theorem g_astoreN (X : Stand p l e R s m args below meth c T locs cells slots) (hx : p.tables.exec = Jvm.exec) (q : Nat) {k : Fin 4} {v : Value} (l' : Array Slot) (hd : decode c.code pc = .ok (.astore_n k, 1)) (hv : v.isRef = true) (hl : storeLocals Ls k.val v = some l') (hq : pc + 1 = q) (k : Go p e below Fn Q T (mkF m q l' (S))) : Go p e below Fn Q T (mkF m pc Ls (v :: S)) := by
  subst hq; exact k.st fun _ z => XS.astoreN X.here hx rfl hd rfl hv hl z
theorem g_astore (X : Stand p l e R s m args below meth c T locs cells slots) (hx : p.tables.exec = Jvm.exec) (q : Nat) {k : Nat} {v : Value} (l' : Array Slot) (hd : decode c.code pc = .ok (.astore k, 2)) (hv : v.isRef = true) (hl : storeLocals Ls k v = some l') (hq : pc + 2 = q) (k : Go p e below Fn Q T (mkF m q l' (S))) : Go p e below Fn Q T (mkF m pc Ls (v :: S)) := by
  subst hq; exact k.st fun _ z => XS.astore X.here hx rfl hd rfl hv hl z
theorem gk (X : Stand p l e R s m args below meth c T locs cells slots) (hx : p.tables.exec = Jvm.exec) (q : Nat) {i : Int} (v : Int32) (hd : decode c.code pc = .ok (.iconst i, 1)) (hv : Int32.ofInt i = v) (hq : pc + 1 = q) (k : Go p e below Fn Q T (mkF m q Ls (.int v :: S))) : Go p e below Fn Q T (mkF m pc Ls (S)) := by
  subst hq; exact k.st fun _ z => XS.iconst X.here hx rfl hd (hv ▸ z)
theorem gb (X : Stand p l e R s m args below meth c T locs cells slots) (hx : p.tables.exec = Jvm.exec) (q : Nat) {i : Int} (v : Int32) (hd : decode c.code pc = .ok (.bipush i, 2)) (hv : (Int8.ofInt i).toInt32 = v) (hq : pc + 2 = q) (k : Go p e below Fn Q T (mkF m q Ls (.int v :: S))) : Go p e below Fn Q T (mkF m pc Ls (S)) := by
  subst hq; exact k.st fun _ z => XS.bipush X.here hx rfl hd (hv ▸ z)
theorem g_sipush (X : Stand p l e R s m args below meth c T locs cells slots) (hx : p.tables.exec = Jvm.exec) (q : Nat) {i : Int} (v : Int32) (hd : decode c.code pc = .ok (.sipush i, 3)) (hv : (Int16.ofInt i).toInt32 = v) (hq : pc + 3 = q) (k : Go p e below Fn Q T (mkF m q Ls (.int v :: S))) : Go p e below Fn Q T (mkF m pc Ls (S)) := by
  subst hq; exact k.st fun _ z => XS.sipush X.here hx rfl hd (hv ▸ z)
theorem g_lconst (X : Stand p l e R s m args below meth c T locs cells slots) (hx : p.tables.exec = Jvm.exec) (q : Nat) {k : Fin 2} (v : Int64) (hd : decode c.code pc = .ok (.lconst k, 1)) (hv : Int64.ofNat k = v) (hq : pc + 1 = q) (k : Go p e below Fn Q T (mkF m q Ls (.long v :: S))) : Go p e below Fn Q T (mkF m pc Ls (S)) := by
  subst hq; exact k.st fun _ z => XS.lconst X.here hx rfl hd (hv ▸ z)
theorem g_aconst_null (X : Stand p l e R s m args below meth c T locs cells slots) (hx : p.tables.exec = Jvm.exec) (q : Nat)  (hd : decode c.code pc = .ok (.aconst_null, 1))  (hq : pc + 1 = q) (k : Go p e below Fn Q T (mkF m q Ls (.null :: S))) : Go p e below Fn Q T (mkF m pc Ls (S)) := by
  subst hq; exact k.st fun _ z => XS.aconstNull X.here hx rfl hd z
theorem gp (X : Stand p l e R s m args below meth c T locs cells slots) (hx : p.tables.exec = Jvm.exec) (q : Nat) {x y : Int32} (w : Int32) (hd : decode c.code pc = .ok (.iadd, 1)) (hv : x + y = w) (hq : pc + 1 = q) (k : Go p e below Fn Q T (mkF m q Ls (.int w :: S))) : Go p e below Fn Q T (mkF m pc Ls (.int y :: .int x :: S)) := by
  subst hq; exact k.st fun _ z => XS.iadd X.here hx rfl hd rfl (hv ▸ z)
theorem gm (X : Stand p l e R s m args below meth c T locs cells slots) (hx : p.tables.exec = Jvm.exec) (q : Nat) {x y : Int32} (w : Int32) (hd : decode c.code pc = .ok (.isub, 1)) (hv : x - y = w) (hq : pc + 1 = q) (k : Go p e below Fn Q T (mkF m q Ls (.int w :: S))) : Go p e below Fn Q T (mkF m pc Ls (.int y :: .int x :: S)) := by
  subst hq; exact k.st fun _ z => XS.isub X.here hx rfl hd rfl (hv ▸ z)
theorem g_iand (X : Stand p l e R s m args below meth c T locs cells slots) (hx : p.tables.exec = Jvm.exec) (q : Nat) {x y : Int32} (w : Int32) (hd : decode c.code pc = .ok (.iand, 1)) (hv : x &&& y = w) (hq : pc + 1 = q) (k : Go p e below Fn Q T (mkF m q Ls (.int w :: S))) : Go p e below Fn Q T (mkF m pc Ls (.int y :: .int x :: S)) := by
  subst hq; exact k.st fun _ z => XS.iand X.here hx rfl hd rfl (hv ▸ z)
theorem g_ior (X : Stand p l e R s m args below meth c T locs cells slots) (hx : p.tables.exec = Jvm.exec) (q : Nat) {x y : Int32} (w : Int32) (hd : decode c.code pc = .ok (.ior, 1)) (hv : x ||| y = w) (hq : pc + 1 = q) (k : Go p e below Fn Q T (mkF m q Ls (.int w :: S))) : Go p e below Fn Q T (mkF m pc Ls (.int y :: .int x :: S)) := by
  subst hq; exact k.st fun _ z => XS.ior X.here hx rfl hd rfl (hv ▸ z)
theorem g_ishr (X : Stand p l e R s m args below meth c T locs cells slots) (hx : p.tables.exec = Jvm.exec) (q : Nat) {x y : Int32} (w : Int32) (hd : decode c.code pc = .ok (.ishr, 1)) (hv : x >>> (y &&& 31) = w) (hq : pc + 1 = q) (k : Go p e below Fn Q T (mkF m q Ls (.int w :: S))) : Go p e below Fn Q T (mkF m pc Ls (.int y :: .int x :: S)) := by
  subst hq; exact k.st fun _ z => XS.ishr X.here hx rfl hd rfl (hv ▸ z)
theorem g_iushr (X : Stand p l e R s m args below meth c T locs cells slots) (hx : p.tables.exec = Jvm.exec) (q : Nat) {x y : Int32} (w : Int32) (hd : decode c.code pc = .ok (.iushr, 1)) (hv : (x.toUInt32 >>> (y &&& 31).toUInt32).toInt32 = w) (hq : pc + 1 = q) (k : Go p e below Fn Q T (mkF m q Ls (.int w :: S))) : Go p e below Fn Q T (mkF m pc Ls (.int y :: .int x :: S)) := by
  subst hq; exact k.st fun _ z => XS.iushr X.here hx rfl hd rfl (hv ▸ z)
theorem g_ladd (X : Stand p l e R s m args below meth c T locs cells slots) (hx : p.tables.exec = Jvm.exec) (q : Nat) {x y : Int64} (w : Int64) (hd : decode c.code pc = .ok (.ladd, 1)) (hv : x + y = w) (hq : pc + 1 = q) (k : Go p e below Fn Q T (mkF m q Ls (.long w :: S))) : Go p e below Fn Q T (mkF m pc Ls (.long y :: .long x :: S)) := by
  subst hq; exact k.st fun _ z => XS.ladd X.here hx rfl hd rfl (hv ▸ z)
theorem g_lsub (X : Stand p l e R s m args below meth c T locs cells slots) (hx : p.tables.exec = Jvm.exec) (q : Nat) {x y : Int64} (w : Int64) (hd : decode c.code pc = .ok (.lsub, 1)) (hv : x - y = w) (hq : pc + 1 = q) (k : Go p e below Fn Q T (mkF m q Ls (.long w :: S))) : Go p e below Fn Q T (mkF m pc Ls (.long y :: .long x :: S)) := by
  subst hq; exact k.st fun _ z => XS.lsub X.here hx rfl hd rfl (hv ▸ z)
theorem gC (X : Stand p l e R s m args below meth c T locs cells slots) (hx : p.tables.exec = Jvm.exec) (q : Nat) {x y : Int64} (hd : decode c.code pc = .ok (.lcmp, 1))  (hq : pc + 1 = q) (k : Go p e below Fn Q T (mkF m q Ls (.int (lcmpW x y) :: S))) : Go p e below Fn Q T (mkF m pc Ls (.long y :: .long x :: S)) := by
  subst hq; exact k.st fun _ z => XS.lcmp X.here hx rfl hd rfl z
theorem g_irem (X : Stand p l e R s m args below meth c T locs cells slots) (hx : p.tables.exec = Jvm.exec) (q : Nat) {x y : Int32} (w : Int32) (hd : decode c.code pc = .ok (.irem, 1)) (hy : y ≠ 0) (hv : x % y = w) (hq : pc + 1 = q) (k : Go p e below Fn Q T (mkF m q Ls (.int w :: S))) : Go p e below Fn Q T (mkF m pc Ls (.int y :: .int x :: S)) := by
  subst hq; exact k.st fun _ z => iremM X hx rfl hd rfl hy (hv ▸ z)
theorem gL (X : Stand p l e R s m args below meth c T locs cells slots) (hx : p.tables.exec = Jvm.exec) (q : Nat) {x : Int32} (w : Int64) (hd : decode c.code pc = .ok (.i2l, 1)) (hv : x.toInt64 = w) (hq : pc + 1 = q) (k : Go p e below Fn Q T (mkF m q Ls (.long w :: S))) : Go p e below Fn Q T (mkF m pc Ls (.int x :: S)) := by
  subst hq; exact k.st fun _ z => XS.i2l X.here hx rfl hd rfl (hv ▸ z)
theorem g_i2c (X : Stand p l e R s m args below meth c T locs cells slots) (hx : p.tables.exec = Jvm.exec) (q : Nat) {x : Int32} (w : Int32) (hd : decode c.code pc = .ok (.i2c, 1)) (hv : x.toUInt32.toUInt16.toUInt32.toInt32 = w) (hq : pc + 1 = q) (k : Go p e below Fn Q T (mkF m q Ls (.int w :: S))) : Go p e below Fn Q T (mkF m pc Ls (.int x :: S)) := by
  subst hq; exact k.st fun _ z => XS.i2c X.here hx rfl hd rfl (hv ▸ z)
theorem g_i2b (X : Stand p l e R s m args below meth c T locs cells slots) (hx : p.tables.exec = Jvm.exec) (q : Nat) {x : Int32} (w : Int32) (hd : decode c.code pc = .ok (.i2b, 1)) (hv : x.toInt8.toInt32 = w) (hq : pc + 1 = q) (k : Go p e below Fn Q T (mkF m q Ls (.int w :: S))) : Go p e below Fn Q T (mkF m pc Ls (.int x :: S)) := by
  subst hq; exact k.st fun _ z => XS.i2b X.here hx rfl hd rfl (hv ▸ z)
theorem g_dup (X : Stand p l e R s m args below meth c T locs cells slots) (hx : p.tables.exec = Jvm.exec) (q : Nat) {v : Value} (hd : decode c.code pc = .ok (.dup, 1)) (hc : v.category = 1) (hq : pc + 1 = q) (k : Go p e below Fn Q T (mkF m q Ls (v :: v :: S))) : Go p e below Fn Q T (mkF m pc Ls (v :: S)) := by
  subst hq; exact k.st fun _ z => XS.dup X.here hx rfl hd rfl hc z
theorem g_pop (X : Stand p l e R s m args below meth c T locs cells slots) (hx : p.tables.exec = Jvm.exec) (q : Nat) {v : Value} (hd : decode c.code pc = .ok (.pop, 1)) (hc : v.category = 1) (hq : pc + 1 = q) (k : Go p e below Fn Q T (mkF m q Ls (S))) : Go p e below Fn Q T (mkF m pc Ls (v :: S)) := by
  subst hq; exact k.st fun _ z => XS.pop X.here hx rfl hd rfl hc z
theorem gi (X : Stand p l e R s m args below meth c T locs cells slots) (hx : p.tables.exec = Jvm.exec) (q : Nat) {k : Nat} {cst : Int} {x : Int32} (w : Int32) (l' : Array Slot) (hd : decode c.code pc = .ok (.iinc k cst, 3)) (hl : Ls[k]? = some (.val (.int x))) (hv : x + Int32.ofInt cst = w) (hl' : storeLocals Ls k (.int w) = some l') (hq : pc + 3 = q) (k : Go p e below Fn Q T (mkF m q l' (S))) : Go p e below Fn Q T (mkF m pc Ls (S)) := by
  subst hq; exact k.st fun _ z => XS.iinc X.here hx rfl hd hl (hv ▸ hl') z
theorem g_ldcI (X : Stand p l e R s m args below meth c T locs cells slots) (hx : p.tables.exec = Jvm.exec) (q : Nat) (hZ : Z.Warmed39 s.vm) {own : String} {index : Nat} {v : Int32} (hown : s.vm.findClass own = some m.cls) (w1 : (Jvm.Cond.constant own index v).before a0 Z = true) (hd : decode c.code pc = .ok (.ldc index, 2))  (hq : pc + 2 = q) (k : Go p e below Fn Q T (mkF m q Ls (.int v :: S))) : Go p e below Fn Q T (mkF m pc Ls (S)) := by
  subst hq; exact k.st fun _ z => X.ldcInt hx hown (mvT hZ w1) (g := mkF m pc Ls S) rfl hd _ z
theorem g_goto (X : Stand p l e R s m args below meth c T locs cells slots) (hx : p.tables.exec = Jvm.exec) (q : Nat)  {o : Int} (hd : decode c.code pc = .ok (.goto o, 3))  (ho : 0 ≤ (pc : Int) + o) (hp : ((pc : Int) + o).toNat = q) (k : Go p e below Fn Q T (mkF m q Ls S)) : Go p e below Fn Q T (mkF m pc Ls (S)) := k.st fun _ z => XS.goto X.here hx rfl rfl hd ho hp z
theorem g_ifT (X : Stand p l e R s m args below meth c T locs cells slots) (hx : p.tables.exec = Jvm.exec) (q : Nat) {cd : ClassFile.Cond} {x : Int32} {o : Int} (hd : decode c.code pc = .ok (.ifCond cd o, 3)) (hc : ifCond.holds cd x = true) (ho : 0 ≤ (pc : Int) + o) (hp : ((pc : Int) + o).toNat = q) (k : Go p e below Fn Q T (mkF m q Ls S)) : Go p e below Fn Q T (mkF m pc Ls (.int x :: S)) := k.st fun _ z => XS.ifYes X.here hx rfl rfl hd rfl hc ho hp z
theorem gf (X : Stand p l e R s m args below meth c T locs cells slots) (hx : p.tables.exec = Jvm.exec) (q : Nat) {cd : ClassFile.Cond} {x : Int32} {o : Int} (hd : decode c.code pc = .ok (.ifCond cd o, 3)) (hc : ifCond.holds cd x = false) (hq : pc + 3 = q) (k : Go p e below Fn Q T (mkF m q Ls S)) : Go p e below Fn Q T (mkF m pc Ls (.int x :: S)) := by
  subst hq; exact k.st fun _ z => XS.ifNo X.here hx rfl hd rfl hc z
theorem g_icT (X : Stand p l e R s m args below meth c T locs cells slots) (hx : p.tables.exec = Jvm.exec) (q : Nat) {cd : ClassFile.Cond} {x y : Int32} {o : Int} (hd : decode c.code pc = .ok (.if_icmp cd o, 3)) (hc : if_icmp.holds cd x y = true) (ho : 0 ≤ (pc : Int) + o) (hp : ((pc : Int) + o).toNat = q) (k : Go p e below Fn Q T (mkF m q Ls S)) : Go p e below Fn Q T (mkF m pc Ls (.int y :: .int x :: S)) := k.st fun _ z => XS.icmpYes X.here hx rfl rfl hd rfl hc ho hp z
theorem gF (X : Stand p l e R s m args below meth c T locs cells slots) (hx : p.tables.exec = Jvm.exec) (q : Nat) {cd : ClassFile.Cond} {x y : Int32} {o : Int} (hd : decode c.code pc = .ok (.if_icmp cd o, 3)) (hc : if_icmp.holds cd x y = false) (hq : pc + 3 = q) (k : Go p e below Fn Q T (mkF m q Ls S)) : Go p e below Fn Q T (mkF m pc Ls (.int y :: .int x :: S)) := by
  subst hq; exact k.st fun _ z => XS.icmpNo X.here hx rfl hd rfl hc z
theorem own_eqL {x y : Int64} (h : x = y) : ifCond.holds .eq (lcmpW x y) = true ∧ ifCond.holds .ne (lcmpW x y) = false := by
  have h1 := (lw_eq x y).mpr h
  exact ⟨(if0 _ _).trans (teq h1).1, (if0 _ _).trans (teq h1).2⟩
theorem g_ret (X : Stand p l e R s m args below meth c T locs cells slots) (hx : p.tables.exec = Jvm.exec) {t : FieldType} {i : Instr} {w : Value} (hret : meth.sig.returnType = some t) (hlk : meth.locks = false) (hn : narrow t w = w) (hi : (i = .ireturn ∧ (t = .int ∨ t = .boolean ∨ t = .byte ∨ t = .char ∨ t = .short) ∧ ∃ z, w = .int z) ∨ (i = .lreturn ∧ t = .long ∧ ∃ z, w = .long z) ∨ (i = .dreturn ∧ t = .double ∧ ∃ z, w = .double z) ∨ (i = .freturn ∧ t = .float ∧ ∃ z, w = .float z) ∨ (i = .areturn ∧ t.isReference = true ∧ w.isRef = true)) (hd : decode c.code pc = .ok (i, 1)) (hc : cells ≤ K) (hs : slots ≤ J) (hq : Q (some w) T.heap locs) : Go p e below (fun o t L => FrameEnd s o t L K J) Q T (mkF m pc Ls (w :: S)) := by
  obtain ⟨fs, hr, hrun, hended, hW, hsame⟩ := X.leave (v := some w) (fun h => by rw [hret] at h; cases h) hlk
  exact ⟨_, _, retOut X hx hret hn hi hd hr, hrun, hended, _, _, rfl, hq, ⟨_, rfl⟩, hW, hsame.mono hc hs⟩
theorem g_retI (X : Stand p l e R s m args below meth c T locs cells slots) (hx : p.tables.exec = Jvm.exec) {z : Int32} (hret : meth.sig.returnType = some .int) (hlk : meth.locks = false) (hd : decode c.code pc = .ok (.ireturn, 1)) (hc : cells ≤ K) (hs : slots ≤ J) (hq : Q (some (.int z)) T.heap locs) : Go p e below (fun o t L => FrameEnd s o t L K J) Q T (mkF m pc Ls (.int z :: S)) := g_ret X hx hret hlk rfl (Or.inl ⟨rfl, Or.inl rfl, _, rfl⟩) hd hc hs hq
theorem g_retZ (X : Stand p l e R s m args below meth c T locs cells slots) (hx : p.tables.exec = Jvm.exec) {z : Int32} (hret : meth.sig.returnType = some .boolean) (hlk : meth.locks = false) (hn : narrow .boolean (.int z) = .int z) (hd : decode c.code pc = .ok (.ireturn, 1)) (hc : cells ≤ K) (hs : slots ≤ J) (hq : Q (some (.int z)) T.heap locs) : Go p e below (fun o t L => FrameEnd s o t L K J) Q T (mkF m pc Ls (.int z :: S)) := g_ret X hx hret hlk hn (Or.inl ⟨rfl, Or.inr (Or.inl rfl), _, rfl⟩) hd hc hs hq
theorem g_retC (X : Stand p l e R s m args below meth c T locs cells slots) (hx : p.tables.exec = Jvm.exec) {z : Int32} (hret : meth.sig.returnType = some .char) (hlk : meth.locks = false) (hn : narrow .char (.int z) = .int z) (hd : decode c.code pc = .ok (.ireturn, 1)) (hc : cells ≤ K) (hs : slots ≤ J) (hq : Q (some (.int z)) T.heap locs) : Go p e below (fun o t L => FrameEnd s o t L K J) Q T (mkF m pc Ls (.int z :: S)) := g_ret X hx hret hlk hn (Or.inl ⟨rfl, Or.inr (Or.inr (Or.inr (Or.inl rfl))), _, rfl⟩) hd hc hs hq
theorem g_retB (X : Stand p l e R s m args below meth c T locs cells slots) (hx : p.tables.exec = Jvm.exec) {z : Int32} (hret : meth.sig.returnType = some .byte) (hlk : meth.locks = false) (hn : narrow .byte (.int z) = .int z) (hd : decode c.code pc = .ok (.ireturn, 1)) (hc : cells ≤ K) (hs : slots ≤ J) (hq : Q (some (.int z)) T.heap locs) : Go p e below (fun o t L => FrameEnd s o t L K J) Q T (mkF m pc Ls (.int z :: S)) := g_ret X hx hret hlk hn (Or.inl ⟨rfl, Or.inr (Or.inr (Or.inl rfl)), _, rfl⟩) hd hc hs hq
theorem g_retJ (X : Stand p l e R s m args below meth c T locs cells slots) (hx : p.tables.exec = Jvm.exec) {z : Int64} (hret : meth.sig.returnType = some .long) (hlk : meth.locks = false) (hd : decode c.code pc = .ok (.lreturn, 1)) (hc : cells ≤ K) (hs : slots ≤ J) (hq : Q (some (.long z)) T.heap locs) : Go p e below (fun o t L => FrameEnd s o t L K J) Q T (mkF m pc Ls (.long z :: S)) := g_ret X hx hret hlk rfl (Or.inr (Or.inl ⟨rfl, rfl, _, rfl⟩)) hd hc hs hq
theorem g_retA (X : Stand p l e R s m args below meth c T locs cells slots) (hx : p.tables.exec = Jvm.exec) {t : FieldType} {w : Value} (hret : meth.sig.returnType = some t) (hlk : meth.locks = false) (hr : t.isReference = true) (hw : w.isRef = true) (hn : narrow t w = w) (hd : decode c.code pc = .ok (.areturn, 1)) (hc : cells ≤ K) (hs : slots ≤ J) (hq : Q (some w) T.heap locs) : Go p e below (fun o t L => FrameEnd s o t L K J) Q T (mkF m pc Ls (w :: S)) := g_ret X hx hret hlk hn (Or.inr (Or.inr (Or.inr (Or.inr ⟨rfl, hr, hw⟩)))) hd hc hs hq
theorem g_retV (X : Stand p l e R s m args below meth c T locs cells slots) (hx : p.tables.exec = Jvm.exec) (hret : meth.sig.returnType = none) (hlk : meth.locks = false) (hd : decode c.code pc = .ok (.return_, 1)) (hc : cells ≤ K) (hs : slots ≤ J) (hq : Q none T.heap locs) : Go p e below (fun o t L => FrameEnd s o t L K J) Q T (mkF m pc Ls []) := by
  obtain ⟨fs, hr, hrun, hended, hW, hsame⟩ := X.leave (v := none) (fun _ => rfl) hlk
  exact ⟨_, _, X.returnOut hx hret hd hr, hrun, hended, _, _, rfl, hq, ⟨_, rfl⟩, hW, hsame.mono hc hs⟩
theorem gG (X : Stand p l e R s m args below meth c T locs cells slots) (hx : p.tables.exec = Jvm.exec) (q : Nat) (hZ : Z.Warmed39 s.vm) {own R0 O n d host : String} {index : Nat} (hown : s.vm.findClass own = some m.cls) (w1 : (Jvm.Cond.fieldLink own index R0 n d).before a0 Z = true ∨ (Jvm.Cond.fieldLinkNest own index R0 n d host).before a0 Z = true) (via : Via Z R0 O n d) (eT : T.heap = h) {a : Addr} {v : Value} (F : Fld Z h a O n d v) (hd : decode c.code pc = .ok (.getfield index, 3)) (hq : pc + 3 = q)
    (k : ∀ T', Stand p l e R s m args below meth c T' locs cells slots → T'.heap = h → Go p e below Fn Q T' (mkF m q Ls (v :: S))) : Go p e below Fn Q T (mkF m pc Ls (.ref a :: S)) := by
  obtain ⟨T', X', e', st⟩ := getF X hx hZ hown w1 via eT F (g := mkF m pc Ls (.ref a :: S)) rfl rfl hd
  subst hq; exact (k T' X' e').st st
theorem gP (X : Stand p l e R s m args below meth c T locs cells slots) (hx : p.tables.exec = Jvm.exec) (q : Nat) (hZ : Z.Warmed39 s.vm) {own R0 O n d host C : String} {index kk : Nat} {ty : FieldType} (hown : s.vm.findClass own = some m.cls) (w1 : (Jvm.Cond.fieldLink own index R0 n d).before a0 Z = true ∨ (Jvm.Cond.fieldLinkNest own index R0 n d host).before a0 Z = true) (via : Via Z R0 O n d) (eT : T.heap = h) {a : Addr} {v old : Value} (F : Fld Z h a O n d old) (E : Exa Z h a C)
    (L : (Jvm.Cond.lays C O n d).before a0 Z = true ∨ ((Jvm.Cond.laysFinal C O n d).before a0 Z = true ∧ own = O ∧ meth.name = "<init>")) (wi : (Jvm.Cond.instantiable C kk).before a0 Z = true) (hty : parseFieldDescriptor d = some ty) (hn : narrow ty v = v) (hf : fits ty v = true) (hd : decode c.code pc = .ok (.putfield index, 3)) (hq : pc + 3 = q)
    (k : ∀ T' h', Stand p l e R s m args below meth c T' (locs ++ [⟨a, Jvm.RoadKit.slotOf Z O n d⟩]) cells slots → T'.heap = h' → Wr h h' a (Jvm.RoadKit.slotOf Z O n d) v → Go p e below Fn Q T' (mkF m q Ls S)) : Go p e below Fn Q T (mkF m pc Ls (v :: .ref a :: S)) := by
  obtain ⟨T', h', X', e', W', st⟩ := putF X hx hZ hown w1 via eT F E L wi hty hn hf (g := mkF m pc Ls (v :: .ref a :: S)) rfl rfl hd
  subst hq; exact (k T' h' X' e' W').st st
theorem g_getS (X : Stand p l e R s m args below meth c T locs cells slots) (hx : p.tables.exec = Jvm.exec) (q : Nat) (hZ : Z.Warmed39 s.vm) {own R0 O n d host : String} {index : Nat} (hown : s.vm.findClass own = some m.cls) (w1 : (Jvm.Cond.fieldLink own index R0 n d).before a0 Z = true ∨ (Jvm.Cond.fieldLinkNest own index R0 n d host).before a0 Z = true) (via : Via Z R0 O n d) (eT : T.heap = h) {v : Value} (F : Sta Z h O n d v) (hd : decode c.code pc = .ok (.getstatic index, 3)) (hq : pc + 3 = q)
    (k : ∀ T', Stand p l e R s m args below meth c T' locs cells slots → T'.heap = h → Go p e below Fn Q T' (mkF m q Ls (v :: S))) : Go p e below Fn Q T (mkF m pc Ls S) := by
  obtain ⟨T', X', e', st⟩ := getS2 X hx hZ hown w1 via eT F (g := mkF m pc Ls S) rfl hd
  subst hq; exact (k T' X' e').st st
theorem g_new (X : Stand p l e R s m args below meth c T locs cells slots) (hx : p.tables.exec = Jvm.exec) (q : Nat) (hZ : Z.Warmed39 s.vm) {own C : String} {index n : Nat} (hown : s.vm.findClass own = some m.cls) (w1 : (Jvm.Cond.classLink own index C).before a0 Z = true) (wi : (Jvm.Cond.instantiable C n).before a0 Z = true) (wz : (Jvm.Cond.initialized C).before a0 Z = true) (eT : T.heap = h) (hd : decode c.code pc = .ok (.new index, 3)) (hc : cells + 1 ≤ R.cells) (hl : slots + n ≤ R.slots) (hq : pc + 3 = q)
    (k : ∀ T' h' b, b = h.size → Stand p l e R s m args below meth c T' locs (cells + 1) (slots + n) → T'.heap = h' → Ext h h' → Exa Z h' b C → (∀ {O nm d : String} {ty : FieldType}, Laid Z a0 C O nm d → parseFieldDescriptor d = some ty → Fld Z h' b O nm d (defaultValue ty)) → Go p e below Fn Q T' (mkF m q Ls (.ref b :: S))) : Go p e below Fn Q T (mkF m pc Ls S) := by
  obtain ⟨T', h', X', e', E', A', D', -, st⟩ := newO X hx hZ hown w1 wi wz eT (g := mkF m pc Ls S) rfl hd hc hl
  subst hq; exact (k T' h' _ rfl X' e' E' A' D').st st
theorem g_initO (X : Stand p l e R s m args below meth c T locs cells slots) (hx : p.tables.exec = Jvm.exec) (q : Nat) (hZ : Z.Warmed39 s.vm) {own : String} {index : Nat} (hown : s.vm.findClass own = some m.cls) (w1 : (Jvm.Cond.methodLink own index Lib.objectInit).before a0 Z = true) (w2 : (Jvm.Cond.instanceMethod Lib.objectInit).before a0 Z = true) (w3 : (Jvm.Cond.code Lib.objectInit ⟨#[0xb1]⟩ 1 none).before a0 Z = true) (eT : T.heap = h) (hml : Ls.size = c.maxLocals) {a : Addr} (hd : decode c.code pc = .ok (.invokespecial index, 3)) (hf : 1 ≤ R.frames) (W : Nat) (hW : (S.map fun v => v.category).sum ≤ W) (hl : W + 12 ≤ R.locals) (hq : pc + 3 = q)
    (k : ∀ T', Stand p l e R s m args below meth c T' locs cells slots → T'.heap = h → Go p e below Fn Q T' (mkF m q Ls S)) : Go p e below Fn Q T (mkF m pc Ls (.ref a :: S)) := by
  obtain ⟨T', X', e', st⟩ := initO X hx hZ hown w1 w2 w3 eT (g := mkF m pc Ls (.ref a :: S)) rfl hml rfl hd hf (W := W) (by show 2 * 0 + _ ≤ _; omega) hl
  subst hq; exact (k T' X' e').st st
theorem g_newP (X : Stand p l e R s m args below meth c T locs cells slots) (hx : p.tables.exec = Jvm.exec) (q : Nat) (hZ : Z.Warmed39 s.vm) {aty : ArrayType} (w1 : (Jvm.Cond.arrayClass (newarray.typeOf aty)).before a0 Z = true) (eT : T.heap = h) {n : Int32} (hd : decode c.code pc = .ok (.newarray aty, 2)) (hn : ¬ n < 0) (cap : Nat) (hcap : n.toNatClampNeg ≤ cap) (hb : cap * 8 ≤ 536870912) (hc : cells + 1 ≤ R.cells) (hl : slots + cap ≤ R.slots) (hq : pc + 2 = q)
    (k : ∀ T' h' b kA, b = h.size → Stand p l e R s m args below meth c T' locs (cells + 1) (slots + cap) → T'.heap = h' → Ext h h' → Arv Z h' b kA (newarray.typeOf aty) n [] (defaultValue (newarray.typeOf aty)) → Go p e below Fn Q T' (mkF m q Ls (.ref b :: S))) : Go p e below Fn Q T (mkF m pc Ls (.int n :: S)) := by
  obtain ⟨T', h', cA, X', e', E', A', st⟩ := newP X hx hZ w1 eT (g := mkF m pc Ls (.int n :: S)) rfl hd rfl hn hcap hb hc hl
  subst hq; exact (k T' h' _ cA rfl X' e' E' (Arv.new A' hn)).st st
theorem g_caload (X : Stand p l e R s m args below meth c T locs cells slots) (hx : p.tables.exec = Jvm.exec) (q : Nat) (hZ : Z.Warmed39 s.vm) (eT : T.heap = h) {a : Addr} {kA : ClassId} {n j : Int32} {vs : List Value} {dv v : Value} (V : Arv Z h a kA .char n vs dv) (hj : ¬ j < 0 ∧ j < n) (hv : vs.getD j.toNatClampNeg dv = v) (hd : decode c.code pc = .ok (.caload, 1)) (hq : pc + 1 = q) (k : Go p e below Fn Q T (mkF m q Ls (v :: S))) : Go p e below Fn Q T (mkF m pc Ls (.int j :: .ref a :: S)) := by
  obtain ⟨cl, A, -, S', -, H', -⟩ := V
  subst hq
  exact k.st fun _ z => X.caload hx (by rw [eT]; exact A.1) (State.isArrayOf_alike hZ.alike A.2.1) A.2.2 (inb_of S' hj) (H'.at (inb_of S' hj) hv) (g := mkF m pc Ls (.int j :: .ref a :: S)) rfl rfl hd _ z
theorem g_baload (X : Stand p l e R s m args below meth c T locs cells slots) (hx : p.tables.exec = Jvm.exec) (q : Nat) (hZ : Z.Warmed39 s.vm) (eT : T.heap = h) {a : Addr} {kA : ClassId} {n j : Int32} {vs : List Value} {dv v : Value} (V : Arv Z h a kA .byte n vs dv) (hj : ¬ j < 0 ∧ j < n) (hv : vs.getD j.toNatClampNeg dv = v) (hd : decode c.code pc = .ok (.baload, 1)) (hq : pc + 1 = q) (k : Go p e below Fn Q T (mkF m q Ls (v :: S))) : Go p e below Fn Q T (mkF m pc Ls (.int j :: .ref a :: S)) := by
  obtain ⟨cl, A, -, S', -, H', -⟩ := V
  subst hq
  exact k.st fun _ z => X.baloadBytes hx (by rw [eT]; exact A.1) (State.isArrayOf_alike hZ.alike A.2.1) A.2.2 (inb_of S' hj) (H'.at (inb_of S' hj) hv) (g := mkF m pc Ls (.int j :: .ref a :: S)) rfl rfl hd _ z
theorem g_arraylength (X : Stand p l e R s m args below meth c T locs cells slots) (hx : p.tables.exec = Jvm.exec) (q : Nat) (hZ : Z.Warmed39 s.vm) (eT : T.heap = h) {a : Addr} {kA : ClassId} {ty : FieldType} {n : Int32} {vs : List Value} {dv : Value} (V : Arv Z h a kA ty n vs dv) (hd : decode c.code pc = .ok (.arraylength, 1)) (hq : pc + 1 = q) (k : Go p e below Fn Q T (mkF m q Ls (.int n :: S))) : Go p e below Fn Q T (mkF m pc Ls (.ref a :: S)) := by
  obtain ⟨cl, A, -, S', N', -, -⟩ := V
  subst hq
  exact k.st fun _ z => X.arraylength hx (by rw [eT]; exact A.1) (State.isArrayOf_alike hZ.alike A.2.1) (g := mkF m pc Ls (.ref a :: S)) rfl rfl hd _ (by rw [len_of S' N']; exact z)
theorem g_castore (X : Stand p l e R s m args below meth c T locs cells slots) (hx : p.tables.exec = Jvm.exec) (q : Nat) (hZ : Z.Warmed39 s.vm) (eT : T.heap = h) {a : Addr} {kA : ClassId} {n j x : Int32} {vs : List Value} {dv : Value} (V : Arv Z h a kA .char n vs dv) (i : Nat) (hi : j.toNatClampNeg = i) (hj : ¬ j < 0 ∧ j < n) (hl : i < vs.length) (hd : decode c.code pc = .ok (.castore, 1)) (hq : pc + 1 = q)
    (k : ∀ T' h', Stand p l e R s m args below meth c T' (locs ++ [⟨a, j.toNatClampNeg⟩]) cells slots → T'.heap = h' → Wr h h' a j.toNatClampNeg (.int (nar .char x)) → Arv Z h' a kA .char n (vs.set i (.int (nar .char x))) dv → Go p e below Fn Q T' (mkF m q Ls S)) : Go p e below Fn Q T (mkF m pc Ls (.int x :: .int j :: .ref a :: S)) := by
  obtain ⟨cl, A, q1, S', N', H', G'⟩ := V
  subst hq
  obtain ⟨T', h', X', e', W', st⟩ := stC X hx hZ eT A (j := j) (inb_of S' hj) (g := mkF m pc Ls (.int x :: .int j :: .ref a :: S)) rfl rfl hd
  exact (k T' h' X' e' W' (Arv.set A q1 S' N' H' G' (fits_nar_char _) W' i hi hl)).st st
theorem g_bastore (X : Stand p l e R s m args below meth c T locs cells slots) (hx : p.tables.exec = Jvm.exec) (q : Nat) (hZ : Z.Warmed39 s.vm) (eT : T.heap = h) {a : Addr} {kA : ClassId} {n j x : Int32} {vs : List Value} {dv : Value} (V : Arv Z h a kA .byte n vs dv) (i : Nat) (hi : j.toNatClampNeg = i) (hj : ¬ j < 0 ∧ j < n) (hl : i < vs.length) (hd : decode c.code pc = .ok (.bastore, 1)) (hq : pc + 1 = q)
    (k : ∀ T' h', Stand p l e R s m args below meth c T' (locs ++ [⟨a, j.toNatClampNeg⟩]) cells slots → T'.heap = h' → Wr h h' a j.toNatClampNeg (.int (nar .byte x)) → Arv Z h' a kA .byte n (vs.set i (.int (nar .byte x))) dv → Go p e below Fn Q T' (mkF m q Ls S)) : Go p e below Fn Q T (mkF m pc Ls (.int x :: .int j :: .ref a :: S)) := by
  obtain ⟨cl, A, q1, S', N', H', G'⟩ := V
  subst hq
  obtain ⟨T', h', X', e', W', st⟩ := stB X hx hZ eT A (j := j) (inb_of S' hj) (g := mkF m pc Ls (.int x :: .int j :: .ref a :: S)) rfl rfl hd
  exact (k T' h' X' e' W' (Arv.set A q1 S' N' H' G' (fits_nar_byte _) W' i hi hl)).st st
theorem g_callS (X : Stand p l e R s m args below meth c T locs cells slots) (hx : p.tables.exec = Jvm.exec) (q : Nat) (hZ : Z.Warmed39 s.vm) {own : String} {index : Nat} {y : MethodName} {bytes : ByteArray} {maxL : Nat} {ret : Option FieldType} {rm : Room} {Qc : Option Value → Heap → List Loc → Prop} (hown : s.vm.findClass own = some m.cls) (w1 : (Jvm.Cond.methodLink own index y).before a0 Z = true) (w2 : (Jvm.Cond.static y).before a0 Z = true) (w3 : (Jvm.Cond.initialized y.cls).before a0 Z = true) (w4 : (Jvm.Cond.code y bytes maxL ret).before a0 Z = true) (hy : y.cls ≠ "java/lang/invoke/MethodHandle" ∧ y.cls ≠ "java/lang/invoke/VarHandle") (argsL rest : List Value) (hM : OwnMet l Z y bytes maxL ret [] rm argsL h Qc)
    (eT : T.heap = h) (W : Nat) (hf : rm.frames + 1 ≤ R.frames) (hl : W + (maxL + 11) + rm.locals ≤ R.locals) (hc : cells + rm.cells ≤ R.cells) (hs : slots + rm.slots ≤ R.slots) (hml : Ls.size = c.maxLocals) (hlen : ∀ sig, parseMethodDescriptor y.desc = some sig → argsL.length = sig.parameters.length) (hd : decode c.code pc = .ok (.invokestatic index, 3)) (hst : S = argsL.reverse ++ rest) (hW : (rest.map fun v => v.category).sum ≤ W) (hq : pc + 3 = q) (k : ∀ v T' L', Stand p l e R s m args below meth c T' (locs ++ L') (cells + rm.cells) (slots + rm.slots) → Qc v T'.heap L' → Go p e below Fn Q T' (mkF m q Ls (v.toList ++ rest))) : Go p e below Fn Q T (mkF m pc Ls S) := by
  subst hst
  obtain ⟨v, _, ⟨T', L', k', n'⟩, -, X', ⟨Lc, hQ, l', y', z'⟩, st⟩ := Jvm.LawKit.callS X hx (y := y) hown (mvT hZ w1) (mvT hZ w2) (mvT hZ w3) (mvT hZ w4) hy (backOf (W := W) hM hZ w4 w3 hf hl) (g := mkF m pc Ls (argsL.reverse ++ rest)) rfl hml (argsL := argsL) (rest := rest) hlen rfl (by show 2 * 0 + _ ≤ _; omega) hd (fun _ _ => ⟨rfl, eT, hc, hs⟩)
  dsimp only [Pt.U, Pt.locs, Pt.cells, Pt.slots] at X' l' y' z' st hQ
  subst l' y' z' hq
  exact (k v T' Lc X' hQ).st st
theorem g_callI (X : Stand p l e R s m args below meth c T locs cells slots) (hx : p.tables.exec = Jvm.exec) (q : Nat) (hZ : Z.Warmed39 s.vm) {own : String} {index : Nat} {y : MethodName} {bytes : ByteArray} {maxL : Nat} {rm : Room} {Qc : Option Value → Heap → List Loc → Prop} (hy1 : y.name = "<init>") (hown : s.vm.findClass own = some m.cls) (w1 : (Jvm.Cond.methodLink own index y).before a0 Z = true) (w2 : (Jvm.Cond.instanceMethod y).before a0 Z = true) (w3 : (Jvm.Cond.initialized y.cls).before a0 Z = true) (w4 : (Jvm.Cond.code y bytes maxL none).before a0 Z = true) (hy : y.cls ≠ "java/lang/invoke/MethodHandle" ∧ y.cls ≠ "java/lang/invoke/VarHandle") (a : Addr) (argsL rest : List Value) (hM : OwnMet l Z y bytes maxL none [] rm (.ref a :: argsL) h Qc)
    (eT : T.heap = h) (W : Nat) (hf : rm.frames + 1 ≤ R.frames) (hl : W + (maxL + 11) + rm.locals ≤ R.locals) (hc : cells + rm.cells ≤ R.cells) (hs : slots + rm.slots ≤ R.slots) (hml : Ls.size = c.maxLocals) (hlen : ∀ sig, parseMethodDescriptor y.desc = some sig → argsL.length = sig.parameters.length) (hd : decode c.code pc = .ok (.invokespecial index, 3)) (hst : S = argsL.reverse ++ .ref a :: rest) (hW : (rest.map fun v => v.category).sum ≤ W) (hq : pc + 3 = q) (k : ∀ v T' L', Stand p l e R s m args below meth c T' (locs ++ L') (cells + rm.cells) (slots + rm.slots) → Qc v T'.heap L' → Go p e below Fn Q T' (mkF m q Ls (v.toList ++ rest))) : Go p e below Fn Q T (mkF m pc Ls S) := by
  subst hst
  obtain ⟨v, _, ⟨T', L', k', n'⟩, -, X', ⟨Lc, hQ, l', y', z'⟩, st⟩ := X.specialBack hx (y := y) hy1 hown (mvT hZ w1) (mvT hZ w2) (mvT hZ w4) hy (backOf (W := W) hM hZ w4 w3 hf hl) (g := mkF m pc Ls (argsL.reverse ++ .ref a :: rest)) rfl hml (Steps.refl _) (a := a) (argsL := argsL) (rest := rest) hlen rfl (by show 2 * 0 + _ ≤ _; omega) hd (fun _ _ => ⟨rfl, eT, hc, hs⟩)
  dsimp only [Pt.U, Pt.locs, Pt.cells, Pt.slots] at X' l' y' z' st hQ
  subst l' y' z' hq
  exact (k v T' Lc X' hQ).st fun _ z => st.trans z
theorem g_callV (X : Stand p l e R s m args below meth c T locs cells slots) (hx : p.tables.exec = Jvm.exec) (q : Nat) (hZ : Z.Warmed39 s.vm) {own C : String} {index : Nat} {y : MethodName} {bytes : ByteArray} {maxL : Nat} {ret : Option FieldType} {rm : Room} {Qc : Option Value → Heap → List Loc → Prop} (hown : s.vm.findClass own = some m.cls) (w1 : (Jvm.Cond.methodLink own index y).before a0 Z = true) (w2 : (Jvm.Cond.declares y).before a0 Z = true) (w5 : (Jvm.Cond.selects C y y).before a0 Z = true) (w6 : (Jvm.Cond.instanceMethod y).before a0 Z = true) (w3 : (Jvm.Cond.initialized y.cls).before a0 Z = true) (w4 : (Jvm.Cond.code y bytes maxL ret).before a0 Z = true) (hy : y.cls ≠ "java/lang/invoke/MethodHandle" ∧ y.cls ≠ "java/lang/invoke/VarHandle") (a : Addr) (E : Exa Z h a C) (argsL rest : List Value) (hM : OwnMet l Z y bytes maxL ret [] rm (.ref a :: argsL) h Qc)
    (eT : T.heap = h) (W : Nat) (hf : rm.frames + 1 ≤ R.frames) (hl : W + (maxL + 11) + rm.locals ≤ R.locals) (hc : cells + rm.cells ≤ R.cells) (hs : slots + rm.slots ≤ R.slots) (hml : Ls.size = c.maxLocals) (hlen : ∀ sig, parseMethodDescriptor y.desc = some sig → argsL.length = sig.parameters.length) (hd : decode c.code pc = .ok (.invokevirtual index, 3)) (hst : S = argsL.reverse ++ .ref a :: rest) (hW : (rest.map fun v => v.category).sum ≤ W) (hq : pc + 3 = q) (k : ∀ v T' L', Stand p l e R s m args below meth c T' (locs ++ L') (cells + rm.cells) (slots + rm.slots) → Qc v T'.heap L' → Go p e below Fn Q T' (mkF m q Ls (v.toList ++ rest))) : Go p e below Fn Q T (mkF m pc Ls S) := by
  subst hst
  obtain ⟨cq, kq, qa, qb, qc⟩ := isOf (T := T) hZ eT E
  obtain ⟨v, _, ⟨T', L', k', n'⟩, -, X', ⟨Lc, hQ, l', y', z'⟩, st⟩ := X.virtualBack hx (y := y) (z := y) hown (mvT hZ w1) (mvT hZ w2) (notFace_of_selects (args := #[]) (mvT hZ w5)) (mvT hZ w5) (mvT hZ w6) hy (backOf (W := W) hM hZ w4 w3 hf hl) qa qc (g := mkF m pc Ls (argsL.reverse ++ .ref a :: rest)) rfl hml (Steps.refl _) (argsL := argsL) (rest := rest) hlen rfl (by show 2 * 0 + _ ≤ _; omega) hd (fun _ _ => ⟨rfl, eT, hc, hs⟩)
  dsimp only [Pt.U, Pt.locs, Pt.cells, Pt.slots] at X' l' y' z' st hQ
  subst l' y' z' hq
  exact (k v T' Lc X' hQ).st fun _ z => st.trans z
theorem g_callP (X : Stand p l e R s m args below meth c T locs cells slots) (hx : p.tables.exec = Jvm.exec) (q : Nat) (hZ : Z.Warmed39 s.vm) {own C0 : String} {index : Nat} {y y0 : MethodName} {bytes : ByteArray} {maxL : Nat} {ret : Option FieldType} {rm : Room} {Qc : Option Value → Heap → List Loc → Prop} (hown : s.vm.findClass own = some m.cls) (w1 : (Jvm.Cond.methodLink own index y).before a0 Z = true) (w6 : (Jvm.Cond.instanceMethod y).before a0 Z = true) (w8 : (Jvm.Cond.privateMethod y).before a0 Z = true) (w5 : (Jvm.Cond.selects C0 y0 y0).before a0 Z = true) (hc0 : y0.cls = y.cls) (w3 : (Jvm.Cond.initialized y.cls).before a0 Z = true) (w4 : (Jvm.Cond.code y bytes maxL ret).before a0 Z = true) (hy : y.cls ≠ "java/lang/invoke/MethodHandle" ∧ y.cls ≠ "java/lang/invoke/VarHandle") {C : String} (a : Addr) (E : Exa Z h a C) (argsL rest : List Value) (hM : OwnMet l Z y bytes maxL ret [] rm (.ref a :: argsL) h Qc)
    (eT : T.heap = h) (W : Nat) (hf : rm.frames + 1 ≤ R.frames) (hl : W + (maxL + 11) + rm.locals ≤ R.locals) (hc : cells + rm.cells ≤ R.cells) (hs : slots + rm.slots ≤ R.slots) (hml : Ls.size = c.maxLocals) (hlen : ∀ sig, parseMethodDescriptor y.desc = some sig → argsL.length = sig.parameters.length) (hd : decode c.code pc = .ok (.invokevirtual index, 3)) (hst : S = argsL.reverse ++ .ref a :: rest) (hW : (rest.map fun v => v.category).sum ≤ W) (hq : pc + 3 = q) (k : ∀ v T' L', Stand p l e R s m args below meth c T' (locs ++ L') (cells + rm.cells) (slots + rm.slots) → Qc v T'.heap L' → Go p e below Fn Q T' (mkF m q Ls (v.toList ++ rest))) : Go p e below Fn Q T (mkF m pc Ls S) := by
  subst hst
  have hpriv : s.PrivateAt y := Cond.privateMethod_at (mvP hZ w8 (args := #[]))
  have hsel : (Jvm.Cond.selects y.cls y y).before args s = true := by
    obtain ⟨c2, r2, m2, -, -, q3, -, kP, hkP, hkPi⟩ := Cond.selects_spec (mvT hZ w5 : (Jvm.Cond.selects C0 y0 y0).before args s = true)
    exact selects_self_of_private (hc0 ▸ findClass_of_methodNamed q3) hkP hkPi hpriv (mvT hZ w6) hy
  obtain ⟨cq, qa, qb⟩ := E.cell
  obtain ⟨v, _, ⟨T', L', k', n'⟩, -, X', ⟨Lc, hQ, l', y', z'⟩, st⟩ := X.privateBack hx (y := y) hown (mvT hZ w1) (mvT hZ w6) hsel hpriv (mvT hZ w4) hy (backOf (W := W) hM hZ w4 w3 hf hl) (g := mkF m pc Ls (argsL.reverse ++ .ref a :: rest)) rfl hml (Steps.refl _) (a := a) (by rw [eT]; exact qa) qb (argsL := argsL) (rest := rest) hlen rfl (by show 2 * 0 + _ ≤ _; omega) hd (fun _ _ => ⟨rfl, eT, hc, hs⟩)
  dsimp only [Pt.U, Pt.locs, Pt.cells, Pt.slots] at X' l' y' z' st hQ
  subst l' y' z' hq
  exact (k v T' Lc X' hQ).st fun _ z => st.trans z
theorem own_sta_keep {h' : Heap} {C n d : String} {v : Value} (F : Sta Z h C n d v) (Kp : Keep h h' []) : Sta Z h' C n d v := by
  obtain ⟨cf, i, k, f, st, cell, h1, h2, h3, h4, h5, r⟩ := F
  exact ⟨cf, i, k, f, st, cell, h1, h2, h3, h4, Kp.2.1 _ _ h5 nin0, r⟩
theorem own_plain {C : String} {x : Addr} (F : Exa Z h x C) : ∃ cl : Cell, h[x]? = some cl ∧ cl.vm.isStatics = false := by
  obtain ⟨c, _, h1, -, -, h4, -⟩ := F; exact ⟨c, h1, h4⟩
theorem own_sta_keep' {h' : Heap} {C n d : String} {v : Value} {x : Addr} (F : Sta Z h C n d v) (Kp : Keep h h' [x]) (hp : ∃ cl : Cell, h[x]? = some cl ∧ cl.vm.isStatics = false) : Sta Z h' C n d v := by
  obtain ⟨cf, i, k, f, st, cell, h1, h2, h3, h4, h5, h6, r⟩ := F
  obtain ⟨cl, q1, q2⟩ := hp
  have ne : st ≠ x := fun q => by rw [q] at h5; rw [q1] at h5; cases h5; rw [q2] at h6; cases h6
  exact ⟨cf, i, k, f, st, cell, h1, h2, h3, h4, Kp.2.1 _ _ h5 (ninS ne nin0), h6, r⟩
theorem own_B {c' : Code} {b : ByteArray} {D : List (Nat × Instr × Nat)} (h' : c'.code = b) (k : ∀ x ∈ D, decode b x.1 = .ok x.2) {q : Nat} {r : Instr × Nat} (i : Nat) (g : D[i]? = some (q, r)) : decode c'.code q = .ok r := by rw [h']; exact k (q, r) (List.mem_of_getElem? g)
theorem own_lq {g : JFrame} (k : ∀ Fn' Q', (∀ T g, Go p e below Fn Q T g → Go p e below Fn' Q' T g) → Go p e below Fn' Q' T g) : Go p e below Fn Q T g := k _ _ (fun _ _ h => h)
theorem gg (X : Stand p l e R s m args below meth c T locs cells slots) (hx : p.tables.exec = Jvm.exec) (q : Nat) {o : Int} (hd : decode c.code pc = .ok (.goto o, 3)) (h : (decide (0 ≤ (pc : Int) + o) && decide (((pc : Int) + o).toNat = q)) = true) (k : Go p e below Fn Q T (mkF m q Ls S)) : Go p e below Fn Q T (mkF m pc Ls (S)) := by
  rw [Bool.and_eq_true, decide_eq_true_eq, decide_eq_true_eq] at h; exact g_goto X hx q hd h.1 h.2 k
theorem gt (X : Stand p l e R s m args below meth c T locs cells slots) (hx : p.tables.exec = Jvm.exec) (q : Nat) {cd : ClassFile.Cond} {x : Int32} {o : Int} (hd : decode c.code pc = .ok (.ifCond cd o, 3)) (hc : ifCond.holds cd x = true) (h : (decide (0 ≤ (pc : Int) + o) && decide (((pc : Int) + o).toNat = q)) = true) (k : Go p e below Fn Q T (mkF m q Ls S)) : Go p e below Fn Q T (mkF m pc Ls (.int x :: S)) := by
  rw [Bool.and_eq_true, decide_eq_true_eq, decide_eq_true_eq] at h; exact g_ifT X hx q hd hc h.1 h.2 k
theorem gT (X : Stand p l e R s m args below meth c T locs cells slots) (hx : p.tables.exec = Jvm.exec) (q : Nat) {cd : ClassFile.Cond} {x y : Int32} {o : Int} (hd : decode c.code pc = .ok (.if_icmp cd o, 3)) (hc : if_icmp.holds cd x y = true) (h : (decide (0 ≤ (pc : Int) + o) && decide (((pc : Int) + o).toNat = q)) = true) (k : Go p e below Fn Q T (mkF m q Ls S)) : Go p e below Fn Q T (mkF m pc Ls (.int y :: .int x :: S)) := by
  rw [Bool.and_eq_true, decide_eq_true_eq, decide_eq_true_eq] at h; exact g_icT X hx q hd hc h.1 h.2 k
theorem gc (X : Stand p l e R s m args below meth c T locs cells slots) (hx : p.tables.exec = Jvm.exec) (q : Nat) (hZ : Z.Warmed39 s.vm) (eT : T.heap = h) {a : Addr} {kA : ClassId} {n j : Int32} {vs : List Value} {dv : Value} (V : Arv Z h a kA .char n vs dv) (v : Int32) (hj : (decide (¬ j < 0) && decide (j < n)) = true) (hv : vs.getD j.toNatClampNeg dv = .int v) (hd : decode c.code pc = .ok (.caload, 1)) (hq : pc + 1 = q) (k : Go p e below Fn Q T (mkF m q Ls (.int v :: S))) : Go p e below Fn Q T (mkF m pc Ls (.int j :: .ref a :: S)) := by
  rw [Bool.and_eq_true, decide_eq_true_eq, decide_eq_true_eq] at hj; exact g_caload X hx q hZ eT V hj hv hd hq k
theorem gS (X : Stand p l e R s m args below meth c T locs cells slots) (hx : p.tables.exec = Jvm.exec) (q : Nat) (hZ : Z.Warmed39 s.vm) {own : String} {index : Nat} {y : MethodName} {bytes : ByteArray} {maxL : Nat} {ret : Option FieldType} {rm : Room} {Qc : Option Value → Heap → List Loc → Prop} (hown : s.vm.findClass own = some m.cls) (w1 : (Jvm.Cond.methodLink own index y).before a0 Z = true) (w2 : (Jvm.Cond.static y).before a0 Z = true) (w3 : (Jvm.Cond.initialized y.cls).before a0 Z = true) (w4 : (Jvm.Cond.code y bytes maxL ret).before a0 Z = true) (hy : y.cls ≠ "java/lang/invoke/MethodHandle" ∧ y.cls ≠ "java/lang/invoke/VarHandle") (argsL rest : List Value) (hM : OwnMet l Z y bytes maxL ret [] rm argsL h Qc)
    (eT : T.heap = h) (W : Nat) (h4 : (Nat.ble (rm.frames + 1) R.frames && Nat.ble (W + (maxL + 11) + rm.locals) R.locals && Nat.ble (cells + rm.cells) R.cells && Nat.ble (slots + rm.slots) R.slots) = true) (hml : Ls.size = c.maxLocals) (hlen : ∀ sig, parseMethodDescriptor y.desc = some sig → argsL.length = sig.parameters.length) (hd : decode c.code pc = .ok (.invokestatic index, 3)) (hst : S = argsL.reverse ++ rest) (hW : (rest.map fun v => v.category).sum = W) (hq : pc + 3 = q) (k : ∀ v T' L', Stand p l e R s m args below meth c T' (locs ++ L') (cells + rm.cells) (slots + rm.slots) → Qc v T'.heap L' → Go p e below Fn Q T' (mkF m q Ls (v.toList ++ rest))) : Go p e below Fn Q T (mkF m pc Ls S) := by
  simp only [Bool.and_eq_true, Nat.ble_eq] at h4; exact g_callS X hx q hZ hown w1 w2 w3 w4 hy argsL rest hM eT W h4.1.1.1 h4.1.1.2 h4.1.2 h4.2 hml hlen hd hst (Nat.le_of_eq hW) hq k
theorem gV (X : Stand p l e R s m args below meth c T locs cells slots) (hx : p.tables.exec = Jvm.exec) (q : Nat) (hZ : Z.Warmed39 s.vm) {own C : String} {index : Nat} {y : MethodName} {bytes : ByteArray} {maxL : Nat} {ret : Option FieldType} {rm : Room} {Qc : Option Value → Heap → List Loc → Prop} (hown : s.vm.findClass own = some m.cls) (w1 : (Jvm.Cond.methodLink own index y).before a0 Z = true) (w2 : (Jvm.Cond.declares y).before a0 Z = true) (w5 : (Jvm.Cond.selects C y y).before a0 Z = true) (w6 : (Jvm.Cond.instanceMethod y).before a0 Z = true) (w3 : (Jvm.Cond.initialized y.cls).before a0 Z = true) (w4 : (Jvm.Cond.code y bytes maxL ret).before a0 Z = true) (hy : y.cls ≠ "java/lang/invoke/MethodHandle" ∧ y.cls ≠ "java/lang/invoke/VarHandle") (a : Addr) (E : Exa Z h a C) (argsL rest : List Value) (hM : OwnMet l Z y bytes maxL ret [] rm (.ref a :: argsL) h Qc)
    (eT : T.heap = h) (W : Nat) (h4 : (Nat.ble (rm.frames + 1) R.frames && Nat.ble (W + (maxL + 11) + rm.locals) R.locals && Nat.ble (cells + rm.cells) R.cells && Nat.ble (slots + rm.slots) R.slots) = true) (hml : Ls.size = c.maxLocals) (hlen : ∀ sig, parseMethodDescriptor y.desc = some sig → argsL.length = sig.parameters.length) (hd : decode c.code pc = .ok (.invokevirtual index, 3)) (hst : S = argsL.reverse ++ .ref a :: rest) (hW : (rest.map fun v => v.category).sum = W) (hq : pc + 3 = q) (k : ∀ v T' L', Stand p l e R s m args below meth c T' (locs ++ L') (cells + rm.cells) (slots + rm.slots) → Qc v T'.heap L' → Go p e below Fn Q T' (mkF m q Ls (v.toList ++ rest))) : Go p e below Fn Q T (mkF m pc Ls S) := by
  simp only [Bool.and_eq_true, Nat.ble_eq] at h4; exact g_callV X hx q hZ hown w1 w2 w5 w6 w3 w4 hy a E argsL rest hM eT W h4.1.1.1 h4.1.1.2 h4.1.2 h4.2 hml hlen hd hst (Nat.le_of_eq hW) hq k
end OwnKit
abbrev I (x : Int32) : Slot := .val (.int x)
abbrev A (x : Addr) : Slot := .val (.ref x)
abbrev J (x : Int64) : Slot := .val (.long x)
abbrev U : Slot := .unset
abbrev E2 : Slot := .second
def sn0 {Z : State} {a0 : Array Value} (hw : ∀ d ∈ tables_1, d.before a0 Z = true) := slot_ne (Or.inl (own_w hw 51 rfl)) (Or.inl (own_w hw 49 rfl)) (by decide) (t := .long) (t' := .long) (by decide) (by decide)
def sn1 {Z : State} {a0 : Array Value} (hw : ∀ d ∈ tables_1, d.before a0 Z = true) := slot_ne (Or.inl (own_w hw 143 rfl)) (Or.inl (own_w hw 49 rfl)) (by decide) (t := .char) (t' := .long) (by decide) (by decide)
def sn2 {Z : State} {a0 : Array Value} (hw : ∀ d ∈ tables_1, d.before a0 Z = true) := slot_ne (Or.inl (own_w hw 49 rfl)) (Or.inl (own_w hw 51 rfl)) (by decide) (t := .long) (t' := .long) (by decide) (by decide)
def sn3 {Z : State} {a0 : Array Value} (hw : ∀ d ∈ tables_1, d.before a0 Z = true) := slot_ne (Or.inl (own_w hw 143 rfl)) (Or.inl (own_w hw 51 rfl)) (by decide) (t := .char) (t' := .long) (by decide) (by decide)
def sn4 {Z : State} {a0 : Array Value} (hw : ∀ d ∈ tables_1, d.before a0 Z = true) := slot_ne (Or.inl (own_w hw 49 rfl)) (Or.inl (own_w hw 143 rfl)) (by decide) (t := .long) (t' := .char) (by decide) (by decide)
def sn5 {Z : State} {a0 : Array Value} (hw : ∀ d ∈ tables_1, d.before a0 Z = true) := slot_ne (Or.inl (own_w hw 51 rfl)) (Or.inl (own_w hw 143 rfl)) (by decide) (t := .long) (t' := .char) (by decide) (by decide)
def sn6 {Z : State} {a0 : Array Value} (hw : ∀ d ∈ tables_1, d.before a0 Z = true) := slot_ne (Or.inr (own_w hw 36 rfl)) (Or.inr (own_w hw 34 rfl)) (by decide) (t := (.array .byte)) (t' := .byte) (by decide) (by decide)
def sn7 {Z : State} {a0 : Array Value} (hw : ∀ d ∈ tables_1, d.before a0 Z = true) := slot_ne (Or.inr (own_w hw 34 rfl)) (Or.inr (own_w hw 36 rfl)) (by decide) (t := .byte) (t' := (.array .byte)) (by decide) (by decide)
def sn8 {Z : State} {a0 : Array Value} (hw : ∀ d ∈ tables_1, d.before a0 Z = true) := slot_ne (Or.inr (own_w hw 53 rfl)) (Or.inl (own_w hw 111 rfl)) (by decide) (t := (.object "gleanwell/Position")) (t' := .int) (by decide) (by decide)
def sn9 {Z : State} {a0 : Array Value} (hw : ∀ d ∈ tables_1, d.before a0 Z = true) := slot_ne (Or.inl (own_w hw 67 rfl)) (Or.inl (own_w hw 111 rfl)) (by decide) (t := .int) (t' := .int) (by decide) (by decide)
def sn10 {Z : State} {a0 : Array Value} (hw : ∀ d ∈ tables_1, d.before a0 Z = true) := slot_ne (Or.inl (own_w hw 69 rfl)) (Or.inl (own_w hw 111 rfl)) (by decide) (t := (.array .char)) (t' := .int) (by decide) (by decide)
def sn11 {Z : State} {a0 : Array Value} (hw : ∀ d ∈ tables_1, d.before a0 Z = true) := slot_ne (Or.inl (own_w hw 113 rfl)) (Or.inl (own_w hw 111 rfl)) (by decide) (t := .int) (t' := .int) (by decide) (by decide)
def sn12 {Z : State} {a0 : Array Value} (hw : ∀ d ∈ tables_1, d.before a0 Z = true) := slot_ne (Or.inl (own_w hw 128 rfl)) (Or.inl (own_w hw 111 rfl)) (by decide) (t := .int) (t' := .int) (by decide) (by decide)
def sn13 {Z : State} {a0 : Array Value} (hw : ∀ d ∈ tables_1, d.before a0 Z = true) := slot_ne (Or.inr (own_w hw 53 rfl)) (Or.inl (own_w hw 113 rfl)) (by decide) (t := (.object "gleanwell/Position")) (t' := .int) (by decide) (by decide)
def sn14 {Z : State} {a0 : Array Value} (hw : ∀ d ∈ tables_1, d.before a0 Z = true) := slot_ne (Or.inl (own_w hw 67 rfl)) (Or.inl (own_w hw 113 rfl)) (by decide) (t := .int) (t' := .int) (by decide) (by decide)
def sn15 {Z : State} {a0 : Array Value} (hw : ∀ d ∈ tables_1, d.before a0 Z = true) := slot_ne (Or.inl (own_w hw 69 rfl)) (Or.inl (own_w hw 113 rfl)) (by decide) (t := (.array .char)) (t' := .int) (by decide) (by decide)
def sn16 {Z : State} {a0 : Array Value} (hw : ∀ d ∈ tables_1, d.before a0 Z = true) := slot_ne (Or.inl (own_w hw 111 rfl)) (Or.inl (own_w hw 113 rfl)) (by decide) (t := .int) (t' := .int) (by decide) (by decide)
def sn17 {Z : State} {a0 : Array Value} (hw : ∀ d ∈ tables_1, d.before a0 Z = true) := slot_ne (Or.inl (own_w hw 128 rfl)) (Or.inl (own_w hw 113 rfl)) (by decide) (t := .int) (t' := .int) (by decide) (by decide)
def sn18 {Z : State} {a0 : Array Value} (hw : ∀ d ∈ tables_1, d.before a0 Z = true) := slot_ne (Or.inr (own_w hw 55 rfl)) (Or.inr (own_w hw 53 rfl)) (by decide) (t := (.object "java/lang/Readable")) (t' := (.object "gleanwell/Position")) (by decide) (by decide)
def sn19 {Z : State} {a0 : Array Value} (hw : ∀ d ∈ tables_1, d.before a0 Z = true) := slot_ne (Or.inl (own_w hw 67 rfl)) (Or.inr (own_w hw 53 rfl)) (by decide) (t := .int) (t' := (.object "gleanwell/Position")) (by decide) (by decide)
def sn20 {Z : State} {a0 : Array Value} (hw : ∀ d ∈ tables_1, d.before a0 Z = true) := slot_ne (Or.inl (own_w hw 69 rfl)) (Or.inr (own_w hw 53 rfl)) (by decide) (t := (.array .char)) (t' := (.object "gleanwell/Position")) (by decide) (by decide)
def sn21 {Z : State} {a0 : Array Value} (hw : ∀ d ∈ tables_1, d.before a0 Z = true) := slot_ne (Or.inl (own_w hw 103 rfl)) (Or.inr (own_w hw 53 rfl)) (by decide) (t := .boolean) (t' := (.object "gleanwell/Position")) (by decide) (by decide)
def sn22 {Z : State} {a0 : Array Value} (hw : ∀ d ∈ tables_1, d.before a0 Z = true) := slot_ne (Or.inl (own_w hw 111 rfl)) (Or.inr (own_w hw 53 rfl)) (by decide) (t := .int) (t' := (.object "gleanwell/Position")) (by decide) (by decide)
def sn23 {Z : State} {a0 : Array Value} (hw : ∀ d ∈ tables_1, d.before a0 Z = true) := slot_ne (Or.inl (own_w hw 113 rfl)) (Or.inr (own_w hw 53 rfl)) (by decide) (t := .int) (t' := (.object "gleanwell/Position")) (by decide) (by decide)
def sn24 {Z : State} {a0 : Array Value} (hw : ∀ d ∈ tables_1, d.before a0 Z = true) := slot_ne (Or.inl (own_w hw 128 rfl)) (Or.inr (own_w hw 53 rfl)) (by decide) (t := .int) (t' := (.object "gleanwell/Position")) (by decide) (by decide)
def sn25 {Z : State} {a0 : Array Value} (hw : ∀ d ∈ tables_1, d.before a0 Z = true) := slot_ne (Or.inr (own_w hw 53 rfl)) (Or.inr (own_w hw 55 rfl)) (by decide) (t := (.object "gleanwell/Position")) (t' := (.object "java/lang/Readable")) (by decide) (by decide)
def sn26 {Z : State} {a0 : Array Value} (hw : ∀ d ∈ tables_1, d.before a0 Z = true) := slot_ne (Or.inl (own_w hw 67 rfl)) (Or.inr (own_w hw 55 rfl)) (by decide) (t := .int) (t' := (.object "java/lang/Readable")) (by decide) (by decide)
def sn27 {Z : State} {a0 : Array Value} (hw : ∀ d ∈ tables_1, d.before a0 Z = true) := slot_ne (Or.inl (own_w hw 69 rfl)) (Or.inr (own_w hw 55 rfl)) (by decide) (t := (.array .char)) (t' := (.object "java/lang/Readable")) (by decide) (by decide)
def sn28 {Z : State} {a0 : Array Value} (hw : ∀ d ∈ tables_1, d.before a0 Z = true) := slot_ne (Or.inl (own_w hw 103 rfl)) (Or.inr (own_w hw 55 rfl)) (by decide) (t := .boolean) (t' := (.object "java/lang/Readable")) (by decide) (by decide)
def sn29 {Z : State} {a0 : Array Value} (hw : ∀ d ∈ tables_1, d.before a0 Z = true) := slot_ne (Or.inl (own_w hw 111 rfl)) (Or.inr (own_w hw 55 rfl)) (by decide) (t := .int) (t' := (.object "java/lang/Readable")) (by decide) (by decide)
def sn30 {Z : State} {a0 : Array Value} (hw : ∀ d ∈ tables_1, d.before a0 Z = true) := slot_ne (Or.inl (own_w hw 113 rfl)) (Or.inr (own_w hw 55 rfl)) (by decide) (t := .int) (t' := (.object "java/lang/Readable")) (by decide) (by decide)
def sn31 {Z : State} {a0 : Array Value} (hw : ∀ d ∈ tables_1, d.before a0 Z = true) := slot_ne (Or.inl (own_w hw 128 rfl)) (Or.inr (own_w hw 55 rfl)) (by decide) (t := .int) (t' := (.object "java/lang/Readable")) (by decide) (by decide)
def sn32 {Z : State} {a0 : Array Value} (hw : ∀ d ∈ tables_1, d.before a0 Z = true) := slot_ne (Or.inr (own_w hw 53 rfl)) (Or.inl (own_w hw 67 rfl)) (by decide) (t := (.object "gleanwell/Position")) (t' := .int) (by decide) (by decide)
def sn33 {Z : State} {a0 : Array Value} (hw : ∀ d ∈ tables_1, d.before a0 Z = true) := slot_ne (Or.inr (own_w hw 55 rfl)) (Or.inl (own_w hw 67 rfl)) (by decide) (t := (.object "java/lang/Readable")) (t' := .int) (by decide) (by decide)
def sn34 {Z : State} {a0 : Array Value} (hw : ∀ d ∈ tables_1, d.before a0 Z = true) := slot_ne (Or.inl (own_w hw 69 rfl)) (Or.inl (own_w hw 67 rfl)) (by decide) (t := (.array .char)) (t' := .int) (by decide) (by decide)
def sn35 {Z : State} {a0 : Array Value} (hw : ∀ d ∈ tables_1, d.before a0 Z = true) := slot_ne (Or.inl (own_w hw 103 rfl)) (Or.inl (own_w hw 67 rfl)) (by decide) (t := .boolean) (t' := .int) (by decide) (by decide)
def sn36 {Z : State} {a0 : Array Value} (hw : ∀ d ∈ tables_1, d.before a0 Z = true) := slot_ne (Or.inl (own_w hw 111 rfl)) (Or.inl (own_w hw 67 rfl)) (by decide) (t := .int) (t' := .int) (by decide) (by decide)
def sn37 {Z : State} {a0 : Array Value} (hw : ∀ d ∈ tables_1, d.before a0 Z = true) := slot_ne (Or.inl (own_w hw 113 rfl)) (Or.inl (own_w hw 67 rfl)) (by decide) (t := .int) (t' := .int) (by decide) (by decide)
def sn38 {Z : State} {a0 : Array Value} (hw : ∀ d ∈ tables_1, d.before a0 Z = true) := slot_ne (Or.inl (own_w hw 128 rfl)) (Or.inl (own_w hw 67 rfl)) (by decide) (t := .int) (t' := .int) (by decide) (by decide)
def sn39 {Z : State} {a0 : Array Value} (hw : ∀ d ∈ tables_1, d.before a0 Z = true) := slot_ne (Or.inr (own_w hw 53 rfl)) (Or.inl (own_w hw 69 rfl)) (by decide) (t := (.object "gleanwell/Position")) (t' := (.array .char)) (by decide) (by decide)
def sn40 {Z : State} {a0 : Array Value} (hw : ∀ d ∈ tables_1, d.before a0 Z = true) := slot_ne (Or.inr (own_w hw 55 rfl)) (Or.inl (own_w hw 69 rfl)) (by decide) (t := (.object "java/lang/Readable")) (t' := (.array .char)) (by decide) (by decide)
def sn41 {Z : State} {a0 : Array Value} (hw : ∀ d ∈ tables_1, d.before a0 Z = true) := slot_ne (Or.inl (own_w hw 67 rfl)) (Or.inl (own_w hw 69 rfl)) (by decide) (t := .int) (t' := (.array .char)) (by decide) (by decide)
def sn42 {Z : State} {a0 : Array Value} (hw : ∀ d ∈ tables_1, d.before a0 Z = true) := slot_ne (Or.inl (own_w hw 103 rfl)) (Or.inl (own_w hw 69 rfl)) (by decide) (t := .boolean) (t' := (.array .char)) (by decide) (by decide)
def sn43 {Z : State} {a0 : Array Value} (hw : ∀ d ∈ tables_1, d.before a0 Z = true) := slot_ne (Or.inl (own_w hw 111 rfl)) (Or.inl (own_w hw 69 rfl)) (by decide) (t := .int) (t' := (.array .char)) (by decide) (by decide)
def sn44 {Z : State} {a0 : Array Value} (hw : ∀ d ∈ tables_1, d.before a0 Z = true) := slot_ne (Or.inl (own_w hw 113 rfl)) (Or.inl (own_w hw 69 rfl)) (by decide) (t := .int) (t' := (.array .char)) (by decide) (by decide)
def sn45 {Z : State} {a0 : Array Value} (hw : ∀ d ∈ tables_1, d.before a0 Z = true) := slot_ne (Or.inl (own_w hw 128 rfl)) (Or.inl (own_w hw 69 rfl)) (by decide) (t := .int) (t' := (.array .char)) (by decide) (by decide)
def sn46 {Z : State} {a0 : Array Value} (hw : ∀ d ∈ tables_1, d.before a0 Z = true) := slot_ne (Or.inr (own_w hw 53 rfl)) (Or.inl (own_w hw 103 rfl)) (by decide) (t := (.object "gleanwell/Position")) (t' := .boolean) (by decide) (by decide)
def sn47 {Z : State} {a0 : Array Value} (hw : ∀ d ∈ tables_1, d.before a0 Z = true) := slot_ne (Or.inr (own_w hw 55 rfl)) (Or.inl (own_w hw 103 rfl)) (by decide) (t := (.object "java/lang/Readable")) (t' := .boolean) (by decide) (by decide)
def sn48 {Z : State} {a0 : Array Value} (hw : ∀ d ∈ tables_1, d.before a0 Z = true) := slot_ne (Or.inl (own_w hw 67 rfl)) (Or.inl (own_w hw 103 rfl)) (by decide) (t := .int) (t' := .boolean) (by decide) (by decide)
def sn49 {Z : State} {a0 : Array Value} (hw : ∀ d ∈ tables_1, d.before a0 Z = true) := slot_ne (Or.inl (own_w hw 69 rfl)) (Or.inl (own_w hw 103 rfl)) (by decide) (t := (.array .char)) (t' := .boolean) (by decide) (by decide)
def sn50 {Z : State} {a0 : Array Value} (hw : ∀ d ∈ tables_1, d.before a0 Z = true) := slot_ne (Or.inl (own_w hw 111 rfl)) (Or.inl (own_w hw 103 rfl)) (by decide) (t := .int) (t' := .boolean) (by decide) (by decide)
def sn51 {Z : State} {a0 : Array Value} (hw : ∀ d ∈ tables_1, d.before a0 Z = true) := slot_ne (Or.inl (own_w hw 113 rfl)) (Or.inl (own_w hw 103 rfl)) (by decide) (t := .int) (t' := .boolean) (by decide) (by decide)
def sn52 {Z : State} {a0 : Array Value} (hw : ∀ d ∈ tables_1, d.before a0 Z = true) := slot_ne (Or.inl (own_w hw 128 rfl)) (Or.inl (own_w hw 103 rfl)) (by decide) (t := .int) (t' := .boolean) (by decide) (by decide)
def sn53 {Z : State} {a0 : Array Value} (hw : ∀ d ∈ tables_1, d.before a0 Z = true) := slot_ne (Or.inr (own_w hw 53 rfl)) (Or.inl (own_w hw 128 rfl)) (by decide) (t := (.object "gleanwell/Position")) (t' := .int) (by decide) (by decide)
def sn54 {Z : State} {a0 : Array Value} (hw : ∀ d ∈ tables_1, d.before a0 Z = true) := slot_ne (Or.inl (own_w hw 67 rfl)) (Or.inl (own_w hw 128 rfl)) (by decide) (t := .int) (t' := .int) (by decide) (by decide)
def sn55 {Z : State} {a0 : Array Value} (hw : ∀ d ∈ tables_1, d.before a0 Z = true) := slot_ne (Or.inl (own_w hw 69 rfl)) (Or.inl (own_w hw 128 rfl)) (by decide) (t := (.array .char)) (t' := .int) (by decide) (by decide)
def sn56 {Z : State} {a0 : Array Value} (hw : ∀ d ∈ tables_1, d.before a0 Z = true) := slot_ne (Or.inl (own_w hw 111 rfl)) (Or.inl (own_w hw 128 rfl)) (by decide) (t := .int) (t' := .int) (by decide) (by decide)
def sn57 {Z : State} {a0 : Array Value} (hw : ∀ d ∈ tables_1, d.before a0 Z = true) := slot_ne (Or.inl (own_w hw 113 rfl)) (Or.inl (own_w hw 128 rfl)) (by decide) (t := .int) (t' := .int) (by decide) (by decide)
theorem own_nn (a : Int32) : ¬ (a &&& (2147483647 : Int32)) < 0 := by
  rw [Int32.lt_iff_toInt_lt]
  show ¬ (a &&& 2147483647).toBitVec.toInt < 0
  rw [Int32.toBitVec_and, BitVec.toInt_neg_iff]
  rw [Nat.not_le, BitVec.toNat_and]
  have : a.toBitVec.toNat &&& (2147483647 : Int32).toBitVec.toNat ≤ (2147483647 : Int32).toBitVec.toNat := Nat.and_le_right
  have e : (2147483647 : Int32).toBitVec.toNat = 2147483647 := by decide
  omega
theorem own_nnL (a : Int64) : ¬ (a &&& (9223372036854775807 : Int64)) < 0 := by
  rw [Int64.lt_iff_toInt_lt]
  show ¬ (a &&& 9223372036854775807).toBitVec.toInt < 0
  rw [Int64.toBitVec_and, BitVec.toInt_neg_iff]
  rw [Nat.not_le, BitVec.toNat_and]
  have : a.toBitVec.toNat &&& (9223372036854775807 : Int64).toBitVec.toNat ≤ (9223372036854775807 : Int64).toBitVec.toNat := Nat.and_le_right
  have e : (9223372036854775807 : Int64).toBitVec.toNat = 9223372036854775807 := by decide
  omega
theorem own_modb (a n : Int32) (ha : ¬ a < 0) (hn : 0 < n) : ¬ a % n < 0 ∧ a % n < n := by
  rw [Int32.lt_iff_toInt_lt] at *
  rw [Int32.lt_iff_toInt_lt] at *
  rw [Int32.toInt_mod]
  have z : (0 : Int32).toInt = 0 := rfl
  rw [z] at *
  have h1 := Int.tmod_nonneg n.toInt (Int.not_lt.mp ha)
  have h2 := Int.tmod_lt_of_pos a.toInt hn
  omega
theorem own_nar2 (x : Int32) : nar .char (nar .char x) = nar .char x := Value.int.inj (Jvm.Free.XT.narrow_c x)
theorem own_nrw {c : Int32} (h : nar .char c = c) : narrow .char (.int c) = .int c := congrArg Value.int h
theorem own_fit {c : Int32} (h : nar .char c = c) : fits .char (.int c) = true := by rw [← h]; exact fits_nar_char c
def own_term (c : Int32) : Int32 := if c = 10 then 1 else if c = 13 then 1 else 0
def own_low (c : Int32) : Int32 := if c < 56320 then 0 else if c < 57344 then 1 else 0
def own_high (c : Int32) : Int32 := if c < 55296 then 0 else if c < 56320 then 1 else 0
def own_ends (c q : Int32) : Int32 := if c = 13 then 1 else if q = 13 then 0 else 1
def own_step (c p : Int32) (ln : Int64) : Int64 := if own_term c = 0 then ln else if own_ends c p = 0 then ln else ln + 1
def own_st (c i s : Int32) : Int32 := if own_term c = 0 then s else i
def own_colf (k s : Int32) : Int64 := 1 + k.toInt64 - s.toInt64
theorem own_sA {c p : Int32} {z w : Int64} (h : own_term c = 0) (q : z = w) : z = own_step c p w := by unfold own_step; rw [if_pos h]; exact q
theorem own_sB {c p : Int32} {z w : Int64} (h : ¬ own_term c = 0) (g : own_ends c p = 0) (q : z = w) : z = own_step c p w := by unfold own_step; rw [if_neg h, if_pos g]; exact q
theorem own_sC {c p : Int32} {z w : Int64} (h : ¬ own_term c = 0) (g : ¬ own_ends c p = 0) (q : z = w) : z + 1 = own_step c p w := by unfold own_step; rw [if_neg h, if_neg g, q]
theorem own_tA {c i s t : Int32} (h : own_term c = 0) (q : s = t) : own_st c i s = t := by unfold own_st; rw [if_pos h]; exact q
theorem own_tB {c i s : Int32} (h : ¬ own_term c = 0) : own_st c i s = i := by unfold own_st; rw [if_neg h]
theorem own_term_gt {c : Int32} (h : 13 < c) : own_term c = 0 := by
  have h1 : ¬ c = 10 := fun q => by rw [q] at h; exact absurd h (by decide)
  have h2 : ¬ c = 13 := fun q => by rw [q] at h; exact absurd h (by decide)
  simp [own_term, h1, h2]
theorem own_lowt {c : Int32} (h : ¬ 255 < c) : c < 56320 := by
  rw [Int32.lt_iff_toInt_lt] at *
  have z1 : (255 : Int32).toInt = 255 := rfl
  have z2 : (56320 : Int32).toInt = 56320 := rfl
  omega
theorem own_bnd {c : Int32} (h : nar .char c = c) : 0 ≤ c.toInt := by
  have q := own_fit h
  simp only [fits, Bool.and_eq_true, decide_eq_true_eq] at q
  have := q.1
  rw [Int32.le_iff_toInt_le] at this
  exact this
theorem own_back {c : Int32} (h : nar .char c = c) (h' : ¬ 255 < c) : nar .char (((nar .byte (c.toInt8.toInt32)) &&& 255).toUInt32.toUInt16.toUInt32.toInt32) = c := by
  have b := own_bnd h
  rw [Int32.lt_iff_toInt_lt] at h'
  have z1 : (255 : Int32).toInt = 255 := rfl
  obtain ⟨n, hn, rfl⟩ : ∃ n : Nat, n ≤ 255 ∧ c = Int32.ofNat n := ⟨c.toInt.toNat, by omega, by rw [← Int32.toInt_inj, Int32.toInt_ofNat_of_lt (by omega)]; omega⟩
  have key : ∀ m : Fin 256, nar .char (((nar .byte ((Int32.ofNat m.val).toInt8.toInt32)) &&& 255).toUInt32.toUInt16.toUInt32.toInt32) = Int32.ofNat m.val := by decide +kernel
  exact key ⟨n, by omega⟩
theorem own_pn0 : plainName "gleanwell/Position" = true := by first | (simp [plainName, overriddenIn]; done) | decide +kernel
def D9 : List (Nat × Instr × Nat) := [(0, .aload_n 0, 1), (1, .invokespecial 1, 3), (4, .aload_n 0, 1), (5, .lconst 1, 1), (6, .putfield 7, 3), (9, .aload_n 0, 1), (10, .lconst 1, 1), (11, .putfield 13, 3), (14, .return_, 1)]
theorem D9_ok : ∀ x ∈ D9, decode prog_33_method_1_code x.1 = .ok x.2 := by decide +kernel
set_option maxRecDepth 65536 in
set_option maxHeartbeats 40000000 in
theorem rm9 {l : Launch} {Z : State} {a0 : Array Value} (hw : ∀ d ∈ tables_1, d.before a0 Z = true) (a : Addr) (u1 u2 : Value) (h0 : Heap) (n0 : Nat) (Z0 : n0 ≤ h0.size) (g_a : n0 ≤ a) (E_a : Exa Z h0 a "gleanwell/Position") (F_ln : Fld Z h0 a "gleanwell/Position" "line" "J" u1) (F_co : Fld Z h0 a "gleanwell/Position" "column" "J" u2) (F_la : Fld Z h0 a "gleanwell/Position" "last" "C" (.int 0)) :
  OwnMet l Z (⟨"gleanwell/Position", "<init>", "()V"⟩ : MethodName) prog_33_method_1_code 1 none [] (⟨1, 0, 0, 12⟩ : Room) [(.ref a)] h0 (fun v h L => v = none ∧ Fr n0 L ∧ Keep h0 h [a] ∧ Exa Z h a "gleanwell/Position" ∧ Fld Z h a "gleanwell/Position" "line" "J" (.long 1) ∧ Fld Z h a "gleanwell/Position" "column" "J" (.long 1) ∧ Fld Z h a "gleanwell/Position" "last" "C" (.int 0)) := by
 refine own_body (Ls := #[A a]) (plainFor_of_name own_pn0) (fun m => by first | (simp [entryFrame, mkF, argsToLocals, Value.category]; done) | rfl) (fun p e s m below meth cO T0 hx hby hml hown hnm hret hlk hZ X0 e0 => ?_)
 have hown : s.vm.findClass "gleanwell/Position" = some m.cls := hown
 have B {q r} (i : Nat) := own_B (q := q) (r := r) hby D9_ok i
 have W {d : Jvm.Cond} (i : Nat) (h : tables_1[i]? = some d) : d.before a0 Z = true := own_w hw i h
 have M {n : Nat} (h : n = _) : n = cO.maxLocals := h.trans hml.symm
 have N0 := Fr.nil n0
 have K0 := Keep.refl h0 [a]
 refine ga X0 hx 1 (B 0 rfl) rfl rfl rfl ?_
 refine g_initO X0 hx 4 hZ hown (W 47 rfl) (W 19 rfl) (W 20 rfl) e0 (by rw [hml]; rfl) (B 1 rfl) (by decide) 0 (Nat.le_of_eq rfl) (by decide) rfl (fun T1 X1 e1 => ?_)
 refine ga X1 hx 5 (B 2 rfl) rfl rfl rfl ?_
 refine g_lconst X1 hx 6 (1 : Int64) (B 3 rfl) (by decide) rfl ?_
 refine gP X1 hx 9 hZ hown (host := "") (Or.inl (W 48 rfl)) Via.refl e1 F_ln E_a (Or.inl (W 49 rfl)) (W 42 rfl) (ty := .long) (by decide) rfl rfl (B 4 rfl) rfl (fun T2 h2 X2 e2 W2 => ?_)
 have E_a := E_a.wr W2
 have F_ln := F_ln.same W2
 have F_co := F_co.other W2 (Or.inr (sn0 hw))
 have F_la := F_la.other W2 (Or.inr (sn1 hw))
 have N2 := Fr.snoc X2 N0 g_a
 have Z2 : n0 ≤ h2.size := by rw [W2.size]; exact Z0
 have K2 := K0.wr W2 (Or.inl (List.mem_of_getElem? (i := 0) rfl))
 refine ga X2 hx 10 (B 5 rfl) rfl rfl rfl ?_
 refine g_lconst X2 hx 11 (1 : Int64) (B 6 rfl) (by decide) rfl ?_
 refine gP X2 hx 14 hZ hown (host := "") (Or.inl (W 50 rfl)) Via.refl e2 F_co E_a (Or.inl (W 51 rfl)) (W 42 rfl) (ty := .long) (by decide) rfl rfl (B 7 rfl) rfl (fun T3 h3 X3 e3 W3 => ?_)
 have E_a := E_a.wr W3
 have F_ln := F_ln.other W3 (Or.inr (sn2 hw))
 have F_co := F_co.same W3
 have F_la := F_la.other W3 (Or.inr (sn3 hw))
 have N3 := Fr.snoc X3 N2 g_a
 have Z3 : n0 ≤ h3.size := by rw [W3.size]; exact Z2
 have K3 := K2.wr W3 (Or.inl (List.mem_of_getElem? (i := 0) rfl))
 exact g_retV X3 hx hret hlk (B 8 rfl) (by decide) (by decide) (by rw [e3]; exact ⟨rfl, N3, K3, E_a, F_ln, F_co, F_la⟩)
def D25 : List (Nat × Instr × Nat) := [(0, .iload_n 0, 1), (1, .bipush 10, 2), (3, .if_icmp .eq 9, 3), (12, .iconst 1, 1), (13, .goto 4, 3), (17, .ireturn, 1), (6, .iload_n 0, 1), (7, .bipush 13, 2), (9, .if_icmp .ne 7, 3), (16, .iconst 0, 1)]
theorem D25_ok : ∀ x ∈ D25, decode prog_33_method_4_code x.1 = .ok x.2 := by decide +kernel
set_option maxRecDepth 65536 in
set_option maxHeartbeats 40000000 in
theorem rm25 {l : Launch} {Z : State} {a0 : Array Value} (hw : ∀ d ∈ tables_1, d.before a0 Z = true) (c : Int32) (h0 : Heap) (n0 : Nat) (Z0 : n0 ≤ h0.size)  :
  OwnMet l Z (⟨"gleanwell/Position", "isTerminator", "(C)Z"⟩ : MethodName) prog_33_method_4_code 1 (some .boolean) [] (⟨0, 0, 0, 0⟩ : Room) [(.int c)] h0 (fun v h L => v = some (.int (own_term c)) ∧ Fr n0 L ∧ h = h0) := by
 refine own_body (Ls := #[I c]) (plainFor_of_name own_pn0) (fun m => by first | (simp [entryFrame, mkF, argsToLocals, Value.category]; done) | rfl) (fun p e s m below meth cO T0 hx hby hml hown hnm hret hlk hZ X0 e0 => ?_)
 have hown : s.vm.findClass "gleanwell/Position" = some m.cls := hown
 have B {q r} (i : Nat) := own_B (q := q) (r := r) hby D25_ok i
 have W {d : Jvm.Cond} (i : Nat) (h : tables_1[i]? = some d) : d.before a0 Z = true := own_w hw i h
 have M {n : Nat} (h : n = _) : n = cO.maxLocals := h.trans hml.symm
 have N0 := Fr.nil n0
 refine gn X0 hx 1 (B 0 rfl) rfl rfl ?_
 refine gb X0 hx 3 10 (B 1 rfl) rfl rfl ?_
 by_cases hc1 : c = 10
 ·
  refine gT X0 hx 12 (B 2 rfl) (teq hc1).1 rfl ?_
  refine gk X0 hx 13 1 (B 3 rfl) rfl rfl ?_
  refine gg X0 hx 17 (B 4 rfl) rfl ?_
  exact g_retZ X0 hx hret hlk rfl (B 5 rfl) (by decide) (by decide) ⟨by unfold own_term; rw [if_pos hc1], N0, e0⟩
 ·
  refine gF X0 hx 6 (B 2 rfl) (feq hc1).1 rfl ?_
  refine gn X0 hx 7 (B 6 rfl) rfl rfl ?_
  refine gb X0 hx 9 13 (B 7 rfl) rfl rfl ?_
  by_cases hc2 : c = 13
  ·
   refine gF X0 hx 12 (B 8 rfl) (teq hc2).2 rfl ?_
   refine gk X0 hx 13 1 (B 3 rfl) rfl rfl ?_
   refine gg X0 hx 17 (B 4 rfl) rfl ?_
   exact g_retZ X0 hx hret hlk rfl (B 5 rfl) (by decide) (by decide) ⟨by unfold own_term; rw [if_neg hc1, if_pos hc2], N0, e0⟩
  ·
   refine gT X0 hx 16 (B 8 rfl) (feq hc2).2 rfl ?_
   refine gk X0 hx 17 0 (B 9 rfl) rfl rfl ?_
   exact g_retZ X0 hx hret hlk rfl (B 5 rfl) (by decide) (by decide) ⟨by unfold own_term; rw [if_neg hc1, if_neg hc2], N0, e0⟩
theorem own_pn1 : plainName "gleanwell/WindowMoveByPinLaw" = true := by first | (simp [plainName, overriddenIn]; done) | decide +kernel
def D21 : List (Nat × Instr × Nat) := [(0, .iload_n 0, 1), (1, .bipush 10, 2), (3, .if_icmp .eq 9, 3), (12, .iconst 1, 1), (13, .goto 4, 3), (17, .ireturn, 1), (6, .iload_n 0, 1), (7, .bipush 13, 2), (9, .if_icmp .ne 7, 3), (16, .iconst 0, 1)]
theorem D21_ok : ∀ x ∈ D21, decode method_3_code x.1 = .ok x.2 := by decide +kernel
set_option maxRecDepth 65536 in
set_option maxHeartbeats 40000000 in
theorem rm21 {l : Launch} {Z : State} {a0 : Array Value} (hw : ∀ d ∈ tables_1, d.before a0 Z = true) (c : Int32) (h0 : Heap) (n0 : Nat) (Z0 : n0 ≤ h0.size)  :
  OwnMet l Z (⟨"gleanwell/WindowMoveByPinLaw", "isT", "(C)Z"⟩ : MethodName) method_3_code 1 (some .boolean) [] (⟨0, 0, 0, 0⟩ : Room) [(.int c)] h0 (fun v h L => v = some (.int (own_term c)) ∧ Fr n0 L ∧ h = h0) := by
 refine own_body (Ls := #[I c]) (plainFor_of_name own_pn1) (fun m => by first | (simp [entryFrame, mkF, argsToLocals, Value.category]; done) | rfl) (fun p e s m below meth cO T0 hx hby hml hown hnm hret hlk hZ X0 e0 => ?_)
 have hown : s.vm.findClass "gleanwell/WindowMoveByPinLaw" = some m.cls := hown
 have B {q r} (i : Nat) := own_B (q := q) (r := r) hby D21_ok i
 have W {d : Jvm.Cond} (i : Nat) (h : tables_1[i]? = some d) : d.before a0 Z = true := own_w hw i h
 have M {n : Nat} (h : n = _) : n = cO.maxLocals := h.trans hml.symm
 have N0 := Fr.nil n0
 refine gn X0 hx 1 (B 0 rfl) rfl rfl ?_
 refine gb X0 hx 3 10 (B 1 rfl) rfl rfl ?_
 by_cases hc1 : c = 10
 ·
  refine gT X0 hx 12 (B 2 rfl) (teq hc1).1 rfl ?_
  refine gk X0 hx 13 1 (B 3 rfl) rfl rfl ?_
  refine gg X0 hx 17 (B 4 rfl) rfl ?_
  exact g_retZ X0 hx hret hlk rfl (B 5 rfl) (by decide) (by decide) ⟨by unfold own_term; rw [if_pos hc1], N0, e0⟩
 ·
  refine gF X0 hx 6 (B 2 rfl) (feq hc1).1 rfl ?_
  refine gn X0 hx 7 (B 6 rfl) rfl rfl ?_
  refine gb X0 hx 9 13 (B 7 rfl) rfl rfl ?_
  by_cases hc2 : c = 13
  ·
   refine gF X0 hx 12 (B 8 rfl) (teq hc2).2 rfl ?_
   refine gk X0 hx 13 1 (B 3 rfl) rfl rfl ?_
   refine gg X0 hx 17 (B 4 rfl) rfl ?_
   exact g_retZ X0 hx hret hlk rfl (B 5 rfl) (by decide) (by decide) ⟨by unfold own_term; rw [if_neg hc1, if_pos hc2], N0, e0⟩
  ·
   refine gT X0 hx 16 (B 8 rfl) (feq hc2).2 rfl ?_
   refine gk X0 hx 17 0 (B 9 rfl) rfl rfl ?_
   exact g_retZ X0 hx hret hlk rfl (B 5 rfl) (by decide) (by decide) ⟨by unfold own_term; rw [if_neg hc1, if_neg hc2], N0, e0⟩
def D31 : List (Nat × Instr × Nat) := [(0, .iload_n 0, 1), (1, .bipush 13, 2), (3, .if_icmp .eq 9, 3), (12, .iconst 1, 1), (13, .goto 4, 3), (17, .ireturn, 1), (6, .iload_n 1, 1), (7, .bipush 13, 2), (9, .if_icmp .eq 7, 3), (16, .iconst 0, 1)]
theorem D31_ok : ∀ x ∈ D31, decode prog_33_method_5_code x.1 = .ok x.2 := by decide +kernel
set_option maxRecDepth 65536 in
set_option maxHeartbeats 40000000 in
theorem rm31 {l : Launch} {Z : State} {a0 : Array Value} (hw : ∀ d ∈ tables_1, d.before a0 Z = true) (c q : Int32) (h0 : Heap) (n0 : Nat) (Z0 : n0 ≤ h0.size)  :
  OwnMet l Z (⟨"gleanwell/Position", "endsLine", "(CC)Z"⟩ : MethodName) prog_33_method_5_code 2 (some .boolean) [] (⟨0, 0, 0, 0⟩ : Room) [(.int c), (.int q)] h0 (fun v h L => v = some (.int (own_ends c q)) ∧ Fr n0 L ∧ h = h0) := by
 refine own_body (Ls := #[I c, I q]) (plainFor_of_name own_pn0) (fun m => by first | (simp [entryFrame, mkF, argsToLocals, Value.category]; done) | rfl) (fun p e s m below meth cO T0 hx hby hml hown hnm hret hlk hZ X0 e0 => ?_)
 have hown : s.vm.findClass "gleanwell/Position" = some m.cls := hown
 have B {q r} (i : Nat) := own_B (q := q) (r := r) hby D31_ok i
 have W {d : Jvm.Cond} (i : Nat) (h : tables_1[i]? = some d) : d.before a0 Z = true := own_w hw i h
 have M {n : Nat} (h : n = _) : n = cO.maxLocals := h.trans hml.symm
 have N0 := Fr.nil n0
 refine gn X0 hx 1 (B 0 rfl) rfl rfl ?_
 refine gb X0 hx 3 13 (B 1 rfl) rfl rfl ?_
 by_cases hc1 : c = 13
 ·
  refine gT X0 hx 12 (B 2 rfl) (teq hc1).1 rfl ?_
  refine gk X0 hx 13 1 (B 3 rfl) rfl rfl ?_
  refine gg X0 hx 17 (B 4 rfl) rfl ?_
  exact g_retZ X0 hx hret hlk rfl (B 5 rfl) (by decide) (by decide) ⟨by unfold own_ends; rw [if_pos hc1], N0, e0⟩
 ·
  refine gF X0 hx 6 (B 2 rfl) (feq hc1).1 rfl ?_
  refine gn X0 hx 7 (B 6 rfl) rfl rfl ?_
  refine gb X0 hx 9 13 (B 7 rfl) rfl rfl ?_
  by_cases hc2 : q = 13
  ·
   refine gT X0 hx 16 (B 8 rfl) (teq hc2).1 rfl ?_
   refine gk X0 hx 17 0 (B 9 rfl) rfl rfl ?_
   exact g_retZ X0 hx hret hlk rfl (B 5 rfl) (by decide) (by decide) ⟨by unfold own_ends; rw [if_neg hc1, if_pos hc2], N0, e0⟩
  ·
   refine gF X0 hx 12 (B 8 rfl) (feq hc2).1 rfl ?_
   refine gk X0 hx 13 1 (B 3 rfl) rfl rfl ?_
   refine gg X0 hx 17 (B 4 rfl) rfl ?_
   exact g_retZ X0 hx hret hlk rfl (B 5 rfl) (by decide) (by decide) ⟨by unfold own_ends; rw [if_neg hc1, if_neg hc2], N0, e0⟩
theorem own_pn2 : plainName "java/lang/Character" = true := by first | (simp [plainName, overriddenIn]; done) | decide +kernel
def D26 : List (Nat × Instr × Nat) := [(0, .iload_n 0, 1), (1, .ldc 76, 2), (3, .if_icmp .lt 13, 3), (16, .iconst 0, 1), (17, .ireturn, 1)]
theorem D26_ok : ∀ x ∈ D26, decode jdk_89_method_15_code x.1 = .ok x.2 := by decide +kernel
set_option maxRecDepth 65536 in
set_option maxHeartbeats 40000000 in
theorem rm26 {l : Launch} {Z : State} {a0 : Array Value} (hw : ∀ d ∈ tables_1, d.before a0 Z = true) (c : Int32) (h0 : Heap) (n0 : Nat) (Z0 : n0 ≤ h0.size) (hc : ¬ 255 < c) :
  OwnMet l Z (⟨"java/lang/Character", "isLowSurrogate", "(C)Z"⟩ : MethodName) jdk_89_method_15_code 1 (some .boolean) [] (⟨0, 0, 0, 0⟩ : Room) [(.int c)] h0 (fun v h L => v = some (.int 0) ∧ Fr n0 L ∧ h = h0) := by
 refine own_body (Ls := #[I c]) (plainFor_of_name own_pn2) (fun m => by first | (simp [entryFrame, mkF, argsToLocals, Value.category]; done) | rfl) (fun p e s m below meth cO T0 hx hby hml hown hnm hret hlk hZ X0 e0 => ?_)
 have hown : s.vm.findClass "java/lang/Character" = some m.cls := hown
 have B {q r} (i : Nat) := own_B (q := q) (r := r) hby D26_ok i
 have W {d : Jvm.Cond} (i : Nat) (h : tables_1[i]? = some d) : d.before a0 Z = true := own_w hw i h
 have M {n : Nat} (h : n = _) : n = cO.maxLocals := h.trans hml.symm
 have N0 := Fr.nil n0
 refine gn X0 hx 1 (B 0 rfl) rfl rfl ?_
 refine g_ldcI X0 hx 3 hZ hown (W 141 rfl) (B 1 rfl) rfl ?_
 have hk1 : c < 56320 := own_lowt hc
 refine gT X0 hx 16 (B 2 rfl) (tlt hk1).1 rfl ?_
 refine gk X0 hx 17 0 (B 3 rfl) rfl rfl ?_
 exact g_retZ X0 hx hret hlk rfl (B 4 rfl) (by decide) (by decide) ⟨rfl, N0, e0⟩
def D28 : List (Nat × Instr × Nat) := [(0, .aload_n 0, 1), (1, .getfield 7, 3), (4, .lreturn, 1)]
theorem D28_ok : ∀ x ∈ D28, decode prog_33_method_2_code x.1 = .ok x.2 := by decide +kernel
set_option maxRecDepth 65536 in
set_option maxHeartbeats 40000000 in
theorem rm28 {l : Launch} {Z : State} {a0 : Array Value} (hw : ∀ d ∈ tables_1, d.before a0 Z = true) (a : Addr) (z : Int64) (h0 : Heap) (n0 : Nat) (Z0 : n0 ≤ h0.size) (F_a : Fld Z h0 a "gleanwell/Position" "line" "J" (.long z)) :
  OwnMet l Z (⟨"gleanwell/Position", "line", "()J"⟩ : MethodName) prog_33_method_2_code 1 (some .long) [] (⟨0, 0, 0, 0⟩ : Room) [(.ref a)] h0 (fun v h L => v = some (.long z) ∧ Fr n0 L ∧ h = h0) := by
 refine own_body (Ls := #[A a]) (plainFor_of_name own_pn0) (fun m => by first | (simp [entryFrame, mkF, argsToLocals, Value.category]; done) | rfl) (fun p e s m below meth cO T0 hx hby hml hown hnm hret hlk hZ X0 e0 => ?_)
 have hown : s.vm.findClass "gleanwell/Position" = some m.cls := hown
 have B {q r} (i : Nat) := own_B (q := q) (r := r) hby D28_ok i
 have W {d : Jvm.Cond} (i : Nat) (h : tables_1[i]? = some d) : d.before a0 Z = true := own_w hw i h
 have M {n : Nat} (h : n = _) : n = cO.maxLocals := h.trans hml.symm
 have N0 := Fr.nil n0
 refine ga X0 hx 1 (B 0 rfl) rfl rfl rfl ?_
 refine gG X0 hx 4 hZ hown (host := "") (Or.inl (W 48 rfl)) Via.refl e0 F_a (B 1 rfl) rfl (fun T1 X1 e1 => ?_)
 exact g_retJ X1 hx hret hlk (B 2 rfl) (by decide) (by decide) ⟨rfl, N0, e1⟩
def D29 : List (Nat × Instr × Nat) := [(0, .aload_n 0, 1), (1, .getfield 13, 3), (4, .lreturn, 1)]
theorem D29_ok : ∀ x ∈ D29, decode prog_33_method_3_code x.1 = .ok x.2 := by decide +kernel
set_option maxRecDepth 65536 in
set_option maxHeartbeats 40000000 in
theorem rm29 {l : Launch} {Z : State} {a0 : Array Value} (hw : ∀ d ∈ tables_1, d.before a0 Z = true) (a : Addr) (z : Int64) (h0 : Heap) (n0 : Nat) (Z0 : n0 ≤ h0.size) (F_a : Fld Z h0 a "gleanwell/Position" "column" "J" (.long z)) :
  OwnMet l Z (⟨"gleanwell/Position", "column", "()J"⟩ : MethodName) prog_33_method_3_code 1 (some .long) [] (⟨0, 0, 0, 0⟩ : Room) [(.ref a)] h0 (fun v h L => v = some (.long z) ∧ Fr n0 L ∧ h = h0) := by
 refine own_body (Ls := #[A a]) (plainFor_of_name own_pn0) (fun m => by first | (simp [entryFrame, mkF, argsToLocals, Value.category]; done) | rfl) (fun p e s m below meth cO T0 hx hby hml hown hnm hret hlk hZ X0 e0 => ?_)
 have hown : s.vm.findClass "gleanwell/Position" = some m.cls := hown
 have B {q r} (i : Nat) := own_B (q := q) (r := r) hby D29_ok i
 have W {d : Jvm.Cond} (i : Nat) (h : tables_1[i]? = some d) : d.before a0 Z = true := own_w hw i h
 have M {n : Nat} (h : n = _) : n = cO.maxLocals := h.trans hml.symm
 have N0 := Fr.nil n0
 refine ga X0 hx 1 (B 0 rfl) rfl rfl rfl ?_
 refine gG X0 hx 4 hZ hown (host := "") (Or.inl (W 50 rfl)) Via.refl e0 F_a (B 1 rfl) rfl (fun T1 X1 e1 => ?_)
 exact g_retJ X1 hx hret hlk (B 2 rfl) (by decide) (by decide) ⟨rfl, N0, e1⟩
def D33 : List (Nat × Instr × Nat) := [(0, .aload_n 0, 1), (1, .dup, 1), (2, .getfield 7, 3), (5, .lload_n 1, 1), (6, .ladd, 1), (7, .putfield 7, 3), (10, .aload_n 0, 1), (11, .lconst 1, 1), (12, .putfield 13, 3), (15, .aload_n 0, 1), (16, .iload_n 3, 1), (17, .putfield 16, 3), (20, .return_, 1)]
theorem D33_ok : ∀ x ∈ D33, decode prog_33_method_7_code x.1 = .ok x.2 := by decide +kernel
set_option maxRecDepth 65536 in
set_option maxHeartbeats 40000000 in
theorem rm33 {l : Launch} {Z : State} {a0 : Array Value} (hw : ∀ d ∈ tables_1, d.before a0 Z = true) (a : Addr) (n ln : Int64) (t : Int32) (u2 u3 : Value) (h0 : Heap) (n0 : Nat) (Z0 : n0 ≤ h0.size) (g_a : n0 ≤ a) (ht : nar .char t = t) (E_a : Exa Z h0 a "gleanwell/Position") (F_ln : Fld Z h0 a "gleanwell/Position" "line" "J" (.long ln)) (F_co : Fld Z h0 a "gleanwell/Position" "column" "J" u2) (F_la : Fld Z h0 a "gleanwell/Position" "last" "C" u3) :
  OwnMet l Z (⟨"gleanwell/Position", "beginLine", "(JC)V"⟩ : MethodName) prog_33_method_7_code 4 none [] (⟨0, 0, 0, 0⟩ : Room) [(.ref a), (.long n), (.int t)] h0 (fun v h L => v = none ∧ Fr n0 L ∧ Keep h0 h [a] ∧ Exa Z h a "gleanwell/Position" ∧ Fld Z h a "gleanwell/Position" "line" "J" (.long (ln + n)) ∧ Fld Z h a "gleanwell/Position" "column" "J" (.long 1) ∧ Fld Z h a "gleanwell/Position" "last" "C" (.int t)) := by
 refine own_body (Ls := #[A a, J n, E2, I t]) (plainFor_of_name own_pn0) (fun m => by first | (simp [entryFrame, mkF, argsToLocals, Value.category]; done) | rfl) (fun p e s m below meth cO T0 hx hby hml hown hnm hret hlk hZ X0 e0 => ?_)
 have hown : s.vm.findClass "gleanwell/Position" = some m.cls := hown
 have B {q r} (i : Nat) := own_B (q := q) (r := r) hby D33_ok i
 have W {d : Jvm.Cond} (i : Nat) (h : tables_1[i]? = some d) : d.before a0 Z = true := own_w hw i h
 have w42 := W 42 rfl
 have M {n : Nat} (h : n = _) : n = cO.maxLocals := h.trans hml.symm
 have N0 := Fr.nil n0
 have K0 := Keep.refl h0 [a]
 refine ga X0 hx 1 (B 0 rfl) rfl rfl rfl ?_
 refine g_dup X0 hx 2 (B 1 rfl) rfl rfl ?_
 refine gG X0 hx 5 hZ hown (host := "") (Or.inl (W 48 rfl)) Via.refl e0 F_ln (B 2 rfl) rfl (fun T1 X1 e1 => ?_)
 refine g_lloadN X1 hx 6 (B 3 rfl) rfl rfl ?_
 refine g_ladd X1 hx 7 (ln + n) (B 4 rfl) rfl rfl ?_
 refine gP X1 hx 10 hZ hown (host := "") (Or.inl (W 48 rfl)) Via.refl e1 F_ln E_a (Or.inl (W 49 rfl)) w42 (ty := .long) (by decide) rfl rfl (B 5 rfl) rfl (fun T2 h2 X2 e2 W2 => ?_)
 have E_a := E_a.wr W2
 have F_ln := F_ln.same W2
 have F_co := F_co.other W2 (Or.inr (sn0 hw))
 have F_la := F_la.other W2 (Or.inr (sn1 hw))
 have N2 := Fr.snoc X2 N0 g_a
 have Z2 : n0 ≤ h2.size := by rw [W2.size]; exact Z0
 have K2 := K0.wr W2 (Or.inl (List.mem_of_getElem? (i := 0) rfl))
 refine ga X2 hx 11 (B 6 rfl) rfl rfl rfl ?_
 refine g_lconst X2 hx 12 (1 : Int64) (B 7 rfl) (by decide) rfl ?_
 refine gP X2 hx 15 hZ hown (host := "") (Or.inl (W 50 rfl)) Via.refl e2 F_co E_a (Or.inl (W 51 rfl)) w42 (ty := .long) (by decide) rfl rfl (B 8 rfl) rfl (fun T3 h3 X3 e3 W3 => ?_)
 have E_a := E_a.wr W3
 have F_ln := F_ln.other W3 (Or.inr (sn2 hw))
 have F_co := F_co.same W3
 have F_la := F_la.other W3 (Or.inr (sn3 hw))
 have N3 := Fr.snoc X3 N2 g_a
 have Z3 : n0 ≤ h3.size := by rw [W3.size]; exact Z2
 have K3 := K2.wr W3 (Or.inl (List.mem_of_getElem? (i := 0) rfl))
 refine ga X3 hx 16 (B 9 rfl) rfl rfl rfl ?_
 refine gn X3 hx 17 (B 10 rfl) rfl rfl ?_
 refine gP X3 hx 20 hZ hown (host := "") (Or.inl (W 142 rfl)) Via.refl e3 F_la E_a (Or.inl (W 143 rfl)) w42 (ty := .char) (by decide) (own_nrw ht) (own_fit ht) (B 11 rfl) rfl (fun T4 h4 X4 e4 W4 => ?_)
 have E_a := E_a.wr W4
 have F_ln := F_ln.other W4 (Or.inr (sn4 hw))
 have F_co := F_co.other W4 (Or.inr (sn5 hw))
 have F_la := F_la.same W4
 have N4 := Fr.snoc X4 N3 g_a
 have Z4 : n0 ≤ h4.size := by rw [W4.size]; exact Z3
 have K4 := K3.wr W4 (Or.inl (List.mem_of_getElem? (i := 0) rfl))
 exact g_retV X4 hx hret hlk (B 12 rfl) (by decide) (by decide) (by rw [e4]; exact ⟨rfl, N4, K4, E_a, F_ln, F_co, F_la⟩)
def D30 : List (Nat × Instr × Nat) := [(0, .iload_n 3, 1), (1, .iload_n 2, 1), (2, .if_icmp .le 11, 3), (13, .aload_n 0, 1), (14, .getfield 16, 3), (17, .ireturn, 1), (5, .aload_n 1, 1), (6, .iload_n 3, 1), (7, .iconst 1, 1), (8, .isub, 1), (9, .caload, 1), (10, .goto 7, 3)]
theorem D30_ok : ∀ x ∈ D30, decode prog_33_method_10_code x.1 = .ok x.2 := by decide +kernel
set_option maxRecDepth 65536 in
set_option maxHeartbeats 40000000 in
theorem rb_0 {l : Launch} {Z : State} {a0 : Array Value} (hw : ∀ d ∈ tables_1, d.before a0 Z = true) (a b : Addr) (la : Int32) (c0 c1 c2 c3 : Int32) (kA : ClassId) (h0 : Heap) (n0 : Nat) (Z0 : n0 ≤ h0.size) (F_la : Fld Z h0 a "gleanwell/Position" "last" "C" (.int la)) (V_b : Arv Z h0 b kA .char (5 : Int32) [(.int c0), (.int c1), (.int c2), (.int c3), (.int 0)] (.int 0)) (hr : nar .char la = la) :
  OwnMet l Z (⟨"gleanwell/Position", "before", "([CII)C"⟩ : MethodName) prog_33_method_10_code 4 (some .char) [] (⟨0, 0, 0, 0⟩ : Room) [(.ref a), (.ref b), (.int 0), (.int 0)] h0 (fun v h L => v = some (.int la) ∧ Fr n0 L ∧ h = h0) := by
 refine own_body (Ls := #[A a, A b, I 0, I 0]) (plainFor_of_name own_pn0) (fun m => by first | (simp [entryFrame, mkF, argsToLocals, Value.category]; done) | rfl) (fun p e s m below meth cO T0 hx hby hml hown hnm hret hlk hZ X0 e0 => ?_)
 have hown : s.vm.findClass "gleanwell/Position" = some m.cls := hown
 have B {q r} (i : Nat) := own_B (q := q) (r := r) hby D30_ok i
 have W {d : Jvm.Cond} (i : Nat) (h : tables_1[i]? = some d) : d.before a0 Z = true := own_w hw i h
 have M {n : Nat} (h : n = _) : n = cO.maxLocals := h.trans hml.symm
 have N0 := Fr.nil n0
 refine gn X0 hx 1 (B 0 rfl) rfl rfl ?_
 refine gn X0 hx 2 (B 1 rfl) rfl rfl ?_
 refine gT X0 hx 13 (B 2 rfl) (by decide) rfl ?_
 refine ga X0 hx 14 (B 3 rfl) rfl rfl rfl ?_
 refine gG X0 hx 17 hZ hown (host := "") (Or.inl (W 142 rfl)) Via.refl e0 F_la (B 4 rfl) rfl (fun T1 X1 e1 => ?_)
 exact g_retC X1 hx hret hlk (own_nrw hr) (B 5 rfl) (by decide) (by decide) ⟨rfl, N0, e1⟩
set_option maxRecDepth 65536 in
set_option maxHeartbeats 40000000 in
theorem rb_1 {l : Launch} {Z : State} {a0 : Array Value} (hw : ∀ d ∈ tables_1, d.before a0 Z = true) (a b : Addr) (la : Int32) (c0 c1 c2 c3 : Int32) (kA : ClassId) (h0 : Heap) (n0 : Nat) (Z0 : n0 ≤ h0.size) (F_la : Fld Z h0 a "gleanwell/Position" "last" "C" (.int la)) (V_b : Arv Z h0 b kA .char (5 : Int32) [(.int c0), (.int c1), (.int c2), (.int c3), (.int 0)] (.int 0)) (hr : nar .char c0 = c0) :
  OwnMet l Z (⟨"gleanwell/Position", "before", "([CII)C"⟩ : MethodName) prog_33_method_10_code 4 (some .char) [] (⟨0, 0, 0, 0⟩ : Room) [(.ref a), (.ref b), (.int 0), (.int 1)] h0 (fun v h L => v = some (.int c0) ∧ Fr n0 L ∧ h = h0) := by
 refine own_body (Ls := #[A a, A b, I 0, I 1]) (plainFor_of_name own_pn0) (fun m => by first | (simp [entryFrame, mkF, argsToLocals, Value.category]; done) | rfl) (fun p e s m below meth cO T0 hx hby hml hown hnm hret hlk hZ X0 e0 => ?_)
 have hown : s.vm.findClass "gleanwell/Position" = some m.cls := hown
 have B {q r} (i : Nat) := own_B (q := q) (r := r) hby D30_ok i
 have W {d : Jvm.Cond} (i : Nat) (h : tables_1[i]? = some d) : d.before a0 Z = true := own_w hw i h
 have M {n : Nat} (h : n = _) : n = cO.maxLocals := h.trans hml.symm
 have N0 := Fr.nil n0
 refine gn X0 hx 1 (B 0 rfl) rfl rfl ?_
 refine gn X0 hx 2 (B 1 rfl) rfl rfl ?_
 refine gF X0 hx 5 (B 2 rfl) (by decide) rfl ?_
 refine ga X0 hx 6 (B 6 rfl) rfl rfl rfl ?_
 refine gn X0 hx 7 (B 7 rfl) rfl rfl ?_
 refine gk X0 hx 8 1 (B 8 rfl) rfl rfl ?_
 refine gm X0 hx 9 (0 : Int32) (B 9 rfl) (by decide) rfl ?_
 refine gc X0 hx 10 hZ e0 V_b c0 rfl rfl (B 10 rfl) rfl ?_
 refine gg X0 hx 17 (B 11 rfl) rfl ?_
 exact g_retC X0 hx hret hlk (own_nrw hr) (B 5 rfl) (by decide) (by decide) ⟨rfl, N0, e0⟩
set_option maxRecDepth 65536 in
set_option maxHeartbeats 40000000 in
theorem rb_2 {l : Launch} {Z : State} {a0 : Array Value} (hw : ∀ d ∈ tables_1, d.before a0 Z = true) (a b : Addr) (la : Int32) (c0 c1 c2 c3 : Int32) (kA : ClassId) (h0 : Heap) (n0 : Nat) (Z0 : n0 ≤ h0.size) (F_la : Fld Z h0 a "gleanwell/Position" "last" "C" (.int la)) (V_b : Arv Z h0 b kA .char (5 : Int32) [(.int c0), (.int c1), (.int c2), (.int c3), (.int 0)] (.int 0)) (hr : nar .char c1 = c1) :
  OwnMet l Z (⟨"gleanwell/Position", "before", "([CII)C"⟩ : MethodName) prog_33_method_10_code 4 (some .char) [] (⟨0, 0, 0, 0⟩ : Room) [(.ref a), (.ref b), (.int 0), (.int 2)] h0 (fun v h L => v = some (.int c1) ∧ Fr n0 L ∧ h = h0) := by
 refine own_body (Ls := #[A a, A b, I 0, I 2]) (plainFor_of_name own_pn0) (fun m => by first | (simp [entryFrame, mkF, argsToLocals, Value.category]; done) | rfl) (fun p e s m below meth cO T0 hx hby hml hown hnm hret hlk hZ X0 e0 => ?_)
 have hown : s.vm.findClass "gleanwell/Position" = some m.cls := hown
 have B {q r} (i : Nat) := own_B (q := q) (r := r) hby D30_ok i
 have W {d : Jvm.Cond} (i : Nat) (h : tables_1[i]? = some d) : d.before a0 Z = true := own_w hw i h
 have M {n : Nat} (h : n = _) : n = cO.maxLocals := h.trans hml.symm
 have N0 := Fr.nil n0
 refine gn X0 hx 1 (B 0 rfl) rfl rfl ?_
 refine gn X0 hx 2 (B 1 rfl) rfl rfl ?_
 refine gF X0 hx 5 (B 2 rfl) (by decide) rfl ?_
 refine ga X0 hx 6 (B 6 rfl) rfl rfl rfl ?_
 refine gn X0 hx 7 (B 7 rfl) rfl rfl ?_
 refine gk X0 hx 8 1 (B 8 rfl) rfl rfl ?_
 refine gm X0 hx 9 (1 : Int32) (B 9 rfl) (by decide) rfl ?_
 refine gc X0 hx 10 hZ e0 V_b c1 rfl rfl (B 10 rfl) rfl ?_
 refine gg X0 hx 17 (B 11 rfl) rfl ?_
 exact g_retC X0 hx hret hlk (own_nrw hr) (B 5 rfl) (by decide) (by decide) ⟨rfl, N0, e0⟩
set_option maxRecDepth 65536 in
set_option maxHeartbeats 40000000 in
theorem rb_3 {l : Launch} {Z : State} {a0 : Array Value} (hw : ∀ d ∈ tables_1, d.before a0 Z = true) (a b : Addr) (la : Int32) (c0 c1 c2 c3 : Int32) (kA : ClassId) (h0 : Heap) (n0 : Nat) (Z0 : n0 ≤ h0.size) (F_la : Fld Z h0 a "gleanwell/Position" "last" "C" (.int la)) (V_b : Arv Z h0 b kA .char (5 : Int32) [(.int c0), (.int c1), (.int c2), (.int c3), (.int 0)] (.int 0)) (hr : nar .char c2 = c2) :
  OwnMet l Z (⟨"gleanwell/Position", "before", "([CII)C"⟩ : MethodName) prog_33_method_10_code 4 (some .char) [] (⟨0, 0, 0, 0⟩ : Room) [(.ref a), (.ref b), (.int 0), (.int 3)] h0 (fun v h L => v = some (.int c2) ∧ Fr n0 L ∧ h = h0) := by
 refine own_body (Ls := #[A a, A b, I 0, I 3]) (plainFor_of_name own_pn0) (fun m => by first | (simp [entryFrame, mkF, argsToLocals, Value.category]; done) | rfl) (fun p e s m below meth cO T0 hx hby hml hown hnm hret hlk hZ X0 e0 => ?_)
 have hown : s.vm.findClass "gleanwell/Position" = some m.cls := hown
 have B {q r} (i : Nat) := own_B (q := q) (r := r) hby D30_ok i
 have W {d : Jvm.Cond} (i : Nat) (h : tables_1[i]? = some d) : d.before a0 Z = true := own_w hw i h
 have M {n : Nat} (h : n = _) : n = cO.maxLocals := h.trans hml.symm
 have N0 := Fr.nil n0
 refine gn X0 hx 1 (B 0 rfl) rfl rfl ?_
 refine gn X0 hx 2 (B 1 rfl) rfl rfl ?_
 refine gF X0 hx 5 (B 2 rfl) (by decide) rfl ?_
 refine ga X0 hx 6 (B 6 rfl) rfl rfl rfl ?_
 refine gn X0 hx 7 (B 7 rfl) rfl rfl ?_
 refine gk X0 hx 8 1 (B 8 rfl) rfl rfl ?_
 refine gm X0 hx 9 (2 : Int32) (B 9 rfl) (by decide) rfl ?_
 refine gc X0 hx 10 hZ e0 V_b c2 rfl rfl (B 10 rfl) rfl ?_
 refine gg X0 hx 17 (B 11 rfl) rfl ?_
 exact g_retC X0 hx hret hlk (own_nrw hr) (B 5 rfl) (by decide) (by decide) ⟨rfl, N0, e0⟩
def own_LL (kk c0 c1 c2 c3 : Int32) (ln0 : Int64) : Int64 := if kk = 1 then (own_step c0 (0 : Int32) ln0) else if kk = 2 then (own_step c1 c0 (own_step c0 (0 : Int32) ln0)) else if kk = 3 then (own_step c2 c1 (own_step c1 c0 (own_step c0 (0 : Int32) ln0))) else (own_step c3 c2 (own_step c2 c1 (own_step c1 c0 (own_step c0 (0 : Int32) ln0))))
def own_SS (kk c0 c1 c2 c3 : Int32) : Int32 := if kk = 1 then (own_st c0 (1 : Int32) (0 : Int32)) else if kk = 2 then (own_st c1 (2 : Int32) (own_st c0 (1 : Int32) (0 : Int32))) else if kk = 3 then (own_st c2 (3 : Int32) (own_st c1 (2 : Int32) (own_st c0 (1 : Int32) (0 : Int32)))) else (own_st c3 (4 : Int32) (own_st c2 (3 : Int32) (own_st c1 (2 : Int32) (own_st c0 (1 : Int32) (0 : Int32)))))
def own_CC (kk c0 c1 c2 c3 : Int32) : Int32 := if kk = 1 then c0 else if kk = 2 then c1 else if kk = 3 then c2 else c3
theorem own_eqk {i kk : Int32} (h1 : ¬ kk < i) (h2 : ¬ i < kk) : kk = i := by
  rw [Int32.lt_iff_toInt_lt] at h1 h2
  exact Int32.toInt_inj.mp (by omega)
theorem own_neq {i kk : Int32} (h : i < kk) : ¬ i = kk := by
  intro q; subst q; exact absurd h Int32.lt_irrefl
theorem own_lek {i kk j : Int32} (h : i < kk) (hj : j.toInt = i.toInt + 1) : ¬ kk < j := by
  rw [Int32.lt_iff_toInt_lt] at *
  omega
theorem own_k4 {kk : Int32} (h : ¬ 4 < kk) (h3 : 3 < kk) : kk = 4 := by
  rw [Int32.lt_iff_toInt_lt] at *
  have z3 : (3 : Int32).toInt = 3 := rfl
  have z4 : (4 : Int32).toInt = 4 := rfl
  exact Int32.toInt_inj.mp (by rw [z4]; omega)
section OwnRp
variable {l : Launch} {Z : State} {a0 : Array Value} {a b : Addr} {kk c0 c1 c2 c3 : Int32} {ln0 : Int64} {kA : ClassId} {h0 : Heap} {n0 : Nat} {p : Program} {e : Env} {s : State} {m : MethodId} {below : List Frame} {meth : Method} {cO : Code}
def rpC (l : Launch) (Z : State) (a0 : Array Value) (a b : Addr) (kk : Int32) (ln0 : Int64) (c0 c1 c2 c3 : Int32) (kA : ClassId) (h0 : Heap) (n0 : Nat) (p : Program) (s : State) (m : MethodId) (meth : Method) (cO : Code) : Prop := (∀ d ∈ tables_1, d.before a0 Z = true) ∧ n0 ≤ h0.size ∧ n0 ≤ a ∧ 0 < kk ∧ ¬ 4 < kk ∧ Exa Z h0 a "gleanwell/Position" ∧ Fld Z h0 a "gleanwell/Position" "line" "J" (.long ln0) ∧ Fld Z h0 a "gleanwell/Position" "column" "J" (.long 1) ∧ Fld Z h0 a "gleanwell/Position" "last" "C" (.int (0 : Int32)) ∧ Arv Z h0 b kA .char (5 : Int32) [(.int c0), (.int c1), (.int c2), (.int c3), (.int (0 : Int32))] (.int (0 : Int32)) ∧ nar .char c0 = c0 ∧ nar .char c1 = c1 ∧ nar .char c2 = c2 ∧ nar .char c3 = c3 ∧ ¬ 255 < c0 ∧ ¬ 255 < c1 ∧ ¬ 255 < c2 ∧ ¬ 255 < c3 ∧ a ≠ b ∧ p.tables.exec = Jvm.exec ∧ cO.code = prog_33_method_9_code ∧ cO.maxLocals = 11 ∧ s.vm.findClass "gleanwell/Position" = some m.cls ∧ meth.name = "pass" ∧ meth.sig.returnType = none ∧ meth.locks = false ∧ Z.Warmed39 s.vm
def D24 : List (Nat × Instr × Nat) := [(21, .iload 8, 2), (23, .iload_n 3, 1), (24, .if_icmp .ge 18, 3), (42, .iload 8, 2), (44, .iload_n 3, 1), (45, .if_icmp .ne 6, 3), (48, .goto 54, 3), (102, .iconst 0, 1), (103, .istore 9, 2), (105, .iload 6, 2), (107, .istore 10, 2), (109, .iload 10, 2), (111, .iload_n 3, 1), (112, .if_icmp .ge 36, 3), (148, .aload_n 0, 1), (149, .lload 4, 2), (151, .putfield 7, 3), (154, .aload_n 0, 1), (155, .iload 7, 2), (157, .ifCond .eq 7, 3), (160, .lconst 1, 1), (161, .goto 7, 3), (168, .iload_n 3, 1), (169, .iload 6, 2), (171, .isub, 1), (172, .i2l, 1), (173, .ladd, 1), (174, .iload 9, 2), (176, .i2l, 1), (177, .lsub, 1), (178, .putfield 13, 3), (181, .aload_n 0, 1), (182, .aload_n 1, 1), (183, .iload_n 3, 1), (184, .iconst 1, 1), (185, .isub, 1), (186, .caload, 1), (187, .putfield 16, 3), (190, .return_, 1), (115, .aload_n 1, 1), (116, .iload 10, 2), (118, .caload, 1), (119, .invokestatic 33, 3), (122, .ifCond .eq 20, 3), (142, .iinc 10 1, 3), (145, .goto (-36), 3), (164, .aload_n 0, 1), (165, .getfield 13, 3), (27, .aload_n 1, 1), (28, .iload 8, 2), (30, .caload, 1), (31, .bipush 13, 2), (33, .if_icmp .le 9, 3), (36, .iinc 8 1, 3), (39, .goto (-18), 3), (51, .aload_n 1, 1), (52, .iload 8, 2), (54, .caload, 1), (55, .istore 9, 2), (57, .iload 9, 2), (59, .invokestatic 21, 3), (62, .ifCond .eq 34, 3), (96, .iinc 8 1, 3), (99, .goto (-78), 3), (65, .iload 9, 2), (67, .aload_n 0, 1), (68, .aload_n 1, 1), (69, .iload_n 2, 1), (70, .iload 8, 2), (72, .invokevirtual 25, 3), (75, .invokestatic 29, 3), (78, .ifCond .eq 9, 3), (87, .iload 8, 2), (89, .iconst 1, 1), (90, .iadd, 1), (91, .istore 6, 2), (93, .iconst 1, 1), (94, .istore 7, 2), (81, .lload 4, 2), (83, .lconst 1, 1), (84, .ladd, 1), (85, .lstore 4, 2), (0, .iload_n 2, 1), (1, .iload_n 3, 1), (2, .if_icmp .lt 4, 3), (6, .aload_n 0, 1), (7, .getfield 7, 3), (10, .lstore 4, 2), (12, .iload_n 2, 1), (13, .istore 6, 2), (15, .iconst 0, 1), (16, .istore 7, 2), (18, .iload_n 2, 1), (19, .istore 8, 2), (5, .return_, 1)]
theorem D24_ok : ∀ x ∈ D24, decode prog_33_method_9_code x.1 = .ok x.2 := by decide +kernel
set_option maxRecDepth 65536 in
set_option maxHeartbeats 40000000 in
theorem t21_4_4z (hC : rpC l Z a0 a b kk ln0 c0 c1 c2 c3 kA h0 n0 p s m meth cO) (lnJ : Int64) (z9 : Int32) (TK : State) (locsJ : List Loc) (XJ : Stand p l e (⟨1, 0, 0, 24⟩ : Room) s m ([(.ref a), (.ref b), (.int 0), (.int kk)] : List Value).toArray below meth cO TK locsJ 0 0) (eJ : TK.heap = h0) (NJ : Fr n0 locsJ) (hL : lnJ = (own_step c3 c2 (own_step c2 c1 (own_step c1 c0 (own_step c0 0 ln0))))) (hS : (own_st c3 4 (own_st c2 3 (own_st c1 2 (own_st c0 1 (0 : Int32))))) = 4) (hi : ¬ kk < 4) :
  Go p e below (fun o t L => FrameEnd s o t L (⟨1, 0, 0, 24⟩ : Room).cells (⟨1, 0, 0, 24⟩ : Room).slots) (fun v h L => v = none ∧ Fr n0 L ∧ Keep h0 h [a] ∧ Exa Z h a "gleanwell/Position" ∧ Fld Z h a "gleanwell/Position" "line" "J" (.long (own_LL kk c0 c1 c2 c3 ln0)) ∧ Fld Z h a "gleanwell/Position" "column" "J" (.long (own_colf kk (own_SS kk c0 c1 c2 c3))) ∧ Fld Z h a "gleanwell/Position" "last" "C" (.int (own_CC kk c0 c1 c2 c3))) TK (mkF m 21 #[A a, A b, I 0, I kk, J lnJ, E2, I 4, I 1, I 4, I z9, U] []) := by
 obtain ⟨hw, Z0, g_a, hk1, hk4, E_a, F_ln, F_co, F_la, V_b, nc0, nc1, nc2, nc3, hc0, hc1, hc2, hc3, ne_a_b, hx, hby, hml, hown, hnm, hret, hlk, hZ⟩ := id hC
 have K0 := Keep.refl h0 [a]
 have hown : s.vm.findClass "gleanwell/Position" = some m.cls := hown
 have B {q r} (i : Nat) := own_B (q := q) (r := r) hby D24_ok i
 have W {d : Jvm.Cond} (i : Nat) (h : tables_1[i]? = some d) : d.before a0 Z = true := own_w hw i h
 have w42 := W 42 rfl
 have M {n : Nat} (h : n = _) : n = cO.maxLocals := h.trans hml.symm
 refine gl XJ hx 23 (B 0 rfl) rfl rfl ?_
 refine gn XJ hx 24 (B 1 rfl) rfl rfl ?_
 have hq4 : ¬ (4 : Int32) < kk := hk4
 obtain rfl : kk = 4 := own_eqk hi hq4
 refine gT XJ hx 42 (B 2 rfl) (by decide) rfl ?_
 refine gl XJ hx 44 (B 3 rfl) rfl rfl ?_
 refine gn XJ hx 45 (B 4 rfl) rfl rfl ?_
 refine gF XJ hx 48 (B 5 rfl) (by decide) rfl ?_
 refine gg XJ hx 102 (B 6 rfl) rfl ?_
 refine gk XJ hx 103 0 (B 7 rfl) rfl rfl ?_
 refine gs XJ hx 105 _ (B 8 rfl) rfl rfl ?_
 refine gl XJ hx 107 (B 9 rfl) rfl rfl ?_
 refine gs XJ hx 109 #[A a, A b, I 0, I 4, J lnJ, E2, I 4, I 1, I 4, I 0, I 4] (B 10 rfl) rfl rfl ?_
 refine gl XJ hx 111 (B 11 rfl) rfl rfl ?_
 refine gn XJ hx 112 (B 12 rfl) rfl rfl ?_
 refine gT XJ hx 148 (B 13 rfl) (by decide) rfl ?_
 refine ga XJ hx 149 (B 14 rfl) rfl rfl rfl ?_
 refine g_lload XJ hx 151 (B 15 rfl) rfl rfl ?_
 refine gP XJ hx 154 hZ hown (host := "") (Or.inl (W 48 rfl)) Via.refl eJ F_ln E_a (Or.inl (W 49 rfl)) w42 (ty := .long) (by decide) rfl rfl (B 16 rfl) rfl (fun T1 h1 X1 e1 W1 => ?_)
 have E_a := E_a.wr W1
 have F_ln := F_ln.same W1
 have F_co := F_co.other W1 (Or.inr (sn0 hw))
 have F_la := F_la.other W1 (Or.inr (sn1 hw))
 have V_b := V_b.other W1 (Ne.symm ne_a_b)
 have N1 := Fr.snoc X1 NJ g_a
 have Z1 : n0 ≤ h1.size := by rw [W1.size]; exact Z0
 have K1 := K0.wr W1 (Or.inl (List.mem_of_getElem? (i := 0) rfl))
 refine ga X1 hx 155 (B 17 rfl) rfl rfl rfl ?_
 refine gl X1 hx 157 (B 18 rfl) rfl rfl ?_
 refine gf X1 hx 160 (B 19 rfl) (by decide) rfl ?_
 refine g_lconst X1 hx 161 (1 : Int64) (B 20 rfl) (by decide) rfl ?_
 refine gg X1 hx 168 (B 21 rfl) rfl ?_
 refine gn X1 hx 169 (B 22 rfl) rfl rfl ?_
 refine gl X1 hx 171 (B 23 rfl) rfl rfl ?_
 refine gm X1 hx 172 (0 : Int32) (B 24 rfl) (by decide) rfl ?_
 refine gL X1 hx 173 (0 : Int64) (B 25 rfl) (by decide) rfl ?_
 refine g_ladd X1 hx 174 (1 : Int64) (B 26 rfl) (by decide) rfl ?_
 refine gl X1 hx 176 (B 27 rfl) rfl rfl ?_
 refine gL X1 hx 177 (0 : Int64) (B 28 rfl) (by decide) rfl ?_
 refine g_lsub X1 hx 178 (1 : Int64) (B 29 rfl) (by decide) rfl ?_
 refine gP X1 hx 181 hZ hown (host := "") (Or.inl (W 50 rfl)) Via.refl e1 F_co E_a (Or.inl (W 51 rfl)) w42 (ty := .long) (by decide) rfl rfl (B 30 rfl) rfl (fun T2 h2 X2 e2 W2 => ?_)
 have E_a := E_a.wr W2
 have F_ln := F_ln.other W2 (Or.inr (sn2 hw))
 have F_co := F_co.same W2
 have F_la := F_la.other W2 (Or.inr (sn3 hw))
 have V_b := V_b.other W2 (Ne.symm ne_a_b)
 have N2 := Fr.snoc X2 N1 g_a
 have Z2 : n0 ≤ h2.size := by rw [W2.size]; exact Z1
 have K2 := K1.wr W2 (Or.inl (List.mem_of_getElem? (i := 0) rfl))
 refine ga X2 hx 182 (B 31 rfl) rfl rfl rfl ?_
 refine ga X2 hx 183 (B 32 rfl) rfl rfl rfl ?_
 refine gn X2 hx 184 (B 33 rfl) rfl rfl ?_
 refine gk X2 hx 185 1 (B 34 rfl) rfl rfl ?_
 refine gm X2 hx 186 (3 : Int32) (B 35 rfl) (by decide) rfl ?_
 refine gc X2 hx 187 hZ e2 V_b c3 rfl rfl (B 36 rfl) rfl ?_
 refine gP X2 hx 190 hZ hown (host := "") (Or.inl (W 142 rfl)) Via.refl e2 F_la E_a (Or.inl (W 143 rfl)) w42 (ty := .char) (by decide) (own_nrw nc3) (own_fit nc3) (B 37 rfl) rfl (fun T3 h3 X3 e3 W3 => ?_)
 have E_a := E_a.wr W3
 have F_ln := F_ln.other W3 (Or.inr (sn4 hw))
 have F_co := F_co.other W3 (Or.inr (sn5 hw))
 have F_la := F_la.same W3
 have V_b := V_b.other W3 (Ne.symm ne_a_b)
 have N3 := Fr.snoc X3 N2 g_a
 have Z3 : n0 ≤ h3.size := by rw [W3.size]; exact Z2
 have K3 := K2.wr W3 (Or.inl (List.mem_of_getElem? (i := 0) rfl))
 exact g_retV X3 hx hret hlk (B 38 rfl) (by decide) (by decide) (by rw [e3, show own_LL (4 : Int32) c0 c1 c2 c3 ln0 = lnJ from hL.symm, show own_SS (4 : Int32) c0 c1 c2 c3 = 4 from hS, show own_colf (4 : Int32) (4 : Int32) = (1 : Int64) from by decide]; exact ⟨rfl, N3, K3, E_a, F_ln, F_co, F_la⟩)
theorem pd0 : parseMethodDescriptor "(C)Z" = some ⟨[.char], some .boolean⟩ := by decide +kernel
set_option maxRecDepth 65536 in
set_option maxHeartbeats 40000000 in
theorem t21_4_3z (hC : rpC l Z a0 a b kk ln0 c0 c1 c2 c3 kA h0 n0 p s m meth cO) (lnJ : Int64) (z9 : Int32) (TK : State) (locsJ : List Loc) (XJ : Stand p l e (⟨1, 0, 0, 24⟩ : Room) s m ([(.ref a), (.ref b), (.int 0), (.int kk)] : List Value).toArray below meth cO TK locsJ 0 0) (eJ : TK.heap = h0) (NJ : Fr n0 locsJ) (hL : lnJ = (own_step c3 c2 (own_step c2 c1 (own_step c1 c0 (own_step c0 0 ln0))))) (hS : (own_st c3 4 (own_st c2 3 (own_st c1 2 (own_st c0 1 (0 : Int32))))) = 3) (hi : ¬ kk < 4) :
  Go p e below (fun o t L => FrameEnd s o t L (⟨1, 0, 0, 24⟩ : Room).cells (⟨1, 0, 0, 24⟩ : Room).slots) (fun v h L => v = none ∧ Fr n0 L ∧ Keep h0 h [a] ∧ Exa Z h a "gleanwell/Position" ∧ Fld Z h a "gleanwell/Position" "line" "J" (.long (own_LL kk c0 c1 c2 c3 ln0)) ∧ Fld Z h a "gleanwell/Position" "column" "J" (.long (own_colf kk (own_SS kk c0 c1 c2 c3))) ∧ Fld Z h a "gleanwell/Position" "last" "C" (.int (own_CC kk c0 c1 c2 c3))) TK (mkF m 21 #[A a, A b, I 0, I kk, J lnJ, E2, I 3, I 1, I 4, I z9, U] []) := by
 obtain ⟨hw, Z0, g_a, hk1, hk4, E_a, F_ln, F_co, F_la, V_b, nc0, nc1, nc2, nc3, hc0, hc1, hc2, hc3, ne_a_b, hx, hby, hml, hown, hnm, hret, hlk, hZ⟩ := id hC
 have K0 := Keep.refl h0 [a]
 have hown : s.vm.findClass "gleanwell/Position" = some m.cls := hown
 have B {q r} (i : Nat) := own_B (q := q) (r := r) hby D24_ok i
 have W {d : Jvm.Cond} (i : Nat) (h : tables_1[i]? = some d) : d.before a0 Z = true := own_w hw i h
 have w42 := W 42 rfl
 have M {n : Nat} (h : n = _) : n = cO.maxLocals := h.trans hml.symm
 refine gl XJ hx 23 (B 0 rfl) rfl rfl ?_
 refine gn XJ hx 24 (B 1 rfl) rfl rfl ?_
 have hq4 : ¬ (4 : Int32) < kk := hk4
 obtain rfl : kk = 4 := own_eqk hi hq4
 refine gT XJ hx 42 (B 2 rfl) (by decide) rfl ?_
 refine gl XJ hx 44 (B 3 rfl) rfl rfl ?_
 refine gn XJ hx 45 (B 4 rfl) rfl rfl ?_
 refine gF XJ hx 48 (B 5 rfl) (by decide) rfl ?_
 refine gg XJ hx 102 (B 6 rfl) rfl ?_
 refine gk XJ hx 103 0 (B 7 rfl) rfl rfl ?_
 refine gs XJ hx 105 _ (B 8 rfl) rfl rfl ?_
 refine gl XJ hx 107 (B 9 rfl) rfl rfl ?_
 refine gs XJ hx 109 #[A a, A b, I 0, I 4, J lnJ, E2, I 3, I 1, I 4, I 0, I 3] (B 10 rfl) rfl rfl ?_
 refine gl XJ hx 111 (B 11 rfl) rfl rfl ?_
 refine gn XJ hx 112 (B 12 rfl) rfl rfl ?_
 refine gF XJ hx 115 (B 13 rfl) (by decide) rfl ?_
 refine ga XJ hx 116 (B 39 rfl) rfl rfl rfl ?_
 refine gl XJ hx 118 (B 40 rfl) rfl rfl ?_
 refine gc XJ hx 119 hZ eJ V_b c3 rfl rfl (B 41 rfl) rfl ?_
 refine gS XJ hx 122 hZ hown (W 137 rfl) (W 138 rfl) (W 139 rfl) (W 140 rfl) (by decide) [(.int c3)] [] (rm26 hw c3 h0 n0 Z0 hc3) eJ 0 rfl (M rfl) (lenOf pd0 rfl) (B 42 rfl) rfl rfl rfl (fun v T4 L X4 Y => ?_)
 obtain ⟨rfl, N4q, e4⟩ := Y
 have N4 := Fr.app NJ N4q
 refine gt X4 hx 142 (B 43 rfl) (by decide) rfl ?_
 refine gi X4 hx 145 (4 : Int32) _ (B 44 rfl) rfl (by decide) rfl rfl ?_
 refine gg X4 hx 109 (B 45 rfl) rfl ?_
 refine gl X4 hx 111 (B 11 rfl) rfl rfl ?_
 refine gn X4 hx 112 (B 12 rfl) rfl rfl ?_
 refine gT X4 hx 148 (B 13 rfl) (by decide) rfl ?_
 refine ga X4 hx 149 (B 14 rfl) rfl rfl rfl ?_
 refine g_lload X4 hx 151 (B 15 rfl) rfl rfl ?_
 refine gP X4 hx 154 hZ hown (host := "") (Or.inl (W 48 rfl)) Via.refl e4 F_ln E_a (Or.inl (W 49 rfl)) w42 (ty := .long) (by decide) rfl rfl (B 16 rfl) rfl (fun T5 h5 X5 e5 W5 => ?_)
 have E_a := E_a.wr W5
 have F_ln := F_ln.same W5
 have F_co := F_co.other W5 (Or.inr (sn0 hw))
 have F_la := F_la.other W5 (Or.inr (sn1 hw))
 have V_b := V_b.other W5 (Ne.symm ne_a_b)
 have N5 := Fr.snoc X5 N4 g_a
 have Z5 : n0 ≤ h5.size := by rw [W5.size]; exact Z0
 have K5 := K0.wr W5 (Or.inl (List.mem_of_getElem? (i := 0) rfl))
 refine ga X5 hx 155 (B 17 rfl) rfl rfl rfl ?_
 refine gl X5 hx 157 (B 18 rfl) rfl rfl ?_
 refine gf X5 hx 160 (B 19 rfl) (by decide) rfl ?_
 refine g_lconst X5 hx 161 (1 : Int64) (B 20 rfl) (by decide) rfl ?_
 refine gg X5 hx 168 (B 21 rfl) rfl ?_
 refine gn X5 hx 169 (B 22 rfl) rfl rfl ?_
 refine gl X5 hx 171 (B 23 rfl) rfl rfl ?_
 refine gm X5 hx 172 (1 : Int32) (B 24 rfl) (by decide) rfl ?_
 refine gL X5 hx 173 (1 : Int64) (B 25 rfl) (by decide) rfl ?_
 refine g_ladd X5 hx 174 (2 : Int64) (B 26 rfl) (by decide) rfl ?_
 refine gl X5 hx 176 (B 27 rfl) rfl rfl ?_
 refine gL X5 hx 177 (0 : Int64) (B 28 rfl) (by decide) rfl ?_
 refine g_lsub X5 hx 178 (2 : Int64) (B 29 rfl) (by decide) rfl ?_
 refine gP X5 hx 181 hZ hown (host := "") (Or.inl (W 50 rfl)) Via.refl e5 F_co E_a (Or.inl (W 51 rfl)) w42 (ty := .long) (by decide) rfl rfl (B 30 rfl) rfl (fun T6 h6 X6 e6 W6 => ?_)
 have E_a := E_a.wr W6
 have F_ln := F_ln.other W6 (Or.inr (sn2 hw))
 have F_co := F_co.same W6
 have F_la := F_la.other W6 (Or.inr (sn3 hw))
 have V_b := V_b.other W6 (Ne.symm ne_a_b)
 have N6 := Fr.snoc X6 N5 g_a
 have Z6 : n0 ≤ h6.size := by rw [W6.size]; exact Z5
 have K6 := K5.wr W6 (Or.inl (List.mem_of_getElem? (i := 0) rfl))
 refine ga X6 hx 182 (B 31 rfl) rfl rfl rfl ?_
 refine ga X6 hx 183 (B 32 rfl) rfl rfl rfl ?_
 refine gn X6 hx 184 (B 33 rfl) rfl rfl ?_
 refine gk X6 hx 185 1 (B 34 rfl) rfl rfl ?_
 refine gm X6 hx 186 (3 : Int32) (B 35 rfl) (by decide) rfl ?_
 refine gc X6 hx 187 hZ e6 V_b c3 rfl rfl (B 36 rfl) rfl ?_
 refine gP X6 hx 190 hZ hown (host := "") (Or.inl (W 142 rfl)) Via.refl e6 F_la E_a (Or.inl (W 143 rfl)) w42 (ty := .char) (by decide) (own_nrw nc3) (own_fit nc3) (B 37 rfl) rfl (fun T7 h7 X7 e7 W7 => ?_)
 have E_a := E_a.wr W7
 have F_ln := F_ln.other W7 (Or.inr (sn4 hw))
 have F_co := F_co.other W7 (Or.inr (sn5 hw))
 have F_la := F_la.same W7
 have V_b := V_b.other W7 (Ne.symm ne_a_b)
 have N7 := Fr.snoc X7 N6 g_a
 have Z7 : n0 ≤ h7.size := by rw [W7.size]; exact Z6
 have K7 := K6.wr W7 (Or.inl (List.mem_of_getElem? (i := 0) rfl))
 exact g_retV X7 hx hret hlk (B 38 rfl) (by decide) (by decide) (by rw [e7, show own_LL (4 : Int32) c0 c1 c2 c3 ln0 = lnJ from hL.symm, show own_SS (4 : Int32) c0 c1 c2 c3 = 3 from hS, show own_colf (4 : Int32) (3 : Int32) = (2 : Int64) from by decide]; exact ⟨rfl, N7, K7, E_a, F_ln, F_co, F_la⟩)
set_option maxRecDepth 65536 in
set_option maxHeartbeats 40000000 in
theorem t21_4_2z (hC : rpC l Z a0 a b kk ln0 c0 c1 c2 c3 kA h0 n0 p s m meth cO) (lnJ : Int64) (z9 : Int32) (TK : State) (locsJ : List Loc) (XJ : Stand p l e (⟨1, 0, 0, 24⟩ : Room) s m ([(.ref a), (.ref b), (.int 0), (.int kk)] : List Value).toArray below meth cO TK locsJ 0 0) (eJ : TK.heap = h0) (NJ : Fr n0 locsJ) (hL : lnJ = (own_step c3 c2 (own_step c2 c1 (own_step c1 c0 (own_step c0 0 ln0))))) (hS : (own_st c3 4 (own_st c2 3 (own_st c1 2 (own_st c0 1 (0 : Int32))))) = 2) (hi : ¬ kk < 4) :
  Go p e below (fun o t L => FrameEnd s o t L (⟨1, 0, 0, 24⟩ : Room).cells (⟨1, 0, 0, 24⟩ : Room).slots) (fun v h L => v = none ∧ Fr n0 L ∧ Keep h0 h [a] ∧ Exa Z h a "gleanwell/Position" ∧ Fld Z h a "gleanwell/Position" "line" "J" (.long (own_LL kk c0 c1 c2 c3 ln0)) ∧ Fld Z h a "gleanwell/Position" "column" "J" (.long (own_colf kk (own_SS kk c0 c1 c2 c3))) ∧ Fld Z h a "gleanwell/Position" "last" "C" (.int (own_CC kk c0 c1 c2 c3))) TK (mkF m 21 #[A a, A b, I 0, I kk, J lnJ, E2, I 2, I 1, I 4, I z9, U] []) := by
 obtain ⟨hw, Z0, g_a, hk1, hk4, E_a, F_ln, F_co, F_la, V_b, nc0, nc1, nc2, nc3, hc0, hc1, hc2, hc3, ne_a_b, hx, hby, hml, hown, hnm, hret, hlk, hZ⟩ := id hC
 have K0 := Keep.refl h0 [a]
 have hown : s.vm.findClass "gleanwell/Position" = some m.cls := hown
 have B {q r} (i : Nat) := own_B (q := q) (r := r) hby D24_ok i
 have W {d : Jvm.Cond} (i : Nat) (h : tables_1[i]? = some d) : d.before a0 Z = true := own_w hw i h
 have w42 := W 42 rfl
 have M {n : Nat} (h : n = _) : n = cO.maxLocals := h.trans hml.symm
 refine gl XJ hx 23 (B 0 rfl) rfl rfl ?_
 refine gn XJ hx 24 (B 1 rfl) rfl rfl ?_
 have hq4 : ¬ (4 : Int32) < kk := hk4
 obtain rfl : kk = 4 := own_eqk hi hq4
 refine gT XJ hx 42 (B 2 rfl) (by decide) rfl ?_
 refine gl XJ hx 44 (B 3 rfl) rfl rfl ?_
 refine gn XJ hx 45 (B 4 rfl) rfl rfl ?_
 refine gF XJ hx 48 (B 5 rfl) (by decide) rfl ?_
 refine gg XJ hx 102 (B 6 rfl) rfl ?_
 refine gk XJ hx 103 0 (B 7 rfl) rfl rfl ?_
 refine gs XJ hx 105 _ (B 8 rfl) rfl rfl ?_
 refine gl XJ hx 107 (B 9 rfl) rfl rfl ?_
 refine gs XJ hx 109 #[A a, A b, I 0, I 4, J lnJ, E2, I 2, I 1, I 4, I 0, I 2] (B 10 rfl) rfl rfl ?_
 refine gl XJ hx 111 (B 11 rfl) rfl rfl ?_
 refine gn XJ hx 112 (B 12 rfl) rfl rfl ?_
 refine gF XJ hx 115 (B 13 rfl) (by decide) rfl ?_
 refine ga XJ hx 116 (B 39 rfl) rfl rfl rfl ?_
 refine gl XJ hx 118 (B 40 rfl) rfl rfl ?_
 refine gc XJ hx 119 hZ eJ V_b c2 rfl rfl (B 41 rfl) rfl ?_
 refine gS XJ hx 122 hZ hown (W 137 rfl) (W 138 rfl) (W 139 rfl) (W 140 rfl) (by decide) [(.int c2)] [] (rm26 hw c2 h0 n0 Z0 hc2) eJ 0 rfl (M rfl) (lenOf pd0 rfl) (B 42 rfl) rfl rfl rfl (fun v T8 L X8 Y => ?_)
 obtain ⟨rfl, N8q, e8⟩ := Y
 have N8 := Fr.app NJ N8q
 refine gt X8 hx 142 (B 43 rfl) (by decide) rfl ?_
 refine gi X8 hx 145 (3 : Int32) _ (B 44 rfl) rfl (by decide) rfl rfl ?_
 refine gg X8 hx 109 (B 45 rfl) rfl ?_
 refine gl X8 hx 111 (B 11 rfl) rfl rfl ?_
 refine gn X8 hx 112 (B 12 rfl) rfl rfl ?_
 refine gF X8 hx 115 (B 13 rfl) (by decide) rfl ?_
 refine ga X8 hx 116 (B 39 rfl) rfl rfl rfl ?_
 refine gl X8 hx 118 (B 40 rfl) rfl rfl ?_
 refine gc X8 hx 119 hZ e8 V_b c3 rfl rfl (B 41 rfl) rfl ?_
 refine gS X8 hx 122 hZ hown (W 137 rfl) (W 138 rfl) (W 139 rfl) (W 140 rfl) (by decide) [(.int c3)] [] (rm26 hw c3 h0 n0 Z0 hc3) e8 0 rfl (M rfl) (lenOf pd0 rfl) (B 42 rfl) rfl rfl rfl (fun v T9 L X9 Y => ?_)
 obtain ⟨rfl, N9q, e9⟩ := Y
 have N9 := Fr.app N8 N9q
 refine gt X9 hx 142 (B 43 rfl) (by decide) rfl ?_
 refine gi X9 hx 145 (4 : Int32) #[A a, A b, I 0, I 4, J lnJ, E2, I 2, I 1, I 4, I 0, I 4] (B 44 rfl) rfl (by decide) rfl rfl ?_
 refine gg X9 hx 109 (B 45 rfl) rfl ?_
 refine gl X9 hx 111 (B 11 rfl) rfl rfl ?_
 refine gn X9 hx 112 (B 12 rfl) rfl rfl ?_
 refine gT X9 hx 148 (B 13 rfl) (by decide) rfl ?_
 refine ga X9 hx 149 (B 14 rfl) rfl rfl rfl ?_
 refine g_lload X9 hx 151 (B 15 rfl) rfl rfl ?_
 refine gP X9 hx 154 hZ hown (host := "") (Or.inl (W 48 rfl)) Via.refl e9 F_ln E_a (Or.inl (W 49 rfl)) w42 (ty := .long) (by decide) rfl rfl (B 16 rfl) rfl (fun T10 h10 X10 e10 W10 => ?_)
 have E_a := E_a.wr W10
 have F_ln := F_ln.same W10
 have F_co := F_co.other W10 (Or.inr (sn0 hw))
 have F_la := F_la.other W10 (Or.inr (sn1 hw))
 have V_b := V_b.other W10 (Ne.symm ne_a_b)
 have N10 := Fr.snoc X10 N9 g_a
 have Z10 : n0 ≤ h10.size := by rw [W10.size]; exact Z0
 have K10 := K0.wr W10 (Or.inl (List.mem_of_getElem? (i := 0) rfl))
 refine ga X10 hx 155 (B 17 rfl) rfl rfl rfl ?_
 refine gl X10 hx 157 (B 18 rfl) rfl rfl ?_
 refine gf X10 hx 160 (B 19 rfl) (by decide) rfl ?_
 refine g_lconst X10 hx 161 (1 : Int64) (B 20 rfl) (by decide) rfl ?_
 refine gg X10 hx 168 (B 21 rfl) rfl ?_
 refine gn X10 hx 169 (B 22 rfl) rfl rfl ?_
 refine gl X10 hx 171 (B 23 rfl) rfl rfl ?_
 refine gm X10 hx 172 (2 : Int32) (B 24 rfl) (by decide) rfl ?_
 refine gL X10 hx 173 (2 : Int64) (B 25 rfl) (by decide) rfl ?_
 refine g_ladd X10 hx 174 (3 : Int64) (B 26 rfl) (by decide) rfl ?_
 refine gl X10 hx 176 (B 27 rfl) rfl rfl ?_
 refine gL X10 hx 177 (0 : Int64) (B 28 rfl) (by decide) rfl ?_
 refine g_lsub X10 hx 178 (3 : Int64) (B 29 rfl) (by decide) rfl ?_
 refine gP X10 hx 181 hZ hown (host := "") (Or.inl (W 50 rfl)) Via.refl e10 F_co E_a (Or.inl (W 51 rfl)) w42 (ty := .long) (by decide) rfl rfl (B 30 rfl) rfl (fun T11 h11 X11 e11 W11 => ?_)
 have E_a := E_a.wr W11
 have F_ln := F_ln.other W11 (Or.inr (sn2 hw))
 have F_co := F_co.same W11
 have F_la := F_la.other W11 (Or.inr (sn3 hw))
 have V_b := V_b.other W11 (Ne.symm ne_a_b)
 have N11 := Fr.snoc X11 N10 g_a
 have Z11 : n0 ≤ h11.size := by rw [W11.size]; exact Z10
 have K11 := K10.wr W11 (Or.inl (List.mem_of_getElem? (i := 0) rfl))
 refine ga X11 hx 182 (B 31 rfl) rfl rfl rfl ?_
 refine ga X11 hx 183 (B 32 rfl) rfl rfl rfl ?_
 refine gn X11 hx 184 (B 33 rfl) rfl rfl ?_
 refine gk X11 hx 185 1 (B 34 rfl) rfl rfl ?_
 refine gm X11 hx 186 (3 : Int32) (B 35 rfl) (by decide) rfl ?_
 refine gc X11 hx 187 hZ e11 V_b c3 rfl rfl (B 36 rfl) rfl ?_
 refine gP X11 hx 190 hZ hown (host := "") (Or.inl (W 142 rfl)) Via.refl e11 F_la E_a (Or.inl (W 143 rfl)) w42 (ty := .char) (by decide) (own_nrw nc3) (own_fit nc3) (B 37 rfl) rfl (fun T12 h12 X12 e12 W12 => ?_)
 have E_a := E_a.wr W12
 have F_ln := F_ln.other W12 (Or.inr (sn4 hw))
 have F_co := F_co.other W12 (Or.inr (sn5 hw))
 have F_la := F_la.same W12
 have V_b := V_b.other W12 (Ne.symm ne_a_b)
 have N12 := Fr.snoc X12 N11 g_a
 have Z12 : n0 ≤ h12.size := by rw [W12.size]; exact Z11
 have K12 := K11.wr W12 (Or.inl (List.mem_of_getElem? (i := 0) rfl))
 exact g_retV X12 hx hret hlk (B 38 rfl) (by decide) (by decide) (by rw [e12, show own_LL (4 : Int32) c0 c1 c2 c3 ln0 = lnJ from hL.symm, show own_SS (4 : Int32) c0 c1 c2 c3 = 2 from hS, show own_colf (4 : Int32) (2 : Int32) = (3 : Int64) from by decide]; exact ⟨rfl, N12, K12, E_a, F_ln, F_co, F_la⟩)
set_option maxRecDepth 65536 in
set_option maxHeartbeats 40000000 in
theorem t21_4_1z (hC : rpC l Z a0 a b kk ln0 c0 c1 c2 c3 kA h0 n0 p s m meth cO) (lnJ : Int64) (z9 : Int32) (TK : State) (locsJ : List Loc) (XJ : Stand p l e (⟨1, 0, 0, 24⟩ : Room) s m ([(.ref a), (.ref b), (.int 0), (.int kk)] : List Value).toArray below meth cO TK locsJ 0 0) (eJ : TK.heap = h0) (NJ : Fr n0 locsJ) (hL : lnJ = (own_step c3 c2 (own_step c2 c1 (own_step c1 c0 (own_step c0 0 ln0))))) (hS : (own_st c3 4 (own_st c2 3 (own_st c1 2 (own_st c0 1 (0 : Int32))))) = 1) (hi : ¬ kk < 4) :
  Go p e below (fun o t L => FrameEnd s o t L (⟨1, 0, 0, 24⟩ : Room).cells (⟨1, 0, 0, 24⟩ : Room).slots) (fun v h L => v = none ∧ Fr n0 L ∧ Keep h0 h [a] ∧ Exa Z h a "gleanwell/Position" ∧ Fld Z h a "gleanwell/Position" "line" "J" (.long (own_LL kk c0 c1 c2 c3 ln0)) ∧ Fld Z h a "gleanwell/Position" "column" "J" (.long (own_colf kk (own_SS kk c0 c1 c2 c3))) ∧ Fld Z h a "gleanwell/Position" "last" "C" (.int (own_CC kk c0 c1 c2 c3))) TK (mkF m 21 #[A a, A b, I 0, I kk, J lnJ, E2, I 1, I 1, I 4, I z9, U] []) := by
 obtain ⟨hw, Z0, g_a, hk1, hk4, E_a, F_ln, F_co, F_la, V_b, nc0, nc1, nc2, nc3, hc0, hc1, hc2, hc3, ne_a_b, hx, hby, hml, hown, hnm, hret, hlk, hZ⟩ := id hC
 have K0 := Keep.refl h0 [a]
 have hown : s.vm.findClass "gleanwell/Position" = some m.cls := hown
 have B {q r} (i : Nat) := own_B (q := q) (r := r) hby D24_ok i
 have W {d : Jvm.Cond} (i : Nat) (h : tables_1[i]? = some d) : d.before a0 Z = true := own_w hw i h
 have w42 := W 42 rfl
 have M {n : Nat} (h : n = _) : n = cO.maxLocals := h.trans hml.symm
 refine gl XJ hx 23 (B 0 rfl) rfl rfl ?_
 refine gn XJ hx 24 (B 1 rfl) rfl rfl ?_
 have hq4 : ¬ (4 : Int32) < kk := hk4
 obtain rfl : kk = 4 := own_eqk hi hq4
 refine gT XJ hx 42 (B 2 rfl) (by decide) rfl ?_
 refine gl XJ hx 44 (B 3 rfl) rfl rfl ?_
 refine gn XJ hx 45 (B 4 rfl) rfl rfl ?_
 refine gF XJ hx 48 (B 5 rfl) (by decide) rfl ?_
 refine gg XJ hx 102 (B 6 rfl) rfl ?_
 refine gk XJ hx 103 0 (B 7 rfl) rfl rfl ?_
 refine gs XJ hx 105 _ (B 8 rfl) rfl rfl ?_
 refine gl XJ hx 107 (B 9 rfl) rfl rfl ?_
 refine gs XJ hx 109 #[A a, A b, I 0, I 4, J lnJ, E2, I 1, I 1, I 4, I 0, I 1] (B 10 rfl) rfl rfl ?_
 refine gl XJ hx 111 (B 11 rfl) rfl rfl ?_
 refine gn XJ hx 112 (B 12 rfl) rfl rfl ?_
 refine gF XJ hx 115 (B 13 rfl) (by decide) rfl ?_
 refine ga XJ hx 116 (B 39 rfl) rfl rfl rfl ?_
 refine gl XJ hx 118 (B 40 rfl) rfl rfl ?_
 refine gc XJ hx 119 hZ eJ V_b c1 rfl rfl (B 41 rfl) rfl ?_
 refine gS XJ hx 122 hZ hown (W 137 rfl) (W 138 rfl) (W 139 rfl) (W 140 rfl) (by decide) [(.int c1)] [] (rm26 hw c1 h0 n0 Z0 hc1) eJ 0 rfl (M rfl) (lenOf pd0 rfl) (B 42 rfl) rfl rfl rfl (fun v T13 L X13 Y => ?_)
 obtain ⟨rfl, N13q, e13⟩ := Y
 have N13 := Fr.app NJ N13q
 refine gt X13 hx 142 (B 43 rfl) (by decide) rfl ?_
 refine gi X13 hx 145 (2 : Int32) _ (B 44 rfl) rfl (by decide) rfl rfl ?_
 refine gg X13 hx 109 (B 45 rfl) rfl ?_
 refine gl X13 hx 111 (B 11 rfl) rfl rfl ?_
 refine gn X13 hx 112 (B 12 rfl) rfl rfl ?_
 refine gF X13 hx 115 (B 13 rfl) (by decide) rfl ?_
 refine ga X13 hx 116 (B 39 rfl) rfl rfl rfl ?_
 refine gl X13 hx 118 (B 40 rfl) rfl rfl ?_
 refine gc X13 hx 119 hZ e13 V_b c2 rfl rfl (B 41 rfl) rfl ?_
 refine gS X13 hx 122 hZ hown (W 137 rfl) (W 138 rfl) (W 139 rfl) (W 140 rfl) (by decide) [(.int c2)] [] (rm26 hw c2 h0 n0 Z0 hc2) e13 0 rfl (M rfl) (lenOf pd0 rfl) (B 42 rfl) rfl rfl rfl (fun v T14 L X14 Y => ?_)
 obtain ⟨rfl, N14q, e14⟩ := Y
 have N14 := Fr.app N13 N14q
 refine gt X14 hx 142 (B 43 rfl) (by decide) rfl ?_
 refine gi X14 hx 145 (3 : Int32) #[A a, A b, I 0, I 4, J lnJ, E2, I 1, I 1, I 4, I 0, I 3] (B 44 rfl) rfl (by decide) rfl rfl ?_
 refine gg X14 hx 109 (B 45 rfl) rfl ?_
 refine gl X14 hx 111 (B 11 rfl) rfl rfl ?_
 refine gn X14 hx 112 (B 12 rfl) rfl rfl ?_
 refine gF X14 hx 115 (B 13 rfl) (by decide) rfl ?_
 refine ga X14 hx 116 (B 39 rfl) rfl rfl rfl ?_
 refine gl X14 hx 118 (B 40 rfl) rfl rfl ?_
 refine gc X14 hx 119 hZ e14 V_b c3 rfl rfl (B 41 rfl) rfl ?_
 refine gS X14 hx 122 hZ hown (W 137 rfl) (W 138 rfl) (W 139 rfl) (W 140 rfl) (by decide) [(.int c3)] [] (rm26 hw c3 h0 n0 Z0 hc3) e14 0 rfl (M rfl) (lenOf pd0 rfl) (B 42 rfl) rfl rfl rfl (fun v T15 L X15 Y => ?_)
 obtain ⟨rfl, N15q, e15⟩ := Y
 have N15 := Fr.app N14 N15q
 refine gt X15 hx 142 (B 43 rfl) (by decide) rfl ?_
 refine gi X15 hx 145 (4 : Int32) _ (B 44 rfl) rfl (by decide) rfl rfl ?_
 refine gg X15 hx 109 (B 45 rfl) rfl ?_
 refine gl X15 hx 111 (B 11 rfl) rfl rfl ?_
 refine gn X15 hx 112 (B 12 rfl) rfl rfl ?_
 refine gT X15 hx 148 (B 13 rfl) (by decide) rfl ?_
 refine ga X15 hx 149 (B 14 rfl) rfl rfl rfl ?_
 refine g_lload X15 hx 151 (B 15 rfl) rfl rfl ?_
 refine gP X15 hx 154 hZ hown (host := "") (Or.inl (W 48 rfl)) Via.refl e15 F_ln E_a (Or.inl (W 49 rfl)) w42 (ty := .long) (by decide) rfl rfl (B 16 rfl) rfl (fun T16 h16 X16 e16 W16 => ?_)
 have E_a := E_a.wr W16
 have F_ln := F_ln.same W16
 have F_co := F_co.other W16 (Or.inr (sn0 hw))
 have F_la := F_la.other W16 (Or.inr (sn1 hw))
 have V_b := V_b.other W16 (Ne.symm ne_a_b)
 have N16 := Fr.snoc X16 N15 g_a
 have Z16 : n0 ≤ h16.size := by rw [W16.size]; exact Z0
 have K16 := K0.wr W16 (Or.inl (List.mem_of_getElem? (i := 0) rfl))
 refine ga X16 hx 155 (B 17 rfl) rfl rfl rfl ?_
 refine gl X16 hx 157 (B 18 rfl) rfl rfl ?_
 refine gf X16 hx 160 (B 19 rfl) (by decide) rfl ?_
 refine g_lconst X16 hx 161 (1 : Int64) (B 20 rfl) (by decide) rfl ?_
 refine gg X16 hx 168 (B 21 rfl) rfl ?_
 refine gn X16 hx 169 (B 22 rfl) rfl rfl ?_
 refine gl X16 hx 171 (B 23 rfl) rfl rfl ?_
 refine gm X16 hx 172 (3 : Int32) (B 24 rfl) (by decide) rfl ?_
 refine gL X16 hx 173 (3 : Int64) (B 25 rfl) (by decide) rfl ?_
 refine g_ladd X16 hx 174 (4 : Int64) (B 26 rfl) (by decide) rfl ?_
 refine gl X16 hx 176 (B 27 rfl) rfl rfl ?_
 refine gL X16 hx 177 (0 : Int64) (B 28 rfl) (by decide) rfl ?_
 refine g_lsub X16 hx 178 (4 : Int64) (B 29 rfl) (by decide) rfl ?_
 refine gP X16 hx 181 hZ hown (host := "") (Or.inl (W 50 rfl)) Via.refl e16 F_co E_a (Or.inl (W 51 rfl)) w42 (ty := .long) (by decide) rfl rfl (B 30 rfl) rfl (fun T17 h17 X17 e17 W17 => ?_)
 have E_a := E_a.wr W17
 have F_ln := F_ln.other W17 (Or.inr (sn2 hw))
 have F_co := F_co.same W17
 have F_la := F_la.other W17 (Or.inr (sn3 hw))
 have V_b := V_b.other W17 (Ne.symm ne_a_b)
 have N17 := Fr.snoc X17 N16 g_a
 have Z17 : n0 ≤ h17.size := by rw [W17.size]; exact Z16
 have K17 := K16.wr W17 (Or.inl (List.mem_of_getElem? (i := 0) rfl))
 refine ga X17 hx 182 (B 31 rfl) rfl rfl rfl ?_
 refine ga X17 hx 183 (B 32 rfl) rfl rfl rfl ?_
 refine gn X17 hx 184 (B 33 rfl) rfl rfl ?_
 refine gk X17 hx 185 1 (B 34 rfl) rfl rfl ?_
 refine gm X17 hx 186 (3 : Int32) (B 35 rfl) (by decide) rfl ?_
 refine gc X17 hx 187 hZ e17 V_b c3 rfl rfl (B 36 rfl) rfl ?_
 refine gP X17 hx 190 hZ hown (host := "") (Or.inl (W 142 rfl)) Via.refl e17 F_la E_a (Or.inl (W 143 rfl)) w42 (ty := .char) (by decide) (own_nrw nc3) (own_fit nc3) (B 37 rfl) rfl (fun T18 h18 X18 e18 W18 => ?_)
 have E_a := E_a.wr W18
 have F_ln := F_ln.other W18 (Or.inr (sn4 hw))
 have F_co := F_co.other W18 (Or.inr (sn5 hw))
 have F_la := F_la.same W18
 have V_b := V_b.other W18 (Ne.symm ne_a_b)
 have N18 := Fr.snoc X18 N17 g_a
 have Z18 : n0 ≤ h18.size := by rw [W18.size]; exact Z17
 have K18 := K17.wr W18 (Or.inl (List.mem_of_getElem? (i := 0) rfl))
 exact g_retV X18 hx hret hlk (B 38 rfl) (by decide) (by decide) (by rw [e18, show own_LL (4 : Int32) c0 c1 c2 c3 ln0 = lnJ from hL.symm, show own_SS (4 : Int32) c0 c1 c2 c3 = 1 from hS, show own_colf (4 : Int32) (1 : Int32) = (4 : Int64) from by decide]; exact ⟨rfl, N18, K18, E_a, F_ln, F_co, F_la⟩)
set_option maxRecDepth 65536 in
set_option maxHeartbeats 40000000 in
theorem t21_4_0u (hC : rpC l Z a0 a b kk ln0 c0 c1 c2 c3 kA h0 n0 p s m meth cO) (lnJ : Int64) (TK : State) (locsJ : List Loc) (XJ : Stand p l e (⟨1, 0, 0, 24⟩ : Room) s m ([(.ref a), (.ref b), (.int 0), (.int kk)] : List Value).toArray below meth cO TK locsJ 0 0) (eJ : TK.heap = h0) (NJ : Fr n0 locsJ) (hL : lnJ = (own_step c3 c2 (own_step c2 c1 (own_step c1 c0 (own_step c0 0 ln0))))) (hS : (own_st c3 4 (own_st c2 3 (own_st c1 2 (own_st c0 1 (0 : Int32))))) = 0) (hi : ¬ kk < 4) :
  Go p e below (fun o t L => FrameEnd s o t L (⟨1, 0, 0, 24⟩ : Room).cells (⟨1, 0, 0, 24⟩ : Room).slots) (fun v h L => v = none ∧ Fr n0 L ∧ Keep h0 h [a] ∧ Exa Z h a "gleanwell/Position" ∧ Fld Z h a "gleanwell/Position" "line" "J" (.long (own_LL kk c0 c1 c2 c3 ln0)) ∧ Fld Z h a "gleanwell/Position" "column" "J" (.long (own_colf kk (own_SS kk c0 c1 c2 c3))) ∧ Fld Z h a "gleanwell/Position" "last" "C" (.int (own_CC kk c0 c1 c2 c3))) TK (mkF m 21 #[A a, A b, I 0, I kk, J lnJ, E2, I 0, I 0, I 4, U, U] []) := by
 obtain ⟨hw, Z0, g_a, hk1, hk4, E_a, F_ln, F_co, F_la, V_b, nc0, nc1, nc2, nc3, hc0, hc1, hc2, hc3, ne_a_b, hx, hby, hml, hown, hnm, hret, hlk, hZ⟩ := id hC
 have K0 := Keep.refl h0 [a]
 have hown : s.vm.findClass "gleanwell/Position" = some m.cls := hown
 have B {q r} (i : Nat) := own_B (q := q) (r := r) hby D24_ok i
 have W {d : Jvm.Cond} (i : Nat) (h : tables_1[i]? = some d) : d.before a0 Z = true := own_w hw i h
 have w137 := W 137 rfl
 have w138 := W 138 rfl
 have w139 := W 139 rfl
 have w140 := W 140 rfl
 have w42 := W 42 rfl
 have M {n : Nat} (h : n = _) : n = cO.maxLocals := h.trans hml.symm
 refine gl XJ hx 23 (B 0 rfl) rfl rfl ?_
 refine gn XJ hx 24 (B 1 rfl) rfl rfl ?_
 have hq4 : ¬ (4 : Int32) < kk := hk4
 obtain rfl : kk = 4 := own_eqk hi hq4
 refine gT XJ hx 42 (B 2 rfl) (by decide) rfl ?_
 refine gl XJ hx 44 (B 3 rfl) rfl rfl ?_
 refine gn XJ hx 45 (B 4 rfl) rfl rfl ?_
 refine gF XJ hx 48 (B 5 rfl) (by decide) rfl ?_
 refine gg XJ hx 102 (B 6 rfl) rfl ?_
 refine gk XJ hx 103 0 (B 7 rfl) rfl rfl ?_
 refine gs XJ hx 105 _ (B 8 rfl) rfl rfl ?_
 refine gl XJ hx 107 (B 9 rfl) rfl rfl ?_
 refine gs XJ hx 109 #[A a, A b, I 0, I 4, J lnJ, E2, I 0, I 0, I 4, I 0, I 0] (B 10 rfl) rfl rfl ?_
 refine gl XJ hx 111 (B 11 rfl) rfl rfl ?_
 refine gn XJ hx 112 (B 12 rfl) rfl rfl ?_
 refine gF XJ hx 115 (B 13 rfl) (by decide) rfl ?_
 refine ga XJ hx 116 (B 39 rfl) rfl rfl rfl ?_
 refine gl XJ hx 118 (B 40 rfl) rfl rfl ?_
 refine gc XJ hx 119 hZ eJ V_b c0 rfl rfl (B 41 rfl) rfl ?_
 refine gS XJ hx 122 hZ hown w137 w138 w139 w140 (by decide) [(.int c0)] [] (rm26 hw c0 h0 n0 Z0 hc0) eJ 0 rfl (M rfl) (lenOf pd0 rfl) (B 42 rfl) rfl rfl rfl (fun v T19 L X19 Y => ?_)
 obtain ⟨rfl, N19q, e19⟩ := Y
 have N19 := Fr.app NJ N19q
 refine gt X19 hx 142 (B 43 rfl) (by decide) rfl ?_
 refine gi X19 hx 145 (1 : Int32) _ (B 44 rfl) rfl (by decide) rfl rfl ?_
 refine gg X19 hx 109 (B 45 rfl) rfl ?_
 refine gl X19 hx 111 (B 11 rfl) rfl rfl ?_
 refine gn X19 hx 112 (B 12 rfl) rfl rfl ?_
 refine gF X19 hx 115 (B 13 rfl) (by decide) rfl ?_
 refine ga X19 hx 116 (B 39 rfl) rfl rfl rfl ?_
 refine gl X19 hx 118 (B 40 rfl) rfl rfl ?_
 refine gc X19 hx 119 hZ e19 V_b c1 rfl rfl (B 41 rfl) rfl ?_
 refine gS X19 hx 122 hZ hown w137 w138 w139 w140 (by decide) [(.int c1)] [] (rm26 hw c1 h0 n0 Z0 hc1) e19 0 rfl (M rfl) (lenOf pd0 rfl) (B 42 rfl) rfl rfl rfl (fun v T20 L X20 Y => ?_)
 obtain ⟨rfl, N20q, e20⟩ := Y
 have N20 := Fr.app N19 N20q
 refine gt X20 hx 142 (B 43 rfl) (by decide) rfl ?_
 refine gi X20 hx 145 (2 : Int32) #[A a, A b, I 0, I 4, J lnJ, E2, I 0, I 0, I 4, I 0, I 2] (B 44 rfl) rfl (by decide) rfl rfl ?_
 refine gg X20 hx 109 (B 45 rfl) rfl ?_
 refine gl X20 hx 111 (B 11 rfl) rfl rfl ?_
 refine gn X20 hx 112 (B 12 rfl) rfl rfl ?_
 refine gF X20 hx 115 (B 13 rfl) (by decide) rfl ?_
 refine ga X20 hx 116 (B 39 rfl) rfl rfl rfl ?_
 refine gl X20 hx 118 (B 40 rfl) rfl rfl ?_
 refine gc X20 hx 119 hZ e20 V_b c2 rfl rfl (B 41 rfl) rfl ?_
 refine gS X20 hx 122 hZ hown w137 w138 w139 w140 (by decide) [(.int c2)] [] (rm26 hw c2 h0 n0 Z0 hc2) e20 0 rfl (M rfl) (lenOf pd0 rfl) (B 42 rfl) rfl rfl rfl (fun v T21 L X21 Y => ?_)
 obtain ⟨rfl, N21q, e21⟩ := Y
 have N21 := Fr.app N20 N21q
 refine gt X21 hx 142 (B 43 rfl) (by decide) rfl ?_
 refine gi X21 hx 145 (3 : Int32) _ (B 44 rfl) rfl (by decide) rfl rfl ?_
 refine gg X21 hx 109 (B 45 rfl) rfl ?_
 refine gl X21 hx 111 (B 11 rfl) rfl rfl ?_
 refine gn X21 hx 112 (B 12 rfl) rfl rfl ?_
 refine gF X21 hx 115 (B 13 rfl) (by decide) rfl ?_
 refine ga X21 hx 116 (B 39 rfl) rfl rfl rfl ?_
 refine gl X21 hx 118 (B 40 rfl) rfl rfl ?_
 refine gc X21 hx 119 hZ e21 V_b c3 rfl rfl (B 41 rfl) rfl ?_
 refine gS X21 hx 122 hZ hown w137 w138 w139 w140 (by decide) [(.int c3)] [] (rm26 hw c3 h0 n0 Z0 hc3) e21 0 rfl (M rfl) (lenOf pd0 rfl) (B 42 rfl) rfl rfl rfl (fun v T22 L X22 Y => ?_)
 obtain ⟨rfl, N22q, e22⟩ := Y
 have N22 := Fr.app N21 N22q
 refine gt X22 hx 142 (B 43 rfl) (by decide) rfl ?_
 refine gi X22 hx 145 (4 : Int32) #[A a, A b, I 0, I 4, J lnJ, E2, I 0, I 0, I 4, I 0, I 4] (B 44 rfl) rfl (by decide) rfl rfl ?_
 refine gg X22 hx 109 (B 45 rfl) rfl ?_
 refine gl X22 hx 111 (B 11 rfl) rfl rfl ?_
 refine gn X22 hx 112 (B 12 rfl) rfl rfl ?_
 refine gT X22 hx 148 (B 13 rfl) (by decide) rfl ?_
 refine ga X22 hx 149 (B 14 rfl) rfl rfl rfl ?_
 refine g_lload X22 hx 151 (B 15 rfl) rfl rfl ?_
 refine gP X22 hx 154 hZ hown (host := "") (Or.inl (W 48 rfl)) Via.refl e22 F_ln E_a (Or.inl (W 49 rfl)) w42 (ty := .long) (by decide) rfl rfl (B 16 rfl) rfl (fun T23 h23 X23 e23 W23 => ?_)
 have E_a := E_a.wr W23
 have F_ln := F_ln.same W23
 have F_co := F_co.other W23 (Or.inr (sn0 hw))
 have F_la := F_la.other W23 (Or.inr (sn1 hw))
 have V_b := V_b.other W23 (Ne.symm ne_a_b)
 have N23 := Fr.snoc X23 N22 g_a
 have Z23 : n0 ≤ h23.size := by rw [W23.size]; exact Z0
 have K23 := K0.wr W23 (Or.inl (List.mem_of_getElem? (i := 0) rfl))
 refine ga X23 hx 155 (B 17 rfl) rfl rfl rfl ?_
 refine gl X23 hx 157 (B 18 rfl) rfl rfl ?_
 refine gt X23 hx 164 (B 19 rfl) (by decide) rfl ?_
 refine ga X23 hx 165 (B 46 rfl) rfl rfl rfl ?_
 refine gG X23 hx 168 hZ hown (host := "") (Or.inl (W 50 rfl)) Via.refl e23 F_co (B 47 rfl) rfl (fun T24 X24 e24 => ?_)
 refine gn X24 hx 169 (B 22 rfl) rfl rfl ?_
 refine gl X24 hx 171 (B 23 rfl) rfl rfl ?_
 refine gm X24 hx 172 (4 : Int32) (B 24 rfl) (by decide) rfl ?_
 refine gL X24 hx 173 (4 : Int64) (B 25 rfl) (by decide) rfl ?_
 refine g_ladd X24 hx 174 (5 : Int64) (B 26 rfl) (by decide) rfl ?_
 refine gl X24 hx 176 (B 27 rfl) rfl rfl ?_
 refine gL X24 hx 177 (0 : Int64) (B 28 rfl) (by decide) rfl ?_
 refine g_lsub X24 hx 178 (5 : Int64) (B 29 rfl) (by decide) rfl ?_
 refine gP X24 hx 181 hZ hown (host := "") (Or.inl (W 50 rfl)) Via.refl e24 F_co E_a (Or.inl (W 51 rfl)) w42 (ty := .long) (by decide) rfl rfl (B 30 rfl) rfl (fun T25 h25 X25 e25 W25 => ?_)
 have E_a := E_a.wr W25
 have F_ln := F_ln.other W25 (Or.inr (sn2 hw))
 have F_co := F_co.same W25
 have F_la := F_la.other W25 (Or.inr (sn3 hw))
 have V_b := V_b.other W25 (Ne.symm ne_a_b)
 have N25 := Fr.snoc X25 N23 g_a
 have Z25 : n0 ≤ h25.size := by rw [W25.size]; exact Z23
 have K25 := K23.wr W25 (Or.inl (List.mem_of_getElem? (i := 0) rfl))
 refine ga X25 hx 182 (B 31 rfl) rfl rfl rfl ?_
 refine ga X25 hx 183 (B 32 rfl) rfl rfl rfl ?_
 refine gn X25 hx 184 (B 33 rfl) rfl rfl ?_
 refine gk X25 hx 185 1 (B 34 rfl) rfl rfl ?_
 refine gm X25 hx 186 (3 : Int32) (B 35 rfl) (by decide) rfl ?_
 refine gc X25 hx 187 hZ e25 V_b c3 rfl rfl (B 36 rfl) rfl ?_
 refine gP X25 hx 190 hZ hown (host := "") (Or.inl (W 142 rfl)) Via.refl e25 F_la E_a (Or.inl (W 143 rfl)) w42 (ty := .char) (by decide) (own_nrw nc3) (own_fit nc3) (B 37 rfl) rfl (fun T26 h26 X26 e26 W26 => ?_)
 have E_a := E_a.wr W26
 have F_ln := F_ln.other W26 (Or.inr (sn4 hw))
 have F_co := F_co.other W26 (Or.inr (sn5 hw))
 have F_la := F_la.same W26
 have V_b := V_b.other W26 (Ne.symm ne_a_b)
 have N26 := Fr.snoc X26 N25 g_a
 have Z26 : n0 ≤ h26.size := by rw [W26.size]; exact Z25
 have K26 := K25.wr W26 (Or.inl (List.mem_of_getElem? (i := 0) rfl))
 exact g_retV X26 hx hret hlk (B 38 rfl) (by decide) (by decide) (by rw [e26, show own_LL (4 : Int32) c0 c1 c2 c3 ln0 = lnJ from hL.symm, show own_SS (4 : Int32) c0 c1 c2 c3 = 0 from hS, show own_colf (4 : Int32) (0 : Int32) = (5 : Int64) from by decide]; exact ⟨rfl, N26, K26, E_a, F_ln, F_co, F_la⟩)
set_option maxRecDepth 65536 in
set_option maxHeartbeats 40000000 in
theorem t21_4_0z (hC : rpC l Z a0 a b kk ln0 c0 c1 c2 c3 kA h0 n0 p s m meth cO) (lnJ : Int64) (z9 : Int32) (TK : State) (locsJ : List Loc) (XJ : Stand p l e (⟨1, 0, 0, 24⟩ : Room) s m ([(.ref a), (.ref b), (.int 0), (.int kk)] : List Value).toArray below meth cO TK locsJ 0 0) (eJ : TK.heap = h0) (NJ : Fr n0 locsJ) (hL : lnJ = (own_step c3 c2 (own_step c2 c1 (own_step c1 c0 (own_step c0 0 ln0))))) (hS : (own_st c3 4 (own_st c2 3 (own_st c1 2 (own_st c0 1 (0 : Int32))))) = 0) (hi : ¬ kk < 4) :
  Go p e below (fun o t L => FrameEnd s o t L (⟨1, 0, 0, 24⟩ : Room).cells (⟨1, 0, 0, 24⟩ : Room).slots) (fun v h L => v = none ∧ Fr n0 L ∧ Keep h0 h [a] ∧ Exa Z h a "gleanwell/Position" ∧ Fld Z h a "gleanwell/Position" "line" "J" (.long (own_LL kk c0 c1 c2 c3 ln0)) ∧ Fld Z h a "gleanwell/Position" "column" "J" (.long (own_colf kk (own_SS kk c0 c1 c2 c3))) ∧ Fld Z h a "gleanwell/Position" "last" "C" (.int (own_CC kk c0 c1 c2 c3))) TK (mkF m 21 #[A a, A b, I 0, I kk, J lnJ, E2, I 0, I 0, I 4, I z9, U] []) := by
 obtain ⟨hw, Z0, g_a, hk1, hk4, E_a, F_ln, F_co, F_la, V_b, nc0, nc1, nc2, nc3, hc0, hc1, hc2, hc3, ne_a_b, hx, hby, hml, hown, hnm, hret, hlk, hZ⟩ := id hC
 have K0 := Keep.refl h0 [a]
 have hown : s.vm.findClass "gleanwell/Position" = some m.cls := hown
 have B {q r} (i : Nat) := own_B (q := q) (r := r) hby D24_ok i
 have W {d : Jvm.Cond} (i : Nat) (h : tables_1[i]? = some d) : d.before a0 Z = true := own_w hw i h
 have w137 := W 137 rfl
 have w138 := W 138 rfl
 have w139 := W 139 rfl
 have w140 := W 140 rfl
 have w42 := W 42 rfl
 have M {n : Nat} (h : n = _) : n = cO.maxLocals := h.trans hml.symm
 refine gl XJ hx 23 (B 0 rfl) rfl rfl ?_
 refine gn XJ hx 24 (B 1 rfl) rfl rfl ?_
 have hq4 : ¬ (4 : Int32) < kk := hk4
 obtain rfl : kk = 4 := own_eqk hi hq4
 refine gT XJ hx 42 (B 2 rfl) (by decide) rfl ?_
 refine gl XJ hx 44 (B 3 rfl) rfl rfl ?_
 refine gn XJ hx 45 (B 4 rfl) rfl rfl ?_
 refine gF XJ hx 48 (B 5 rfl) (by decide) rfl ?_
 refine gg XJ hx 102 (B 6 rfl) rfl ?_
 refine gk XJ hx 103 0 (B 7 rfl) rfl rfl ?_
 refine gs XJ hx 105 _ (B 8 rfl) rfl rfl ?_
 refine gl XJ hx 107 (B 9 rfl) rfl rfl ?_
 refine gs XJ hx 109 #[A a, A b, I 0, I 4, J lnJ, E2, I 0, I 0, I 4, I 0, I 0] (B 10 rfl) rfl rfl ?_
 refine gl XJ hx 111 (B 11 rfl) rfl rfl ?_
 refine gn XJ hx 112 (B 12 rfl) rfl rfl ?_
 refine gF XJ hx 115 (B 13 rfl) (by decide) rfl ?_
 refine ga XJ hx 116 (B 39 rfl) rfl rfl rfl ?_
 refine gl XJ hx 118 (B 40 rfl) rfl rfl ?_
 refine gc XJ hx 119 hZ eJ V_b c0 rfl rfl (B 41 rfl) rfl ?_
 refine gS XJ hx 122 hZ hown w137 w138 w139 w140 (by decide) [(.int c0)] [] (rm26 hw c0 h0 n0 Z0 hc0) eJ 0 rfl (M rfl) (lenOf pd0 rfl) (B 42 rfl) rfl rfl rfl (fun v T27 L X27 Y => ?_)
 obtain ⟨rfl, N27q, e27⟩ := Y
 have N27 := Fr.app NJ N27q
 refine gt X27 hx 142 (B 43 rfl) (by decide) rfl ?_
 refine gi X27 hx 145 (1 : Int32) _ (B 44 rfl) rfl (by decide) rfl rfl ?_
 refine gg X27 hx 109 (B 45 rfl) rfl ?_
 refine gl X27 hx 111 (B 11 rfl) rfl rfl ?_
 refine gn X27 hx 112 (B 12 rfl) rfl rfl ?_
 refine gF X27 hx 115 (B 13 rfl) (by decide) rfl ?_
 refine ga X27 hx 116 (B 39 rfl) rfl rfl rfl ?_
 refine gl X27 hx 118 (B 40 rfl) rfl rfl ?_
 refine gc X27 hx 119 hZ e27 V_b c1 rfl rfl (B 41 rfl) rfl ?_
 refine gS X27 hx 122 hZ hown w137 w138 w139 w140 (by decide) [(.int c1)] [] (rm26 hw c1 h0 n0 Z0 hc1) e27 0 rfl (M rfl) (lenOf pd0 rfl) (B 42 rfl) rfl rfl rfl (fun v T28 L X28 Y => ?_)
 obtain ⟨rfl, N28q, e28⟩ := Y
 have N28 := Fr.app N27 N28q
 refine gt X28 hx 142 (B 43 rfl) (by decide) rfl ?_
 refine gi X28 hx 145 (2 : Int32) #[A a, A b, I 0, I 4, J lnJ, E2, I 0, I 0, I 4, I 0, I 2] (B 44 rfl) rfl (by decide) rfl rfl ?_
 refine gg X28 hx 109 (B 45 rfl) rfl ?_
 refine gl X28 hx 111 (B 11 rfl) rfl rfl ?_
 refine gn X28 hx 112 (B 12 rfl) rfl rfl ?_
 refine gF X28 hx 115 (B 13 rfl) (by decide) rfl ?_
 refine ga X28 hx 116 (B 39 rfl) rfl rfl rfl ?_
 refine gl X28 hx 118 (B 40 rfl) rfl rfl ?_
 refine gc X28 hx 119 hZ e28 V_b c2 rfl rfl (B 41 rfl) rfl ?_
 refine gS X28 hx 122 hZ hown w137 w138 w139 w140 (by decide) [(.int c2)] [] (rm26 hw c2 h0 n0 Z0 hc2) e28 0 rfl (M rfl) (lenOf pd0 rfl) (B 42 rfl) rfl rfl rfl (fun v T29 L X29 Y => ?_)
 obtain ⟨rfl, N29q, e29⟩ := Y
 have N29 := Fr.app N28 N29q
 refine gt X29 hx 142 (B 43 rfl) (by decide) rfl ?_
 refine gi X29 hx 145 (3 : Int32) _ (B 44 rfl) rfl (by decide) rfl rfl ?_
 refine gg X29 hx 109 (B 45 rfl) rfl ?_
 refine gl X29 hx 111 (B 11 rfl) rfl rfl ?_
 refine gn X29 hx 112 (B 12 rfl) rfl rfl ?_
 refine gF X29 hx 115 (B 13 rfl) (by decide) rfl ?_
 refine ga X29 hx 116 (B 39 rfl) rfl rfl rfl ?_
 refine gl X29 hx 118 (B 40 rfl) rfl rfl ?_
 refine gc X29 hx 119 hZ e29 V_b c3 rfl rfl (B 41 rfl) rfl ?_
 refine gS X29 hx 122 hZ hown w137 w138 w139 w140 (by decide) [(.int c3)] [] (rm26 hw c3 h0 n0 Z0 hc3) e29 0 rfl (M rfl) (lenOf pd0 rfl) (B 42 rfl) rfl rfl rfl (fun v T30 L X30 Y => ?_)
 obtain ⟨rfl, N30q, e30⟩ := Y
 have N30 := Fr.app N29 N30q
 refine gt X30 hx 142 (B 43 rfl) (by decide) rfl ?_
 refine gi X30 hx 145 (4 : Int32) #[A a, A b, I 0, I 4, J lnJ, E2, I 0, I 0, I 4, I 0, I 4] (B 44 rfl) rfl (by decide) rfl rfl ?_
 refine gg X30 hx 109 (B 45 rfl) rfl ?_
 refine gl X30 hx 111 (B 11 rfl) rfl rfl ?_
 refine gn X30 hx 112 (B 12 rfl) rfl rfl ?_
 refine gT X30 hx 148 (B 13 rfl) (by decide) rfl ?_
 refine ga X30 hx 149 (B 14 rfl) rfl rfl rfl ?_
 refine g_lload X30 hx 151 (B 15 rfl) rfl rfl ?_
 refine gP X30 hx 154 hZ hown (host := "") (Or.inl (W 48 rfl)) Via.refl e30 F_ln E_a (Or.inl (W 49 rfl)) w42 (ty := .long) (by decide) rfl rfl (B 16 rfl) rfl (fun T31 h31 X31 e31 W31 => ?_)
 have E_a := E_a.wr W31
 have F_ln := F_ln.same W31
 have F_co := F_co.other W31 (Or.inr (sn0 hw))
 have F_la := F_la.other W31 (Or.inr (sn1 hw))
 have V_b := V_b.other W31 (Ne.symm ne_a_b)
 have N31 := Fr.snoc X31 N30 g_a
 have Z31 : n0 ≤ h31.size := by rw [W31.size]; exact Z0
 have K31 := K0.wr W31 (Or.inl (List.mem_of_getElem? (i := 0) rfl))
 refine ga X31 hx 155 (B 17 rfl) rfl rfl rfl ?_
 refine gl X31 hx 157 (B 18 rfl) rfl rfl ?_
 refine gt X31 hx 164 (B 19 rfl) (by decide) rfl ?_
 refine ga X31 hx 165 (B 46 rfl) rfl rfl rfl ?_
 refine gG X31 hx 168 hZ hown (host := "") (Or.inl (W 50 rfl)) Via.refl e31 F_co (B 47 rfl) rfl (fun T32 X32 e32 => ?_)
 refine gn X32 hx 169 (B 22 rfl) rfl rfl ?_
 refine gl X32 hx 171 (B 23 rfl) rfl rfl ?_
 refine gm X32 hx 172 (4 : Int32) (B 24 rfl) (by decide) rfl ?_
 refine gL X32 hx 173 (4 : Int64) (B 25 rfl) (by decide) rfl ?_
 refine g_ladd X32 hx 174 (5 : Int64) (B 26 rfl) (by decide) rfl ?_
 refine gl X32 hx 176 (B 27 rfl) rfl rfl ?_
 refine gL X32 hx 177 (0 : Int64) (B 28 rfl) (by decide) rfl ?_
 refine g_lsub X32 hx 178 (5 : Int64) (B 29 rfl) (by decide) rfl ?_
 refine gP X32 hx 181 hZ hown (host := "") (Or.inl (W 50 rfl)) Via.refl e32 F_co E_a (Or.inl (W 51 rfl)) w42 (ty := .long) (by decide) rfl rfl (B 30 rfl) rfl (fun T33 h33 X33 e33 W33 => ?_)
 have E_a := E_a.wr W33
 have F_ln := F_ln.other W33 (Or.inr (sn2 hw))
 have F_co := F_co.same W33
 have F_la := F_la.other W33 (Or.inr (sn3 hw))
 have V_b := V_b.other W33 (Ne.symm ne_a_b)
 have N33 := Fr.snoc X33 N31 g_a
 have Z33 : n0 ≤ h33.size := by rw [W33.size]; exact Z31
 have K33 := K31.wr W33 (Or.inl (List.mem_of_getElem? (i := 0) rfl))
 refine ga X33 hx 182 (B 31 rfl) rfl rfl rfl ?_
 refine ga X33 hx 183 (B 32 rfl) rfl rfl rfl ?_
 refine gn X33 hx 184 (B 33 rfl) rfl rfl ?_
 refine gk X33 hx 185 1 (B 34 rfl) rfl rfl ?_
 refine gm X33 hx 186 (3 : Int32) (B 35 rfl) (by decide) rfl ?_
 refine gc X33 hx 187 hZ e33 V_b c3 rfl rfl (B 36 rfl) rfl ?_
 refine gP X33 hx 190 hZ hown (host := "") (Or.inl (W 142 rfl)) Via.refl e33 F_la E_a (Or.inl (W 143 rfl)) w42 (ty := .char) (by decide) (own_nrw nc3) (own_fit nc3) (B 37 rfl) rfl (fun T34 h34 X34 e34 W34 => ?_)
 have E_a := E_a.wr W34
 have F_ln := F_ln.other W34 (Or.inr (sn4 hw))
 have F_co := F_co.other W34 (Or.inr (sn5 hw))
 have F_la := F_la.same W34
 have V_b := V_b.other W34 (Ne.symm ne_a_b)
 have N34 := Fr.snoc X34 N33 g_a
 have Z34 : n0 ≤ h34.size := by rw [W34.size]; exact Z33
 have K34 := K33.wr W34 (Or.inl (List.mem_of_getElem? (i := 0) rfl))
 exact g_retV X34 hx hret hlk (B 38 rfl) (by decide) (by decide) (by rw [e34, show own_LL (4 : Int32) c0 c1 c2 c3 ln0 = lnJ from hL.symm, show own_SS (4 : Int32) c0 c1 c2 c3 = 0 from hS, show own_colf (4 : Int32) (0 : Int32) = (5 : Int64) from by decide]; exact ⟨rfl, N34, K34, E_a, F_ln, F_co, F_la⟩)
theorem pd1 : parseMethodDescriptor "([CII)C" = some ⟨[(.array .char), .int, .int], some .char⟩ := by decide +kernel
theorem pd2 : parseMethodDescriptor "(CC)Z" = some ⟨[.char, .char], some .boolean⟩ := by decide +kernel
set_option maxRecDepth 65536 in
set_option maxHeartbeats 40000000 in
theorem t21_3_3z (hC : rpC l Z a0 a b kk ln0 c0 c1 c2 c3 kA h0 n0 p s m meth cO) (lnJ : Int64) (z9 : Int32) (TK : State) (locsJ : List Loc) (XJ : Stand p l e (⟨1, 0, 0, 24⟩ : Room) s m ([(.ref a), (.ref b), (.int 0), (.int kk)] : List Value).toArray below meth cO TK locsJ 0 0) (eJ : TK.heap = h0) (NJ : Fr n0 locsJ) (hL : lnJ = (own_step c2 c1 (own_step c1 c0 (own_step c0 0 ln0)))) (hS : (own_st c2 3 (own_st c1 2 (own_st c0 1 (0 : Int32)))) = 3) (hi : ¬ kk < 3) :
  Go p e below (fun o t L => FrameEnd s o t L (⟨1, 0, 0, 24⟩ : Room).cells (⟨1, 0, 0, 24⟩ : Room).slots) (fun v h L => v = none ∧ Fr n0 L ∧ Keep h0 h [a] ∧ Exa Z h a "gleanwell/Position" ∧ Fld Z h a "gleanwell/Position" "line" "J" (.long (own_LL kk c0 c1 c2 c3 ln0)) ∧ Fld Z h a "gleanwell/Position" "column" "J" (.long (own_colf kk (own_SS kk c0 c1 c2 c3))) ∧ Fld Z h a "gleanwell/Position" "last" "C" (.int (own_CC kk c0 c1 c2 c3))) TK (mkF m 21 #[A a, A b, I 0, I kk, J lnJ, E2, I 3, I 1, I 3, I z9, U] []) := by
 obtain ⟨hw, Z0, g_a, hk1, hk4, E_a, F_ln, F_co, F_la, V_b, nc0, nc1, nc2, nc3, hc0, hc1, hc2, hc3, ne_a_b, hx, hby, hml, hown, hnm, hret, hlk, hZ⟩ := id hC
 have K0 := Keep.refl h0 [a]
 have hown : s.vm.findClass "gleanwell/Position" = some m.cls := hown
 have B {q r} (i : Nat) := own_B (q := q) (r := r) hby D24_ok i
 have W {d : Jvm.Cond} (i : Nat) (h : tables_1[i]? = some d) : d.before a0 Z = true := own_w hw i h
 have w43 := W 43 rfl
 have w42 := W 42 rfl
 have M {n : Nat} (h : n = _) : n = cO.maxLocals := h.trans hml.symm
 refine gl XJ hx 23 (B 0 rfl) rfl rfl ?_
 refine gn XJ hx 24 (B 1 rfl) rfl rfl ?_
 by_cases hq3 : (3 : Int32) < kk
 ·
  refine gF XJ hx 27 (B 2 rfl) (tlt hq3).2.1 rfl ?_
  refine ga XJ hx 28 (B 48 rfl) rfl rfl rfl ?_
  refine gl XJ hx 30 (B 49 rfl) rfl rfl ?_
  refine gc XJ hx 31 hZ eJ V_b c3 rfl rfl (B 50 rfl) rfl ?_
  refine gb XJ hx 33 13 (B 51 rfl) rfl rfl ?_
  by_cases hc35 : (13 : Int32) < c3
  ·
   refine gF XJ hx 36 (B 52 rfl) (tlt hc35).2.2.2 rfl ?_
   refine gi XJ hx 39 (4 : Int32) _ (B 53 rfl) rfl (by decide) rfl rfl ?_
   refine gg XJ hx 21 (B 54 rfl) rfl ?_
   exact t21_4_3z hC _ _ _ _ XJ eJ NJ (own_sA (own_term_gt hc35) hL) (own_tA (own_term_gt hc35) hS) (own_lek hq3 rfl)
  ·
   refine gT XJ hx 42 (B 52 rfl) (flt hc35).2.2.2 rfl ?_
   refine gl XJ hx 44 (B 3 rfl) rfl rfl ?_
   refine gn XJ hx 45 (B 4 rfl) rfl rfl ?_
   have hk36 : ¬ ((3 : Int32) = kk) := own_neq hq3
   refine gT XJ hx 51 (B 5 rfl) (feq hk36).2 rfl ?_
   refine ga XJ hx 52 (B 55 rfl) rfl rfl rfl ?_
   refine gl XJ hx 54 (B 56 rfl) rfl rfl ?_
   refine gc XJ hx 55 hZ eJ V_b c3 rfl rfl (B 57 rfl) rfl ?_
   refine gs XJ hx 57 _ (B 58 rfl) rfl rfl ?_
   refine gl XJ hx 59 (B 59 rfl) rfl rfl ?_
   refine gS XJ hx 62 hZ hown (W 134 rfl) (W 135 rfl) w43 (W 136 rfl) (by decide) [(.int c3)] [] (rm25 hw c3 h0 n0 Z0) eJ 0 rfl (M rfl) (lenOf pd0 rfl) (B 60 rfl) rfl rfl rfl (fun v T37 L X37 Y => ?_)
   obtain ⟨rfl, N37q, e37⟩ := Y
   have N37 := Fr.app NJ N37q
   by_cases hc38 : (own_term c3) = 0
   ·
    refine gt X37 hx 96 (B 61 rfl) ((if0 _ _).trans (teq hc38).1) rfl ?_
    refine gi X37 hx 99 (4 : Int32) #[A a, A b, I 0, I kk, J lnJ, E2, I 3, I 1, I 4, I c3, U] (B 62 rfl) rfl (by decide) rfl rfl ?_
    refine gg X37 hx 21 (B 63 rfl) rfl ?_
    exact t21_4_3z hC _ _ _ _ X37 e37 N37 (own_sA hc38 hL) (own_tA hc38 hS) (own_lek hq3 rfl)
   ·
    refine gf X37 hx 65 (B 61 rfl) ((if0 _ _).trans (feq hc38).1) rfl ?_
    refine gl X37 hx 67 (B 64 rfl) rfl rfl ?_
    refine ga X37 hx 68 (B 65 rfl) rfl rfl rfl ?_
    refine ga X37 hx 69 (B 66 rfl) rfl rfl rfl ?_
    refine gn X37 hx 70 (B 67 rfl) rfl rfl ?_
    refine gl X37 hx 72 (B 68 rfl) rfl rfl ?_
    refine g_callP X37 hx 75 hZ hown (W 161 rfl) (W 162 rfl) (W 163 rfl) (W 132 rfl) rfl w43 (W 164 rfl) (by decide) a E_a [(.ref b), (.int 0), (.int 3)] [(.int c3)] (rb_3 hw a b (0 : Int32) c0 c1 c2 c3 kA h0 n0 Z0 F_la V_b nc2) e37 1 (by decide) (by decide) (by decide) (by decide) (by rw [hml]; rfl) (lenOf pd1 rfl) (B 69 rfl) rfl (Nat.le_of_eq rfl) rfl (fun v T39 L X39 Y => ?_)
    obtain ⟨rfl, N39q, e39⟩ := Y
    have N39 := Fr.app N37 N39q
    refine gS X39 hx 78 hZ hown (W 165 rfl) (W 166 rfl) w43 (W 167 rfl) (by decide) [(.int c3), (.int c2)] [] (rm31 hw c3 c2 h0 n0 Z0) e39 0 rfl (M rfl) (lenOf pd2 rfl) (B 70 rfl) rfl rfl rfl (fun v T40 L X40 Y => ?_)
    obtain ⟨rfl, N40q, e40⟩ := Y
    have N40 := Fr.app N39 N40q
    by_cases hc41 : (own_ends c3 c2) = 0
    ·
     refine gt X40 hx 87 (B 71 rfl) ((if0 _ _).trans (teq hc41).1) rfl ?_
     refine gl X40 hx 89 (B 72 rfl) rfl rfl ?_
     refine gk X40 hx 90 1 (B 73 rfl) rfl rfl ?_
     refine gp X40 hx 91 (4 : Int32) (B 74 rfl) (by decide) rfl ?_
     refine gs X40 hx 93 #[A a, A b, I 0, I kk, J lnJ, E2, I 4, I 1, I 3, I c3, U] (B 75 rfl) rfl rfl ?_
     refine gk X40 hx 94 1 (B 76 rfl) rfl rfl ?_
     refine gs X40 hx 96 _ (B 77 rfl) rfl rfl ?_
     refine gi X40 hx 99 (4 : Int32) #[A a, A b, I 0, I kk, J lnJ, E2, I 4, I 1, I 4, I c3, U] (B 62 rfl) rfl (by decide) rfl rfl ?_
     refine gg X40 hx 21 (B 63 rfl) rfl ?_
     exact t21_4_4z hC _ _ _ _ X40 e40 N40 (own_sB hc38 hc41 hL) (own_tB hc38) (own_lek hq3 rfl)
    ·
     refine gf X40 hx 81 (B 71 rfl) ((if0 _ _).trans (feq hc41).1) rfl ?_
     refine g_lload X40 hx 83 (B 78 rfl) rfl rfl ?_
     refine g_lconst X40 hx 84 (1 : Int64) (B 79 rfl) (by decide) rfl ?_
     refine g_ladd X40 hx 85 (lnJ + (1 : Int64)) (B 80 rfl) rfl rfl ?_
     refine g_lstore X40 hx 87 #[A a, A b, I 0, I kk, J (lnJ + (1 : Int64)), E2, I 3, I 1, I 3, I c3, U] (B 81 rfl) rfl rfl ?_
     refine gl X40 hx 89 (B 72 rfl) rfl rfl ?_
     refine gk X40 hx 90 1 (B 73 rfl) rfl rfl ?_
     refine gp X40 hx 91 (4 : Int32) (B 74 rfl) (by decide) rfl ?_
     refine gs X40 hx 93 _ (B 75 rfl) rfl rfl ?_
     refine gk X40 hx 94 1 (B 76 rfl) rfl rfl ?_
     refine gs X40 hx 96 #[A a, A b, I 0, I kk, J (lnJ + (1 : Int64)), E2, I 4, I 1, I 3, I c3, U] (B 77 rfl) rfl rfl ?_
     refine gi X40 hx 99 (4 : Int32) _ (B 62 rfl) rfl (by decide) rfl rfl ?_
     refine gg X40 hx 21 (B 63 rfl) rfl ?_
     exact t21_4_4z hC _ _ _ _ X40 e40 N40 (own_sC hc38 hc41 hL) (own_tB hc38) (own_lek hq3 rfl)
 ·
  obtain rfl : kk = 3 := own_eqk hi hq3
  refine gT XJ hx 42 (B 2 rfl) (by decide) rfl ?_
  refine gl XJ hx 44 (B 3 rfl) rfl rfl ?_
  refine gn XJ hx 45 (B 4 rfl) rfl rfl ?_
  refine gF XJ hx 48 (B 5 rfl) (by decide) rfl ?_
  refine gg XJ hx 102 (B 6 rfl) rfl ?_
  refine gk XJ hx 103 0 (B 7 rfl) rfl rfl ?_
  refine gs XJ hx 105 _ (B 8 rfl) rfl rfl ?_
  refine gl XJ hx 107 (B 9 rfl) rfl rfl ?_
  refine gs XJ hx 109 #[A a, A b, I 0, I 3, J lnJ, E2, I 3, I 1, I 3, I 0, I 3] (B 10 rfl) rfl rfl ?_
  refine gl XJ hx 111 (B 11 rfl) rfl rfl ?_
  refine gn XJ hx 112 (B 12 rfl) rfl rfl ?_
  refine gT XJ hx 148 (B 13 rfl) (by decide) rfl ?_
  refine ga XJ hx 149 (B 14 rfl) rfl rfl rfl ?_
  refine g_lload XJ hx 151 (B 15 rfl) rfl rfl ?_
  refine gP XJ hx 154 hZ hown (host := "") (Or.inl (W 48 rfl)) Via.refl eJ F_ln E_a (Or.inl (W 49 rfl)) w42 (ty := .long) (by decide) rfl rfl (B 16 rfl) rfl (fun T42 h42 X42 e42 W42 => ?_)
  have E_a := E_a.wr W42
  have F_ln := F_ln.same W42
  have F_co := F_co.other W42 (Or.inr (sn0 hw))
  have F_la := F_la.other W42 (Or.inr (sn1 hw))
  have V_b := V_b.other W42 (Ne.symm ne_a_b)
  have N42 := Fr.snoc X42 NJ g_a
  have Z42 : n0 ≤ h42.size := by rw [W42.size]; exact Z0
  have K42 := K0.wr W42 (Or.inl (List.mem_of_getElem? (i := 0) rfl))
  refine ga X42 hx 155 (B 17 rfl) rfl rfl rfl ?_
  refine gl X42 hx 157 (B 18 rfl) rfl rfl ?_
  refine gf X42 hx 160 (B 19 rfl) (by decide) rfl ?_
  refine g_lconst X42 hx 161 (1 : Int64) (B 20 rfl) (by decide) rfl ?_
  refine gg X42 hx 168 (B 21 rfl) rfl ?_
  refine gn X42 hx 169 (B 22 rfl) rfl rfl ?_
  refine gl X42 hx 171 (B 23 rfl) rfl rfl ?_
  refine gm X42 hx 172 (0 : Int32) (B 24 rfl) (by decide) rfl ?_
  refine gL X42 hx 173 (0 : Int64) (B 25 rfl) (by decide) rfl ?_
  refine g_ladd X42 hx 174 (1 : Int64) (B 26 rfl) (by decide) rfl ?_
  refine gl X42 hx 176 (B 27 rfl) rfl rfl ?_
  refine gL X42 hx 177 (0 : Int64) (B 28 rfl) (by decide) rfl ?_
  refine g_lsub X42 hx 178 (1 : Int64) (B 29 rfl) (by decide) rfl ?_
  refine gP X42 hx 181 hZ hown (host := "") (Or.inl (W 50 rfl)) Via.refl e42 F_co E_a (Or.inl (W 51 rfl)) w42 (ty := .long) (by decide) rfl rfl (B 30 rfl) rfl (fun T43 h43 X43 e43 W43 => ?_)
  have E_a := E_a.wr W43
  have F_ln := F_ln.other W43 (Or.inr (sn2 hw))
  have F_co := F_co.same W43
  have F_la := F_la.other W43 (Or.inr (sn3 hw))
  have V_b := V_b.other W43 (Ne.symm ne_a_b)
  have N43 := Fr.snoc X43 N42 g_a
  have Z43 : n0 ≤ h43.size := by rw [W43.size]; exact Z42
  have K43 := K42.wr W43 (Or.inl (List.mem_of_getElem? (i := 0) rfl))
  refine ga X43 hx 182 (B 31 rfl) rfl rfl rfl ?_
  refine ga X43 hx 183 (B 32 rfl) rfl rfl rfl ?_
  refine gn X43 hx 184 (B 33 rfl) rfl rfl ?_
  refine gk X43 hx 185 1 (B 34 rfl) rfl rfl ?_
  refine gm X43 hx 186 (2 : Int32) (B 35 rfl) (by decide) rfl ?_
  refine gc X43 hx 187 hZ e43 V_b c2 rfl rfl (B 36 rfl) rfl ?_
  refine gP X43 hx 190 hZ hown (host := "") (Or.inl (W 142 rfl)) Via.refl e43 F_la E_a (Or.inl (W 143 rfl)) w42 (ty := .char) (by decide) (own_nrw nc2) (own_fit nc2) (B 37 rfl) rfl (fun T44 h44 X44 e44 W44 => ?_)
  have E_a := E_a.wr W44
  have F_ln := F_ln.other W44 (Or.inr (sn4 hw))
  have F_co := F_co.other W44 (Or.inr (sn5 hw))
  have F_la := F_la.same W44
  have V_b := V_b.other W44 (Ne.symm ne_a_b)
  have N44 := Fr.snoc X44 N43 g_a
  have Z44 : n0 ≤ h44.size := by rw [W44.size]; exact Z43
  have K44 := K43.wr W44 (Or.inl (List.mem_of_getElem? (i := 0) rfl))
  exact g_retV X44 hx hret hlk (B 38 rfl) (by decide) (by decide) (by rw [e44, show own_LL (3 : Int32) c0 c1 c2 c3 ln0 = lnJ from hL.symm, show own_SS (3 : Int32) c0 c1 c2 c3 = 3 from hS, show own_colf (3 : Int32) (3 : Int32) = (1 : Int64) from by decide]; exact ⟨rfl, N44, K44, E_a, F_ln, F_co, F_la⟩)
set_option maxRecDepth 65536 in
set_option maxHeartbeats 40000000 in
theorem t21_3_2z (hC : rpC l Z a0 a b kk ln0 c0 c1 c2 c3 kA h0 n0 p s m meth cO) (lnJ : Int64) (z9 : Int32) (TK : State) (locsJ : List Loc) (XJ : Stand p l e (⟨1, 0, 0, 24⟩ : Room) s m ([(.ref a), (.ref b), (.int 0), (.int kk)] : List Value).toArray below meth cO TK locsJ 0 0) (eJ : TK.heap = h0) (NJ : Fr n0 locsJ) (hL : lnJ = (own_step c2 c1 (own_step c1 c0 (own_step c0 0 ln0)))) (hS : (own_st c2 3 (own_st c1 2 (own_st c0 1 (0 : Int32)))) = 2) (hi : ¬ kk < 3) :
  Go p e below (fun o t L => FrameEnd s o t L (⟨1, 0, 0, 24⟩ : Room).cells (⟨1, 0, 0, 24⟩ : Room).slots) (fun v h L => v = none ∧ Fr n0 L ∧ Keep h0 h [a] ∧ Exa Z h a "gleanwell/Position" ∧ Fld Z h a "gleanwell/Position" "line" "J" (.long (own_LL kk c0 c1 c2 c3 ln0)) ∧ Fld Z h a "gleanwell/Position" "column" "J" (.long (own_colf kk (own_SS kk c0 c1 c2 c3))) ∧ Fld Z h a "gleanwell/Position" "last" "C" (.int (own_CC kk c0 c1 c2 c3))) TK (mkF m 21 #[A a, A b, I 0, I kk, J lnJ, E2, I 2, I 1, I 3, I z9, U] []) := by
 obtain ⟨hw, Z0, g_a, hk1, hk4, E_a, F_ln, F_co, F_la, V_b, nc0, nc1, nc2, nc3, hc0, hc1, hc2, hc3, ne_a_b, hx, hby, hml, hown, hnm, hret, hlk, hZ⟩ := id hC
 have K0 := Keep.refl h0 [a]
 have hown : s.vm.findClass "gleanwell/Position" = some m.cls := hown
 have B {q r} (i : Nat) := own_B (q := q) (r := r) hby D24_ok i
 have W {d : Jvm.Cond} (i : Nat) (h : tables_1[i]? = some d) : d.before a0 Z = true := own_w hw i h
 have w43 := W 43 rfl
 have w42 := W 42 rfl
 have M {n : Nat} (h : n = _) : n = cO.maxLocals := h.trans hml.symm
 refine gl XJ hx 23 (B 0 rfl) rfl rfl ?_
 refine gn XJ hx 24 (B 1 rfl) rfl rfl ?_
 by_cases hq3 : (3 : Int32) < kk
 ·
  refine gF XJ hx 27 (B 2 rfl) (tlt hq3).2.1 rfl ?_
  refine ga XJ hx 28 (B 48 rfl) rfl rfl rfl ?_
  refine gl XJ hx 30 (B 49 rfl) rfl rfl ?_
  refine gc XJ hx 31 hZ eJ V_b c3 rfl rfl (B 50 rfl) rfl ?_
  refine gb XJ hx 33 13 (B 51 rfl) rfl rfl ?_
  by_cases hc45 : (13 : Int32) < c3
  ·
   refine gF XJ hx 36 (B 52 rfl) (tlt hc45).2.2.2 rfl ?_
   refine gi XJ hx 39 (4 : Int32) _ (B 53 rfl) rfl (by decide) rfl rfl ?_
   refine gg XJ hx 21 (B 54 rfl) rfl ?_
   exact t21_4_2z hC _ _ _ _ XJ eJ NJ (own_sA (own_term_gt hc45) hL) (own_tA (own_term_gt hc45) hS) (own_lek hq3 rfl)
  ·
   refine gT XJ hx 42 (B 52 rfl) (flt hc45).2.2.2 rfl ?_
   refine gl XJ hx 44 (B 3 rfl) rfl rfl ?_
   refine gn XJ hx 45 (B 4 rfl) rfl rfl ?_
   have hk46 : ¬ ((3 : Int32) = kk) := own_neq hq3
   refine gT XJ hx 51 (B 5 rfl) (feq hk46).2 rfl ?_
   refine ga XJ hx 52 (B 55 rfl) rfl rfl rfl ?_
   refine gl XJ hx 54 (B 56 rfl) rfl rfl ?_
   refine gc XJ hx 55 hZ eJ V_b c3 rfl rfl (B 57 rfl) rfl ?_
   refine gs XJ hx 57 _ (B 58 rfl) rfl rfl ?_
   refine gl XJ hx 59 (B 59 rfl) rfl rfl ?_
   refine gS XJ hx 62 hZ hown (W 134 rfl) (W 135 rfl) w43 (W 136 rfl) (by decide) [(.int c3)] [] (rm25 hw c3 h0 n0 Z0) eJ 0 rfl (M rfl) (lenOf pd0 rfl) (B 60 rfl) rfl rfl rfl (fun v T47 L X47 Y => ?_)
   obtain ⟨rfl, N47q, e47⟩ := Y
   have N47 := Fr.app NJ N47q
   by_cases hc48 : (own_term c3) = 0
   ·
    refine gt X47 hx 96 (B 61 rfl) ((if0 _ _).trans (teq hc48).1) rfl ?_
    refine gi X47 hx 99 (4 : Int32) #[A a, A b, I 0, I kk, J lnJ, E2, I 2, I 1, I 4, I c3, U] (B 62 rfl) rfl (by decide) rfl rfl ?_
    refine gg X47 hx 21 (B 63 rfl) rfl ?_
    exact t21_4_2z hC _ _ _ _ X47 e47 N47 (own_sA hc48 hL) (own_tA hc48 hS) (own_lek hq3 rfl)
   ·
    refine gf X47 hx 65 (B 61 rfl) ((if0 _ _).trans (feq hc48).1) rfl ?_
    refine gl X47 hx 67 (B 64 rfl) rfl rfl ?_
    refine ga X47 hx 68 (B 65 rfl) rfl rfl rfl ?_
    refine ga X47 hx 69 (B 66 rfl) rfl rfl rfl ?_
    refine gn X47 hx 70 (B 67 rfl) rfl rfl ?_
    refine gl X47 hx 72 (B 68 rfl) rfl rfl ?_
    refine g_callP X47 hx 75 hZ hown (W 161 rfl) (W 162 rfl) (W 163 rfl) (W 132 rfl) rfl w43 (W 164 rfl) (by decide) a E_a [(.ref b), (.int 0), (.int 3)] [(.int c3)] (rb_3 hw a b (0 : Int32) c0 c1 c2 c3 kA h0 n0 Z0 F_la V_b nc2) e47 1 (by decide) (by decide) (by decide) (by decide) (by rw [hml]; rfl) (lenOf pd1 rfl) (B 69 rfl) rfl (Nat.le_of_eq rfl) rfl (fun v T49 L X49 Y => ?_)
    obtain ⟨rfl, N49q, e49⟩ := Y
    have N49 := Fr.app N47 N49q
    refine gS X49 hx 78 hZ hown (W 165 rfl) (W 166 rfl) w43 (W 167 rfl) (by decide) [(.int c3), (.int c2)] [] (rm31 hw c3 c2 h0 n0 Z0) e49 0 rfl (M rfl) (lenOf pd2 rfl) (B 70 rfl) rfl rfl rfl (fun v T50 L X50 Y => ?_)
    obtain ⟨rfl, N50q, e50⟩ := Y
    have N50 := Fr.app N49 N50q
    by_cases hc51 : (own_ends c3 c2) = 0
    ·
     refine gt X50 hx 87 (B 71 rfl) ((if0 _ _).trans (teq hc51).1) rfl ?_
     refine gl X50 hx 89 (B 72 rfl) rfl rfl ?_
     refine gk X50 hx 90 1 (B 73 rfl) rfl rfl ?_
     refine gp X50 hx 91 (4 : Int32) (B 74 rfl) (by decide) rfl ?_
     refine gs X50 hx 93 #[A a, A b, I 0, I kk, J lnJ, E2, I 4, I 1, I 3, I c3, U] (B 75 rfl) rfl rfl ?_
     refine gk X50 hx 94 1 (B 76 rfl) rfl rfl ?_
     refine gs X50 hx 96 _ (B 77 rfl) rfl rfl ?_
     refine gi X50 hx 99 (4 : Int32) #[A a, A b, I 0, I kk, J lnJ, E2, I 4, I 1, I 4, I c3, U] (B 62 rfl) rfl (by decide) rfl rfl ?_
     refine gg X50 hx 21 (B 63 rfl) rfl ?_
     exact t21_4_4z hC _ _ _ _ X50 e50 N50 (own_sB hc48 hc51 hL) (own_tB hc48) (own_lek hq3 rfl)
    ·
     refine gf X50 hx 81 (B 71 rfl) ((if0 _ _).trans (feq hc51).1) rfl ?_
     refine g_lload X50 hx 83 (B 78 rfl) rfl rfl ?_
     refine g_lconst X50 hx 84 (1 : Int64) (B 79 rfl) (by decide) rfl ?_
     refine g_ladd X50 hx 85 (lnJ + (1 : Int64)) (B 80 rfl) rfl rfl ?_
     refine g_lstore X50 hx 87 #[A a, A b, I 0, I kk, J (lnJ + (1 : Int64)), E2, I 2, I 1, I 3, I c3, U] (B 81 rfl) rfl rfl ?_
     refine gl X50 hx 89 (B 72 rfl) rfl rfl ?_
     refine gk X50 hx 90 1 (B 73 rfl) rfl rfl ?_
     refine gp X50 hx 91 (4 : Int32) (B 74 rfl) (by decide) rfl ?_
     refine gs X50 hx 93 _ (B 75 rfl) rfl rfl ?_
     refine gk X50 hx 94 1 (B 76 rfl) rfl rfl ?_
     refine gs X50 hx 96 #[A a, A b, I 0, I kk, J (lnJ + (1 : Int64)), E2, I 4, I 1, I 3, I c3, U] (B 77 rfl) rfl rfl ?_
     refine gi X50 hx 99 (4 : Int32) _ (B 62 rfl) rfl (by decide) rfl rfl ?_
     refine gg X50 hx 21 (B 63 rfl) rfl ?_
     exact t21_4_4z hC _ _ _ _ X50 e50 N50 (own_sC hc48 hc51 hL) (own_tB hc48) (own_lek hq3 rfl)
 ·
  obtain rfl : kk = 3 := own_eqk hi hq3
  refine gT XJ hx 42 (B 2 rfl) (by decide) rfl ?_
  refine gl XJ hx 44 (B 3 rfl) rfl rfl ?_
  refine gn XJ hx 45 (B 4 rfl) rfl rfl ?_
  refine gF XJ hx 48 (B 5 rfl) (by decide) rfl ?_
  refine gg XJ hx 102 (B 6 rfl) rfl ?_
  refine gk XJ hx 103 0 (B 7 rfl) rfl rfl ?_
  refine gs XJ hx 105 _ (B 8 rfl) rfl rfl ?_
  refine gl XJ hx 107 (B 9 rfl) rfl rfl ?_
  refine gs XJ hx 109 #[A a, A b, I 0, I 3, J lnJ, E2, I 2, I 1, I 3, I 0, I 2] (B 10 rfl) rfl rfl ?_
  refine gl XJ hx 111 (B 11 rfl) rfl rfl ?_
  refine gn XJ hx 112 (B 12 rfl) rfl rfl ?_
  refine gF XJ hx 115 (B 13 rfl) (by decide) rfl ?_
  refine ga XJ hx 116 (B 39 rfl) rfl rfl rfl ?_
  refine gl XJ hx 118 (B 40 rfl) rfl rfl ?_
  refine gc XJ hx 119 hZ eJ V_b c2 rfl rfl (B 41 rfl) rfl ?_
  refine gS XJ hx 122 hZ hown (W 137 rfl) (W 138 rfl) (W 139 rfl) (W 140 rfl) (by decide) [(.int c2)] [] (rm26 hw c2 h0 n0 Z0 hc2) eJ 0 rfl (M rfl) (lenOf pd0 rfl) (B 42 rfl) rfl rfl rfl (fun v T52 L X52 Y => ?_)
  obtain ⟨rfl, N52q, e52⟩ := Y
  have N52 := Fr.app NJ N52q
  refine gt X52 hx 142 (B 43 rfl) (by decide) rfl ?_
  refine gi X52 hx 145 (3 : Int32) _ (B 44 rfl) rfl (by decide) rfl rfl ?_
  refine gg X52 hx 109 (B 45 rfl) rfl ?_
  refine gl X52 hx 111 (B 11 rfl) rfl rfl ?_
  refine gn X52 hx 112 (B 12 rfl) rfl rfl ?_
  refine gT X52 hx 148 (B 13 rfl) (by decide) rfl ?_
  refine ga X52 hx 149 (B 14 rfl) rfl rfl rfl ?_
  refine g_lload X52 hx 151 (B 15 rfl) rfl rfl ?_
  refine gP X52 hx 154 hZ hown (host := "") (Or.inl (W 48 rfl)) Via.refl e52 F_ln E_a (Or.inl (W 49 rfl)) w42 (ty := .long) (by decide) rfl rfl (B 16 rfl) rfl (fun T53 h53 X53 e53 W53 => ?_)
  have E_a := E_a.wr W53
  have F_ln := F_ln.same W53
  have F_co := F_co.other W53 (Or.inr (sn0 hw))
  have F_la := F_la.other W53 (Or.inr (sn1 hw))
  have V_b := V_b.other W53 (Ne.symm ne_a_b)
  have N53 := Fr.snoc X53 N52 g_a
  have Z53 : n0 ≤ h53.size := by rw [W53.size]; exact Z0
  have K53 := K0.wr W53 (Or.inl (List.mem_of_getElem? (i := 0) rfl))
  refine ga X53 hx 155 (B 17 rfl) rfl rfl rfl ?_
  refine gl X53 hx 157 (B 18 rfl) rfl rfl ?_
  refine gf X53 hx 160 (B 19 rfl) (by decide) rfl ?_
  refine g_lconst X53 hx 161 (1 : Int64) (B 20 rfl) (by decide) rfl ?_
  refine gg X53 hx 168 (B 21 rfl) rfl ?_
  refine gn X53 hx 169 (B 22 rfl) rfl rfl ?_
  refine gl X53 hx 171 (B 23 rfl) rfl rfl ?_
  refine gm X53 hx 172 (1 : Int32) (B 24 rfl) (by decide) rfl ?_
  refine gL X53 hx 173 (1 : Int64) (B 25 rfl) (by decide) rfl ?_
  refine g_ladd X53 hx 174 (2 : Int64) (B 26 rfl) (by decide) rfl ?_
  refine gl X53 hx 176 (B 27 rfl) rfl rfl ?_
  refine gL X53 hx 177 (0 : Int64) (B 28 rfl) (by decide) rfl ?_
  refine g_lsub X53 hx 178 (2 : Int64) (B 29 rfl) (by decide) rfl ?_
  refine gP X53 hx 181 hZ hown (host := "") (Or.inl (W 50 rfl)) Via.refl e53 F_co E_a (Or.inl (W 51 rfl)) w42 (ty := .long) (by decide) rfl rfl (B 30 rfl) rfl (fun T54 h54 X54 e54 W54 => ?_)
  have E_a := E_a.wr W54
  have F_ln := F_ln.other W54 (Or.inr (sn2 hw))
  have F_co := F_co.same W54
  have F_la := F_la.other W54 (Or.inr (sn3 hw))
  have V_b := V_b.other W54 (Ne.symm ne_a_b)
  have N54 := Fr.snoc X54 N53 g_a
  have Z54 : n0 ≤ h54.size := by rw [W54.size]; exact Z53
  have K54 := K53.wr W54 (Or.inl (List.mem_of_getElem? (i := 0) rfl))
  refine ga X54 hx 182 (B 31 rfl) rfl rfl rfl ?_
  refine ga X54 hx 183 (B 32 rfl) rfl rfl rfl ?_
  refine gn X54 hx 184 (B 33 rfl) rfl rfl ?_
  refine gk X54 hx 185 1 (B 34 rfl) rfl rfl ?_
  refine gm X54 hx 186 (2 : Int32) (B 35 rfl) (by decide) rfl ?_
  refine gc X54 hx 187 hZ e54 V_b c2 rfl rfl (B 36 rfl) rfl ?_
  refine gP X54 hx 190 hZ hown (host := "") (Or.inl (W 142 rfl)) Via.refl e54 F_la E_a (Or.inl (W 143 rfl)) w42 (ty := .char) (by decide) (own_nrw nc2) (own_fit nc2) (B 37 rfl) rfl (fun T55 h55 X55 e55 W55 => ?_)
  have E_a := E_a.wr W55
  have F_ln := F_ln.other W55 (Or.inr (sn4 hw))
  have F_co := F_co.other W55 (Or.inr (sn5 hw))
  have F_la := F_la.same W55
  have V_b := V_b.other W55 (Ne.symm ne_a_b)
  have N55 := Fr.snoc X55 N54 g_a
  have Z55 : n0 ≤ h55.size := by rw [W55.size]; exact Z54
  have K55 := K54.wr W55 (Or.inl (List.mem_of_getElem? (i := 0) rfl))
  exact g_retV X55 hx hret hlk (B 38 rfl) (by decide) (by decide) (by rw [e55, show own_LL (3 : Int32) c0 c1 c2 c3 ln0 = lnJ from hL.symm, show own_SS (3 : Int32) c0 c1 c2 c3 = 2 from hS, show own_colf (3 : Int32) (2 : Int32) = (2 : Int64) from by decide]; exact ⟨rfl, N55, K55, E_a, F_ln, F_co, F_la⟩)
set_option maxRecDepth 65536 in
set_option maxHeartbeats 40000000 in
theorem t21_3_1z (hC : rpC l Z a0 a b kk ln0 c0 c1 c2 c3 kA h0 n0 p s m meth cO) (lnJ : Int64) (z9 : Int32) (TK : State) (locsJ : List Loc) (XJ : Stand p l e (⟨1, 0, 0, 24⟩ : Room) s m ([(.ref a), (.ref b), (.int 0), (.int kk)] : List Value).toArray below meth cO TK locsJ 0 0) (eJ : TK.heap = h0) (NJ : Fr n0 locsJ) (hL : lnJ = (own_step c2 c1 (own_step c1 c0 (own_step c0 0 ln0)))) (hS : (own_st c2 3 (own_st c1 2 (own_st c0 1 (0 : Int32)))) = 1) (hi : ¬ kk < 3) :
  Go p e below (fun o t L => FrameEnd s o t L (⟨1, 0, 0, 24⟩ : Room).cells (⟨1, 0, 0, 24⟩ : Room).slots) (fun v h L => v = none ∧ Fr n0 L ∧ Keep h0 h [a] ∧ Exa Z h a "gleanwell/Position" ∧ Fld Z h a "gleanwell/Position" "line" "J" (.long (own_LL kk c0 c1 c2 c3 ln0)) ∧ Fld Z h a "gleanwell/Position" "column" "J" (.long (own_colf kk (own_SS kk c0 c1 c2 c3))) ∧ Fld Z h a "gleanwell/Position" "last" "C" (.int (own_CC kk c0 c1 c2 c3))) TK (mkF m 21 #[A a, A b, I 0, I kk, J lnJ, E2, I 1, I 1, I 3, I z9, U] []) := by
 obtain ⟨hw, Z0, g_a, hk1, hk4, E_a, F_ln, F_co, F_la, V_b, nc0, nc1, nc2, nc3, hc0, hc1, hc2, hc3, ne_a_b, hx, hby, hml, hown, hnm, hret, hlk, hZ⟩ := id hC
 have K0 := Keep.refl h0 [a]
 have hown : s.vm.findClass "gleanwell/Position" = some m.cls := hown
 have B {q r} (i : Nat) := own_B (q := q) (r := r) hby D24_ok i
 have W {d : Jvm.Cond} (i : Nat) (h : tables_1[i]? = some d) : d.before a0 Z = true := own_w hw i h
 have w43 := W 43 rfl
 have w42 := W 42 rfl
 have M {n : Nat} (h : n = _) : n = cO.maxLocals := h.trans hml.symm
 refine gl XJ hx 23 (B 0 rfl) rfl rfl ?_
 refine gn XJ hx 24 (B 1 rfl) rfl rfl ?_
 by_cases hq3 : (3 : Int32) < kk
 ·
  refine gF XJ hx 27 (B 2 rfl) (tlt hq3).2.1 rfl ?_
  refine ga XJ hx 28 (B 48 rfl) rfl rfl rfl ?_
  refine gl XJ hx 30 (B 49 rfl) rfl rfl ?_
  refine gc XJ hx 31 hZ eJ V_b c3 rfl rfl (B 50 rfl) rfl ?_
  refine gb XJ hx 33 13 (B 51 rfl) rfl rfl ?_
  by_cases hc56 : (13 : Int32) < c3
  ·
   refine gF XJ hx 36 (B 52 rfl) (tlt hc56).2.2.2 rfl ?_
   refine gi XJ hx 39 (4 : Int32) _ (B 53 rfl) rfl (by decide) rfl rfl ?_
   refine gg XJ hx 21 (B 54 rfl) rfl ?_
   exact t21_4_1z hC _ _ _ _ XJ eJ NJ (own_sA (own_term_gt hc56) hL) (own_tA (own_term_gt hc56) hS) (own_lek hq3 rfl)
  ·
   refine gT XJ hx 42 (B 52 rfl) (flt hc56).2.2.2 rfl ?_
   refine gl XJ hx 44 (B 3 rfl) rfl rfl ?_
   refine gn XJ hx 45 (B 4 rfl) rfl rfl ?_
   have hk57 : ¬ ((3 : Int32) = kk) := own_neq hq3
   refine gT XJ hx 51 (B 5 rfl) (feq hk57).2 rfl ?_
   refine ga XJ hx 52 (B 55 rfl) rfl rfl rfl ?_
   refine gl XJ hx 54 (B 56 rfl) rfl rfl ?_
   refine gc XJ hx 55 hZ eJ V_b c3 rfl rfl (B 57 rfl) rfl ?_
   refine gs XJ hx 57 _ (B 58 rfl) rfl rfl ?_
   refine gl XJ hx 59 (B 59 rfl) rfl rfl ?_
   refine gS XJ hx 62 hZ hown (W 134 rfl) (W 135 rfl) w43 (W 136 rfl) (by decide) [(.int c3)] [] (rm25 hw c3 h0 n0 Z0) eJ 0 rfl (M rfl) (lenOf pd0 rfl) (B 60 rfl) rfl rfl rfl (fun v T58 L X58 Y => ?_)
   obtain ⟨rfl, N58q, e58⟩ := Y
   have N58 := Fr.app NJ N58q
   by_cases hc59 : (own_term c3) = 0
   ·
    refine gt X58 hx 96 (B 61 rfl) ((if0 _ _).trans (teq hc59).1) rfl ?_
    refine gi X58 hx 99 (4 : Int32) #[A a, A b, I 0, I kk, J lnJ, E2, I 1, I 1, I 4, I c3, U] (B 62 rfl) rfl (by decide) rfl rfl ?_
    refine gg X58 hx 21 (B 63 rfl) rfl ?_
    exact t21_4_1z hC _ _ _ _ X58 e58 N58 (own_sA hc59 hL) (own_tA hc59 hS) (own_lek hq3 rfl)
   ·
    refine gf X58 hx 65 (B 61 rfl) ((if0 _ _).trans (feq hc59).1) rfl ?_
    refine gl X58 hx 67 (B 64 rfl) rfl rfl ?_
    refine ga X58 hx 68 (B 65 rfl) rfl rfl rfl ?_
    refine ga X58 hx 69 (B 66 rfl) rfl rfl rfl ?_
    refine gn X58 hx 70 (B 67 rfl) rfl rfl ?_
    refine gl X58 hx 72 (B 68 rfl) rfl rfl ?_
    refine g_callP X58 hx 75 hZ hown (W 161 rfl) (W 162 rfl) (W 163 rfl) (W 132 rfl) rfl w43 (W 164 rfl) (by decide) a E_a [(.ref b), (.int 0), (.int 3)] [(.int c3)] (rb_3 hw a b (0 : Int32) c0 c1 c2 c3 kA h0 n0 Z0 F_la V_b nc2) e58 1 (by decide) (by decide) (by decide) (by decide) (by rw [hml]; rfl) (lenOf pd1 rfl) (B 69 rfl) rfl (Nat.le_of_eq rfl) rfl (fun v T60 L X60 Y => ?_)
    obtain ⟨rfl, N60q, e60⟩ := Y
    have N60 := Fr.app N58 N60q
    refine gS X60 hx 78 hZ hown (W 165 rfl) (W 166 rfl) w43 (W 167 rfl) (by decide) [(.int c3), (.int c2)] [] (rm31 hw c3 c2 h0 n0 Z0) e60 0 rfl (M rfl) (lenOf pd2 rfl) (B 70 rfl) rfl rfl rfl (fun v T61 L X61 Y => ?_)
    obtain ⟨rfl, N61q, e61⟩ := Y
    have N61 := Fr.app N60 N61q
    by_cases hc62 : (own_ends c3 c2) = 0
    ·
     refine gt X61 hx 87 (B 71 rfl) ((if0 _ _).trans (teq hc62).1) rfl ?_
     refine gl X61 hx 89 (B 72 rfl) rfl rfl ?_
     refine gk X61 hx 90 1 (B 73 rfl) rfl rfl ?_
     refine gp X61 hx 91 (4 : Int32) (B 74 rfl) (by decide) rfl ?_
     refine gs X61 hx 93 #[A a, A b, I 0, I kk, J lnJ, E2, I 4, I 1, I 3, I c3, U] (B 75 rfl) rfl rfl ?_
     refine gk X61 hx 94 1 (B 76 rfl) rfl rfl ?_
     refine gs X61 hx 96 _ (B 77 rfl) rfl rfl ?_
     refine gi X61 hx 99 (4 : Int32) #[A a, A b, I 0, I kk, J lnJ, E2, I 4, I 1, I 4, I c3, U] (B 62 rfl) rfl (by decide) rfl rfl ?_
     refine gg X61 hx 21 (B 63 rfl) rfl ?_
     exact t21_4_4z hC _ _ _ _ X61 e61 N61 (own_sB hc59 hc62 hL) (own_tB hc59) (own_lek hq3 rfl)
    ·
     refine gf X61 hx 81 (B 71 rfl) ((if0 _ _).trans (feq hc62).1) rfl ?_
     refine g_lload X61 hx 83 (B 78 rfl) rfl rfl ?_
     refine g_lconst X61 hx 84 (1 : Int64) (B 79 rfl) (by decide) rfl ?_
     refine g_ladd X61 hx 85 (lnJ + (1 : Int64)) (B 80 rfl) rfl rfl ?_
     refine g_lstore X61 hx 87 #[A a, A b, I 0, I kk, J (lnJ + (1 : Int64)), E2, I 1, I 1, I 3, I c3, U] (B 81 rfl) rfl rfl ?_
     refine gl X61 hx 89 (B 72 rfl) rfl rfl ?_
     refine gk X61 hx 90 1 (B 73 rfl) rfl rfl ?_
     refine gp X61 hx 91 (4 : Int32) (B 74 rfl) (by decide) rfl ?_
     refine gs X61 hx 93 _ (B 75 rfl) rfl rfl ?_
     refine gk X61 hx 94 1 (B 76 rfl) rfl rfl ?_
     refine gs X61 hx 96 #[A a, A b, I 0, I kk, J (lnJ + (1 : Int64)), E2, I 4, I 1, I 3, I c3, U] (B 77 rfl) rfl rfl ?_
     refine gi X61 hx 99 (4 : Int32) _ (B 62 rfl) rfl (by decide) rfl rfl ?_
     refine gg X61 hx 21 (B 63 rfl) rfl ?_
     exact t21_4_4z hC _ _ _ _ X61 e61 N61 (own_sC hc59 hc62 hL) (own_tB hc59) (own_lek hq3 rfl)
 ·
  obtain rfl : kk = 3 := own_eqk hi hq3
  refine gT XJ hx 42 (B 2 rfl) (by decide) rfl ?_
  refine gl XJ hx 44 (B 3 rfl) rfl rfl ?_
  refine gn XJ hx 45 (B 4 rfl) rfl rfl ?_
  refine gF XJ hx 48 (B 5 rfl) (by decide) rfl ?_
  refine gg XJ hx 102 (B 6 rfl) rfl ?_
  refine gk XJ hx 103 0 (B 7 rfl) rfl rfl ?_
  refine gs XJ hx 105 _ (B 8 rfl) rfl rfl ?_
  refine gl XJ hx 107 (B 9 rfl) rfl rfl ?_
  refine gs XJ hx 109 #[A a, A b, I 0, I 3, J lnJ, E2, I 1, I 1, I 3, I 0, I 1] (B 10 rfl) rfl rfl ?_
  refine gl XJ hx 111 (B 11 rfl) rfl rfl ?_
  refine gn XJ hx 112 (B 12 rfl) rfl rfl ?_
  refine gF XJ hx 115 (B 13 rfl) (by decide) rfl ?_
  refine ga XJ hx 116 (B 39 rfl) rfl rfl rfl ?_
  refine gl XJ hx 118 (B 40 rfl) rfl rfl ?_
  refine gc XJ hx 119 hZ eJ V_b c1 rfl rfl (B 41 rfl) rfl ?_
  refine gS XJ hx 122 hZ hown (W 137 rfl) (W 138 rfl) (W 139 rfl) (W 140 rfl) (by decide) [(.int c1)] [] (rm26 hw c1 h0 n0 Z0 hc1) eJ 0 rfl (M rfl) (lenOf pd0 rfl) (B 42 rfl) rfl rfl rfl (fun v T63 L X63 Y => ?_)
  obtain ⟨rfl, N63q, e63⟩ := Y
  have N63 := Fr.app NJ N63q
  refine gt X63 hx 142 (B 43 rfl) (by decide) rfl ?_
  refine gi X63 hx 145 (2 : Int32) _ (B 44 rfl) rfl (by decide) rfl rfl ?_
  refine gg X63 hx 109 (B 45 rfl) rfl ?_
  refine gl X63 hx 111 (B 11 rfl) rfl rfl ?_
  refine gn X63 hx 112 (B 12 rfl) rfl rfl ?_
  refine gF X63 hx 115 (B 13 rfl) (by decide) rfl ?_
  refine ga X63 hx 116 (B 39 rfl) rfl rfl rfl ?_
  refine gl X63 hx 118 (B 40 rfl) rfl rfl ?_
  refine gc X63 hx 119 hZ e63 V_b c2 rfl rfl (B 41 rfl) rfl ?_
  refine gS X63 hx 122 hZ hown (W 137 rfl) (W 138 rfl) (W 139 rfl) (W 140 rfl) (by decide) [(.int c2)] [] (rm26 hw c2 h0 n0 Z0 hc2) e63 0 rfl (M rfl) (lenOf pd0 rfl) (B 42 rfl) rfl rfl rfl (fun v T64 L X64 Y => ?_)
  obtain ⟨rfl, N64q, e64⟩ := Y
  have N64 := Fr.app N63 N64q
  refine gt X64 hx 142 (B 43 rfl) (by decide) rfl ?_
  refine gi X64 hx 145 (3 : Int32) #[A a, A b, I 0, I 3, J lnJ, E2, I 1, I 1, I 3, I 0, I 3] (B 44 rfl) rfl (by decide) rfl rfl ?_
  refine gg X64 hx 109 (B 45 rfl) rfl ?_
  refine gl X64 hx 111 (B 11 rfl) rfl rfl ?_
  refine gn X64 hx 112 (B 12 rfl) rfl rfl ?_
  refine gT X64 hx 148 (B 13 rfl) (by decide) rfl ?_
  refine ga X64 hx 149 (B 14 rfl) rfl rfl rfl ?_
  refine g_lload X64 hx 151 (B 15 rfl) rfl rfl ?_
  refine gP X64 hx 154 hZ hown (host := "") (Or.inl (W 48 rfl)) Via.refl e64 F_ln E_a (Or.inl (W 49 rfl)) w42 (ty := .long) (by decide) rfl rfl (B 16 rfl) rfl (fun T65 h65 X65 e65 W65 => ?_)
  have E_a := E_a.wr W65
  have F_ln := F_ln.same W65
  have F_co := F_co.other W65 (Or.inr (sn0 hw))
  have F_la := F_la.other W65 (Or.inr (sn1 hw))
  have V_b := V_b.other W65 (Ne.symm ne_a_b)
  have N65 := Fr.snoc X65 N64 g_a
  have Z65 : n0 ≤ h65.size := by rw [W65.size]; exact Z0
  have K65 := K0.wr W65 (Or.inl (List.mem_of_getElem? (i := 0) rfl))
  refine ga X65 hx 155 (B 17 rfl) rfl rfl rfl ?_
  refine gl X65 hx 157 (B 18 rfl) rfl rfl ?_
  refine gf X65 hx 160 (B 19 rfl) (by decide) rfl ?_
  refine g_lconst X65 hx 161 (1 : Int64) (B 20 rfl) (by decide) rfl ?_
  refine gg X65 hx 168 (B 21 rfl) rfl ?_
  refine gn X65 hx 169 (B 22 rfl) rfl rfl ?_
  refine gl X65 hx 171 (B 23 rfl) rfl rfl ?_
  refine gm X65 hx 172 (2 : Int32) (B 24 rfl) (by decide) rfl ?_
  refine gL X65 hx 173 (2 : Int64) (B 25 rfl) (by decide) rfl ?_
  refine g_ladd X65 hx 174 (3 : Int64) (B 26 rfl) (by decide) rfl ?_
  refine gl X65 hx 176 (B 27 rfl) rfl rfl ?_
  refine gL X65 hx 177 (0 : Int64) (B 28 rfl) (by decide) rfl ?_
  refine g_lsub X65 hx 178 (3 : Int64) (B 29 rfl) (by decide) rfl ?_
  refine gP X65 hx 181 hZ hown (host := "") (Or.inl (W 50 rfl)) Via.refl e65 F_co E_a (Or.inl (W 51 rfl)) w42 (ty := .long) (by decide) rfl rfl (B 30 rfl) rfl (fun T66 h66 X66 e66 W66 => ?_)
  have E_a := E_a.wr W66
  have F_ln := F_ln.other W66 (Or.inr (sn2 hw))
  have F_co := F_co.same W66
  have F_la := F_la.other W66 (Or.inr (sn3 hw))
  have V_b := V_b.other W66 (Ne.symm ne_a_b)
  have N66 := Fr.snoc X66 N65 g_a
  have Z66 : n0 ≤ h66.size := by rw [W66.size]; exact Z65
  have K66 := K65.wr W66 (Or.inl (List.mem_of_getElem? (i := 0) rfl))
  refine ga X66 hx 182 (B 31 rfl) rfl rfl rfl ?_
  refine ga X66 hx 183 (B 32 rfl) rfl rfl rfl ?_
  refine gn X66 hx 184 (B 33 rfl) rfl rfl ?_
  refine gk X66 hx 185 1 (B 34 rfl) rfl rfl ?_
  refine gm X66 hx 186 (2 : Int32) (B 35 rfl) (by decide) rfl ?_
  refine gc X66 hx 187 hZ e66 V_b c2 rfl rfl (B 36 rfl) rfl ?_
  refine gP X66 hx 190 hZ hown (host := "") (Or.inl (W 142 rfl)) Via.refl e66 F_la E_a (Or.inl (W 143 rfl)) w42 (ty := .char) (by decide) (own_nrw nc2) (own_fit nc2) (B 37 rfl) rfl (fun T67 h67 X67 e67 W67 => ?_)
  have E_a := E_a.wr W67
  have F_ln := F_ln.other W67 (Or.inr (sn4 hw))
  have F_co := F_co.other W67 (Or.inr (sn5 hw))
  have F_la := F_la.same W67
  have V_b := V_b.other W67 (Ne.symm ne_a_b)
  have N67 := Fr.snoc X67 N66 g_a
  have Z67 : n0 ≤ h67.size := by rw [W67.size]; exact Z66
  have K67 := K66.wr W67 (Or.inl (List.mem_of_getElem? (i := 0) rfl))
  exact g_retV X67 hx hret hlk (B 38 rfl) (by decide) (by decide) (by rw [e67, show own_LL (3 : Int32) c0 c1 c2 c3 ln0 = lnJ from hL.symm, show own_SS (3 : Int32) c0 c1 c2 c3 = 1 from hS, show own_colf (3 : Int32) (1 : Int32) = (3 : Int64) from by decide]; exact ⟨rfl, N67, K67, E_a, F_ln, F_co, F_la⟩)
set_option maxRecDepth 65536 in
set_option maxHeartbeats 40000000 in
theorem t21_3_0u (hC : rpC l Z a0 a b kk ln0 c0 c1 c2 c3 kA h0 n0 p s m meth cO) (lnJ : Int64) (TK : State) (locsJ : List Loc) (XJ : Stand p l e (⟨1, 0, 0, 24⟩ : Room) s m ([(.ref a), (.ref b), (.int 0), (.int kk)] : List Value).toArray below meth cO TK locsJ 0 0) (eJ : TK.heap = h0) (NJ : Fr n0 locsJ) (hL : lnJ = (own_step c2 c1 (own_step c1 c0 (own_step c0 0 ln0)))) (hS : (own_st c2 3 (own_st c1 2 (own_st c0 1 (0 : Int32)))) = 0) (hi : ¬ kk < 3) :
  Go p e below (fun o t L => FrameEnd s o t L (⟨1, 0, 0, 24⟩ : Room).cells (⟨1, 0, 0, 24⟩ : Room).slots) (fun v h L => v = none ∧ Fr n0 L ∧ Keep h0 h [a] ∧ Exa Z h a "gleanwell/Position" ∧ Fld Z h a "gleanwell/Position" "line" "J" (.long (own_LL kk c0 c1 c2 c3 ln0)) ∧ Fld Z h a "gleanwell/Position" "column" "J" (.long (own_colf kk (own_SS kk c0 c1 c2 c3))) ∧ Fld Z h a "gleanwell/Position" "last" "C" (.int (own_CC kk c0 c1 c2 c3))) TK (mkF m 21 #[A a, A b, I 0, I kk, J lnJ, E2, I 0, I 0, I 3, U, U] []) := by
 obtain ⟨hw, Z0, g_a, hk1, hk4, E_a, F_ln, F_co, F_la, V_b, nc0, nc1, nc2, nc3, hc0, hc1, hc2, hc3, ne_a_b, hx, hby, hml, hown, hnm, hret, hlk, hZ⟩ := id hC
 have K0 := Keep.refl h0 [a]
 have hown : s.vm.findClass "gleanwell/Position" = some m.cls := hown
 have B {q r} (i : Nat) := own_B (q := q) (r := r) hby D24_ok i
 have W {d : Jvm.Cond} (i : Nat) (h : tables_1[i]? = some d) : d.before a0 Z = true := own_w hw i h
 have w43 := W 43 rfl
 have w42 := W 42 rfl
 have M {n : Nat} (h : n = _) : n = cO.maxLocals := h.trans hml.symm
 refine gl XJ hx 23 (B 0 rfl) rfl rfl ?_
 refine gn XJ hx 24 (B 1 rfl) rfl rfl ?_
 by_cases hq3 : (3 : Int32) < kk
 ·
  refine gF XJ hx 27 (B 2 rfl) (tlt hq3).2.1 rfl ?_
  refine ga XJ hx 28 (B 48 rfl) rfl rfl rfl ?_
  refine gl XJ hx 30 (B 49 rfl) rfl rfl ?_
  refine gc XJ hx 31 hZ eJ V_b c3 rfl rfl (B 50 rfl) rfl ?_
  refine gb XJ hx 33 13 (B 51 rfl) rfl rfl ?_
  by_cases hc68 : (13 : Int32) < c3
  ·
   refine gF XJ hx 36 (B 52 rfl) (tlt hc68).2.2.2 rfl ?_
   refine gi XJ hx 39 (4 : Int32) _ (B 53 rfl) rfl (by decide) rfl rfl ?_
   refine gg XJ hx 21 (B 54 rfl) rfl ?_
   exact t21_4_0u hC _ _ _ XJ eJ NJ (own_sA (own_term_gt hc68) hL) (own_tA (own_term_gt hc68) hS) (own_lek hq3 rfl)
  ·
   refine gT XJ hx 42 (B 52 rfl) (flt hc68).2.2.2 rfl ?_
   refine gl XJ hx 44 (B 3 rfl) rfl rfl ?_
   refine gn XJ hx 45 (B 4 rfl) rfl rfl ?_
   have hk69 : ¬ ((3 : Int32) = kk) := own_neq hq3
   refine gT XJ hx 51 (B 5 rfl) (feq hk69).2 rfl ?_
   refine ga XJ hx 52 (B 55 rfl) rfl rfl rfl ?_
   refine gl XJ hx 54 (B 56 rfl) rfl rfl ?_
   refine gc XJ hx 55 hZ eJ V_b c3 rfl rfl (B 57 rfl) rfl ?_
   refine gs XJ hx 57 _ (B 58 rfl) rfl rfl ?_
   refine gl XJ hx 59 (B 59 rfl) rfl rfl ?_
   refine gS XJ hx 62 hZ hown (W 134 rfl) (W 135 rfl) w43 (W 136 rfl) (by decide) [(.int c3)] [] (rm25 hw c3 h0 n0 Z0) eJ 0 rfl (M rfl) (lenOf pd0 rfl) (B 60 rfl) rfl rfl rfl (fun v T70 L X70 Y => ?_)
   obtain ⟨rfl, N70q, e70⟩ := Y
   have N70 := Fr.app NJ N70q
   by_cases hc71 : (own_term c3) = 0
   ·
    refine gt X70 hx 96 (B 61 rfl) ((if0 _ _).trans (teq hc71).1) rfl ?_
    refine gi X70 hx 99 (4 : Int32) #[A a, A b, I 0, I kk, J lnJ, E2, I 0, I 0, I 4, I c3, U] (B 62 rfl) rfl (by decide) rfl rfl ?_
    refine gg X70 hx 21 (B 63 rfl) rfl ?_
    exact t21_4_0z hC _ _ _ _ X70 e70 N70 (own_sA hc71 hL) (own_tA hc71 hS) (own_lek hq3 rfl)
   ·
    refine gf X70 hx 65 (B 61 rfl) ((if0 _ _).trans (feq hc71).1) rfl ?_
    refine gl X70 hx 67 (B 64 rfl) rfl rfl ?_
    refine ga X70 hx 68 (B 65 rfl) rfl rfl rfl ?_
    refine ga X70 hx 69 (B 66 rfl) rfl rfl rfl ?_
    refine gn X70 hx 70 (B 67 rfl) rfl rfl ?_
    refine gl X70 hx 72 (B 68 rfl) rfl rfl ?_
    refine g_callP X70 hx 75 hZ hown (W 161 rfl) (W 162 rfl) (W 163 rfl) (W 132 rfl) rfl w43 (W 164 rfl) (by decide) a E_a [(.ref b), (.int 0), (.int 3)] [(.int c3)] (rb_3 hw a b (0 : Int32) c0 c1 c2 c3 kA h0 n0 Z0 F_la V_b nc2) e70 1 (by decide) (by decide) (by decide) (by decide) (by rw [hml]; rfl) (lenOf pd1 rfl) (B 69 rfl) rfl (Nat.le_of_eq rfl) rfl (fun v T72 L X72 Y => ?_)
    obtain ⟨rfl, N72q, e72⟩ := Y
    have N72 := Fr.app N70 N72q
    refine gS X72 hx 78 hZ hown (W 165 rfl) (W 166 rfl) w43 (W 167 rfl) (by decide) [(.int c3), (.int c2)] [] (rm31 hw c3 c2 h0 n0 Z0) e72 0 rfl (M rfl) (lenOf pd2 rfl) (B 70 rfl) rfl rfl rfl (fun v T73 L X73 Y => ?_)
    obtain ⟨rfl, N73q, e73⟩ := Y
    have N73 := Fr.app N72 N73q
    by_cases hc74 : (own_ends c3 c2) = 0
    ·
     refine gt X73 hx 87 (B 71 rfl) ((if0 _ _).trans (teq hc74).1) rfl ?_
     refine gl X73 hx 89 (B 72 rfl) rfl rfl ?_
     refine gk X73 hx 90 1 (B 73 rfl) rfl rfl ?_
     refine gp X73 hx 91 (4 : Int32) (B 74 rfl) (by decide) rfl ?_
     refine gs X73 hx 93 #[A a, A b, I 0, I kk, J lnJ, E2, I 4, I 0, I 3, I c3, U] (B 75 rfl) rfl rfl ?_
     refine gk X73 hx 94 1 (B 76 rfl) rfl rfl ?_
     refine gs X73 hx 96 _ (B 77 rfl) rfl rfl ?_
     refine gi X73 hx 99 (4 : Int32) #[A a, A b, I 0, I kk, J lnJ, E2, I 4, I 1, I 4, I c3, U] (B 62 rfl) rfl (by decide) rfl rfl ?_
     refine gg X73 hx 21 (B 63 rfl) rfl ?_
     exact t21_4_4z hC _ _ _ _ X73 e73 N73 (own_sB hc71 hc74 hL) (own_tB hc71) (own_lek hq3 rfl)
    ·
     refine gf X73 hx 81 (B 71 rfl) ((if0 _ _).trans (feq hc74).1) rfl ?_
     refine g_lload X73 hx 83 (B 78 rfl) rfl rfl ?_
     refine g_lconst X73 hx 84 (1 : Int64) (B 79 rfl) (by decide) rfl ?_
     refine g_ladd X73 hx 85 (lnJ + (1 : Int64)) (B 80 rfl) rfl rfl ?_
     refine g_lstore X73 hx 87 #[A a, A b, I 0, I kk, J (lnJ + (1 : Int64)), E2, I 0, I 0, I 3, I c3, U] (B 81 rfl) rfl rfl ?_
     refine gl X73 hx 89 (B 72 rfl) rfl rfl ?_
     refine gk X73 hx 90 1 (B 73 rfl) rfl rfl ?_
     refine gp X73 hx 91 (4 : Int32) (B 74 rfl) (by decide) rfl ?_
     refine gs X73 hx 93 _ (B 75 rfl) rfl rfl ?_
     refine gk X73 hx 94 1 (B 76 rfl) rfl rfl ?_
     refine gs X73 hx 96 #[A a, A b, I 0, I kk, J (lnJ + (1 : Int64)), E2, I 4, I 1, I 3, I c3, U] (B 77 rfl) rfl rfl ?_
     refine gi X73 hx 99 (4 : Int32) _ (B 62 rfl) rfl (by decide) rfl rfl ?_
     refine gg X73 hx 21 (B 63 rfl) rfl ?_
     exact t21_4_4z hC _ _ _ _ X73 e73 N73 (own_sC hc71 hc74 hL) (own_tB hc71) (own_lek hq3 rfl)
 ·
  obtain rfl : kk = 3 := own_eqk hi hq3
  refine gT XJ hx 42 (B 2 rfl) (by decide) rfl ?_
  refine gl XJ hx 44 (B 3 rfl) rfl rfl ?_
  refine gn XJ hx 45 (B 4 rfl) rfl rfl ?_
  refine gF XJ hx 48 (B 5 rfl) (by decide) rfl ?_
  refine gg XJ hx 102 (B 6 rfl) rfl ?_
  refine gk XJ hx 103 0 (B 7 rfl) rfl rfl ?_
  refine gs XJ hx 105 _ (B 8 rfl) rfl rfl ?_
  refine gl XJ hx 107 (B 9 rfl) rfl rfl ?_
  refine gs XJ hx 109 #[A a, A b, I 0, I 3, J lnJ, E2, I 0, I 0, I 3, I 0, I 0] (B 10 rfl) rfl rfl ?_
  refine gl XJ hx 111 (B 11 rfl) rfl rfl ?_
  refine gn XJ hx 112 (B 12 rfl) rfl rfl ?_
  refine gF XJ hx 115 (B 13 rfl) (by decide) rfl ?_
  refine ga XJ hx 116 (B 39 rfl) rfl rfl rfl ?_
  refine gl XJ hx 118 (B 40 rfl) rfl rfl ?_
  refine gc XJ hx 119 hZ eJ V_b c0 rfl rfl (B 41 rfl) rfl ?_
  refine gS XJ hx 122 hZ hown (W 137 rfl) (W 138 rfl) (W 139 rfl) (W 140 rfl) (by decide) [(.int c0)] [] (rm26 hw c0 h0 n0 Z0 hc0) eJ 0 rfl (M rfl) (lenOf pd0 rfl) (B 42 rfl) rfl rfl rfl (fun v T75 L X75 Y => ?_)
  obtain ⟨rfl, N75q, e75⟩ := Y
  have N75 := Fr.app NJ N75q
  refine gt X75 hx 142 (B 43 rfl) (by decide) rfl ?_
  refine gi X75 hx 145 (1 : Int32) _ (B 44 rfl) rfl (by decide) rfl rfl ?_
  refine gg X75 hx 109 (B 45 rfl) rfl ?_
  refine gl X75 hx 111 (B 11 rfl) rfl rfl ?_
  refine gn X75 hx 112 (B 12 rfl) rfl rfl ?_
  refine gF X75 hx 115 (B 13 rfl) (by decide) rfl ?_
  refine ga X75 hx 116 (B 39 rfl) rfl rfl rfl ?_
  refine gl X75 hx 118 (B 40 rfl) rfl rfl ?_
  refine gc X75 hx 119 hZ e75 V_b c1 rfl rfl (B 41 rfl) rfl ?_
  refine gS X75 hx 122 hZ hown (W 137 rfl) (W 138 rfl) (W 139 rfl) (W 140 rfl) (by decide) [(.int c1)] [] (rm26 hw c1 h0 n0 Z0 hc1) e75 0 rfl (M rfl) (lenOf pd0 rfl) (B 42 rfl) rfl rfl rfl (fun v T76 L X76 Y => ?_)
  obtain ⟨rfl, N76q, e76⟩ := Y
  have N76 := Fr.app N75 N76q
  refine gt X76 hx 142 (B 43 rfl) (by decide) rfl ?_
  refine gi X76 hx 145 (2 : Int32) #[A a, A b, I 0, I 3, J lnJ, E2, I 0, I 0, I 3, I 0, I 2] (B 44 rfl) rfl (by decide) rfl rfl ?_
  refine gg X76 hx 109 (B 45 rfl) rfl ?_
  refine gl X76 hx 111 (B 11 rfl) rfl rfl ?_
  refine gn X76 hx 112 (B 12 rfl) rfl rfl ?_
  refine gF X76 hx 115 (B 13 rfl) (by decide) rfl ?_
  refine ga X76 hx 116 (B 39 rfl) rfl rfl rfl ?_
  refine gl X76 hx 118 (B 40 rfl) rfl rfl ?_
  refine gc X76 hx 119 hZ e76 V_b c2 rfl rfl (B 41 rfl) rfl ?_
  refine gS X76 hx 122 hZ hown (W 137 rfl) (W 138 rfl) (W 139 rfl) (W 140 rfl) (by decide) [(.int c2)] [] (rm26 hw c2 h0 n0 Z0 hc2) e76 0 rfl (M rfl) (lenOf pd0 rfl) (B 42 rfl) rfl rfl rfl (fun v T77 L X77 Y => ?_)
  obtain ⟨rfl, N77q, e77⟩ := Y
  have N77 := Fr.app N76 N77q
  refine gt X77 hx 142 (B 43 rfl) (by decide) rfl ?_
  refine gi X77 hx 145 (3 : Int32) _ (B 44 rfl) rfl (by decide) rfl rfl ?_
  refine gg X77 hx 109 (B 45 rfl) rfl ?_
  refine gl X77 hx 111 (B 11 rfl) rfl rfl ?_
  refine gn X77 hx 112 (B 12 rfl) rfl rfl ?_
  refine gT X77 hx 148 (B 13 rfl) (by decide) rfl ?_
  refine ga X77 hx 149 (B 14 rfl) rfl rfl rfl ?_
  refine g_lload X77 hx 151 (B 15 rfl) rfl rfl ?_
  refine gP X77 hx 154 hZ hown (host := "") (Or.inl (W 48 rfl)) Via.refl e77 F_ln E_a (Or.inl (W 49 rfl)) w42 (ty := .long) (by decide) rfl rfl (B 16 rfl) rfl (fun T78 h78 X78 e78 W78 => ?_)
  have E_a := E_a.wr W78
  have F_ln := F_ln.same W78
  have F_co := F_co.other W78 (Or.inr (sn0 hw))
  have F_la := F_la.other W78 (Or.inr (sn1 hw))
  have V_b := V_b.other W78 (Ne.symm ne_a_b)
  have N78 := Fr.snoc X78 N77 g_a
  have Z78 : n0 ≤ h78.size := by rw [W78.size]; exact Z0
  have K78 := K0.wr W78 (Or.inl (List.mem_of_getElem? (i := 0) rfl))
  refine ga X78 hx 155 (B 17 rfl) rfl rfl rfl ?_
  refine gl X78 hx 157 (B 18 rfl) rfl rfl ?_
  refine gt X78 hx 164 (B 19 rfl) (by decide) rfl ?_
  refine ga X78 hx 165 (B 46 rfl) rfl rfl rfl ?_
  refine gG X78 hx 168 hZ hown (host := "") (Or.inl (W 50 rfl)) Via.refl e78 F_co (B 47 rfl) rfl (fun T79 X79 e79 => ?_)
  refine gn X79 hx 169 (B 22 rfl) rfl rfl ?_
  refine gl X79 hx 171 (B 23 rfl) rfl rfl ?_
  refine gm X79 hx 172 (3 : Int32) (B 24 rfl) (by decide) rfl ?_
  refine gL X79 hx 173 (3 : Int64) (B 25 rfl) (by decide) rfl ?_
  refine g_ladd X79 hx 174 (4 : Int64) (B 26 rfl) (by decide) rfl ?_
  refine gl X79 hx 176 (B 27 rfl) rfl rfl ?_
  refine gL X79 hx 177 (0 : Int64) (B 28 rfl) (by decide) rfl ?_
  refine g_lsub X79 hx 178 (4 : Int64) (B 29 rfl) (by decide) rfl ?_
  refine gP X79 hx 181 hZ hown (host := "") (Or.inl (W 50 rfl)) Via.refl e79 F_co E_a (Or.inl (W 51 rfl)) w42 (ty := .long) (by decide) rfl rfl (B 30 rfl) rfl (fun T80 h80 X80 e80 W80 => ?_)
  have E_a := E_a.wr W80
  have F_ln := F_ln.other W80 (Or.inr (sn2 hw))
  have F_co := F_co.same W80
  have F_la := F_la.other W80 (Or.inr (sn3 hw))
  have V_b := V_b.other W80 (Ne.symm ne_a_b)
  have N80 := Fr.snoc X80 N78 g_a
  have Z80 : n0 ≤ h80.size := by rw [W80.size]; exact Z78
  have K80 := K78.wr W80 (Or.inl (List.mem_of_getElem? (i := 0) rfl))
  refine ga X80 hx 182 (B 31 rfl) rfl rfl rfl ?_
  refine ga X80 hx 183 (B 32 rfl) rfl rfl rfl ?_
  refine gn X80 hx 184 (B 33 rfl) rfl rfl ?_
  refine gk X80 hx 185 1 (B 34 rfl) rfl rfl ?_
  refine gm X80 hx 186 (2 : Int32) (B 35 rfl) (by decide) rfl ?_
  refine gc X80 hx 187 hZ e80 V_b c2 rfl rfl (B 36 rfl) rfl ?_
  refine gP X80 hx 190 hZ hown (host := "") (Or.inl (W 142 rfl)) Via.refl e80 F_la E_a (Or.inl (W 143 rfl)) w42 (ty := .char) (by decide) (own_nrw nc2) (own_fit nc2) (B 37 rfl) rfl (fun T81 h81 X81 e81 W81 => ?_)
  have E_a := E_a.wr W81
  have F_ln := F_ln.other W81 (Or.inr (sn4 hw))
  have F_co := F_co.other W81 (Or.inr (sn5 hw))
  have F_la := F_la.same W81
  have V_b := V_b.other W81 (Ne.symm ne_a_b)
  have N81 := Fr.snoc X81 N80 g_a
  have Z81 : n0 ≤ h81.size := by rw [W81.size]; exact Z80
  have K81 := K80.wr W81 (Or.inl (List.mem_of_getElem? (i := 0) rfl))
  exact g_retV X81 hx hret hlk (B 38 rfl) (by decide) (by decide) (by rw [e81, show own_LL (3 : Int32) c0 c1 c2 c3 ln0 = lnJ from hL.symm, show own_SS (3 : Int32) c0 c1 c2 c3 = 0 from hS, show own_colf (3 : Int32) (0 : Int32) = (4 : Int64) from by decide]; exact ⟨rfl, N81, K81, E_a, F_ln, F_co, F_la⟩)
set_option maxRecDepth 65536 in
set_option maxHeartbeats 40000000 in
theorem t21_3_0z (hC : rpC l Z a0 a b kk ln0 c0 c1 c2 c3 kA h0 n0 p s m meth cO) (lnJ : Int64) (z9 : Int32) (TK : State) (locsJ : List Loc) (XJ : Stand p l e (⟨1, 0, 0, 24⟩ : Room) s m ([(.ref a), (.ref b), (.int 0), (.int kk)] : List Value).toArray below meth cO TK locsJ 0 0) (eJ : TK.heap = h0) (NJ : Fr n0 locsJ) (hL : lnJ = (own_step c2 c1 (own_step c1 c0 (own_step c0 0 ln0)))) (hS : (own_st c2 3 (own_st c1 2 (own_st c0 1 (0 : Int32)))) = 0) (hi : ¬ kk < 3) :
  Go p e below (fun o t L => FrameEnd s o t L (⟨1, 0, 0, 24⟩ : Room).cells (⟨1, 0, 0, 24⟩ : Room).slots) (fun v h L => v = none ∧ Fr n0 L ∧ Keep h0 h [a] ∧ Exa Z h a "gleanwell/Position" ∧ Fld Z h a "gleanwell/Position" "line" "J" (.long (own_LL kk c0 c1 c2 c3 ln0)) ∧ Fld Z h a "gleanwell/Position" "column" "J" (.long (own_colf kk (own_SS kk c0 c1 c2 c3))) ∧ Fld Z h a "gleanwell/Position" "last" "C" (.int (own_CC kk c0 c1 c2 c3))) TK (mkF m 21 #[A a, A b, I 0, I kk, J lnJ, E2, I 0, I 0, I 3, I z9, U] []) := by
 obtain ⟨hw, Z0, g_a, hk1, hk4, E_a, F_ln, F_co, F_la, V_b, nc0, nc1, nc2, nc3, hc0, hc1, hc2, hc3, ne_a_b, hx, hby, hml, hown, hnm, hret, hlk, hZ⟩ := id hC
 have K0 := Keep.refl h0 [a]
 have hown : s.vm.findClass "gleanwell/Position" = some m.cls := hown
 have B {q r} (i : Nat) := own_B (q := q) (r := r) hby D24_ok i
 have W {d : Jvm.Cond} (i : Nat) (h : tables_1[i]? = some d) : d.before a0 Z = true := own_w hw i h
 have w43 := W 43 rfl
 have w42 := W 42 rfl
 have M {n : Nat} (h : n = _) : n = cO.maxLocals := h.trans hml.symm
 refine gl XJ hx 23 (B 0 rfl) rfl rfl ?_
 refine gn XJ hx 24 (B 1 rfl) rfl rfl ?_
 by_cases hq3 : (3 : Int32) < kk
 ·
  refine gF XJ hx 27 (B 2 rfl) (tlt hq3).2.1 rfl ?_
  refine ga XJ hx 28 (B 48 rfl) rfl rfl rfl ?_
  refine gl XJ hx 30 (B 49 rfl) rfl rfl ?_
  refine gc XJ hx 31 hZ eJ V_b c3 rfl rfl (B 50 rfl) rfl ?_
  refine gb XJ hx 33 13 (B 51 rfl) rfl rfl ?_
  by_cases hc82 : (13 : Int32) < c3
  ·
   refine gF XJ hx 36 (B 52 rfl) (tlt hc82).2.2.2 rfl ?_
   refine gi XJ hx 39 (4 : Int32) _ (B 53 rfl) rfl (by decide) rfl rfl ?_
   refine gg XJ hx 21 (B 54 rfl) rfl ?_
   exact t21_4_0z hC _ _ _ _ XJ eJ NJ (own_sA (own_term_gt hc82) hL) (own_tA (own_term_gt hc82) hS) (own_lek hq3 rfl)
  ·
   refine gT XJ hx 42 (B 52 rfl) (flt hc82).2.2.2 rfl ?_
   refine gl XJ hx 44 (B 3 rfl) rfl rfl ?_
   refine gn XJ hx 45 (B 4 rfl) rfl rfl ?_
   have hk83 : ¬ ((3 : Int32) = kk) := own_neq hq3
   refine gT XJ hx 51 (B 5 rfl) (feq hk83).2 rfl ?_
   refine ga XJ hx 52 (B 55 rfl) rfl rfl rfl ?_
   refine gl XJ hx 54 (B 56 rfl) rfl rfl ?_
   refine gc XJ hx 55 hZ eJ V_b c3 rfl rfl (B 57 rfl) rfl ?_
   refine gs XJ hx 57 _ (B 58 rfl) rfl rfl ?_
   refine gl XJ hx 59 (B 59 rfl) rfl rfl ?_
   refine gS XJ hx 62 hZ hown (W 134 rfl) (W 135 rfl) w43 (W 136 rfl) (by decide) [(.int c3)] [] (rm25 hw c3 h0 n0 Z0) eJ 0 rfl (M rfl) (lenOf pd0 rfl) (B 60 rfl) rfl rfl rfl (fun v T84 L X84 Y => ?_)
   obtain ⟨rfl, N84q, e84⟩ := Y
   have N84 := Fr.app NJ N84q
   by_cases hc85 : (own_term c3) = 0
   ·
    refine gt X84 hx 96 (B 61 rfl) ((if0 _ _).trans (teq hc85).1) rfl ?_
    refine gi X84 hx 99 (4 : Int32) #[A a, A b, I 0, I kk, J lnJ, E2, I 0, I 0, I 4, I c3, U] (B 62 rfl) rfl (by decide) rfl rfl ?_
    refine gg X84 hx 21 (B 63 rfl) rfl ?_
    exact t21_4_0z hC _ _ _ _ X84 e84 N84 (own_sA hc85 hL) (own_tA hc85 hS) (own_lek hq3 rfl)
   ·
    refine gf X84 hx 65 (B 61 rfl) ((if0 _ _).trans (feq hc85).1) rfl ?_
    refine gl X84 hx 67 (B 64 rfl) rfl rfl ?_
    refine ga X84 hx 68 (B 65 rfl) rfl rfl rfl ?_
    refine ga X84 hx 69 (B 66 rfl) rfl rfl rfl ?_
    refine gn X84 hx 70 (B 67 rfl) rfl rfl ?_
    refine gl X84 hx 72 (B 68 rfl) rfl rfl ?_
    refine g_callP X84 hx 75 hZ hown (W 161 rfl) (W 162 rfl) (W 163 rfl) (W 132 rfl) rfl w43 (W 164 rfl) (by decide) a E_a [(.ref b), (.int 0), (.int 3)] [(.int c3)] (rb_3 hw a b (0 : Int32) c0 c1 c2 c3 kA h0 n0 Z0 F_la V_b nc2) e84 1 (by decide) (by decide) (by decide) (by decide) (by rw [hml]; rfl) (lenOf pd1 rfl) (B 69 rfl) rfl (Nat.le_of_eq rfl) rfl (fun v T86 L X86 Y => ?_)
    obtain ⟨rfl, N86q, e86⟩ := Y
    have N86 := Fr.app N84 N86q
    refine gS X86 hx 78 hZ hown (W 165 rfl) (W 166 rfl) w43 (W 167 rfl) (by decide) [(.int c3), (.int c2)] [] (rm31 hw c3 c2 h0 n0 Z0) e86 0 rfl (M rfl) (lenOf pd2 rfl) (B 70 rfl) rfl rfl rfl (fun v T87 L X87 Y => ?_)
    obtain ⟨rfl, N87q, e87⟩ := Y
    have N87 := Fr.app N86 N87q
    by_cases hc88 : (own_ends c3 c2) = 0
    ·
     refine gt X87 hx 87 (B 71 rfl) ((if0 _ _).trans (teq hc88).1) rfl ?_
     refine gl X87 hx 89 (B 72 rfl) rfl rfl ?_
     refine gk X87 hx 90 1 (B 73 rfl) rfl rfl ?_
     refine gp X87 hx 91 (4 : Int32) (B 74 rfl) (by decide) rfl ?_
     refine gs X87 hx 93 #[A a, A b, I 0, I kk, J lnJ, E2, I 4, I 0, I 3, I c3, U] (B 75 rfl) rfl rfl ?_
     refine gk X87 hx 94 1 (B 76 rfl) rfl rfl ?_
     refine gs X87 hx 96 _ (B 77 rfl) rfl rfl ?_
     refine gi X87 hx 99 (4 : Int32) #[A a, A b, I 0, I kk, J lnJ, E2, I 4, I 1, I 4, I c3, U] (B 62 rfl) rfl (by decide) rfl rfl ?_
     refine gg X87 hx 21 (B 63 rfl) rfl ?_
     exact t21_4_4z hC _ _ _ _ X87 e87 N87 (own_sB hc85 hc88 hL) (own_tB hc85) (own_lek hq3 rfl)
    ·
     refine gf X87 hx 81 (B 71 rfl) ((if0 _ _).trans (feq hc88).1) rfl ?_
     refine g_lload X87 hx 83 (B 78 rfl) rfl rfl ?_
     refine g_lconst X87 hx 84 (1 : Int64) (B 79 rfl) (by decide) rfl ?_
     refine g_ladd X87 hx 85 (lnJ + (1 : Int64)) (B 80 rfl) rfl rfl ?_
     refine g_lstore X87 hx 87 #[A a, A b, I 0, I kk, J (lnJ + (1 : Int64)), E2, I 0, I 0, I 3, I c3, U] (B 81 rfl) rfl rfl ?_
     refine gl X87 hx 89 (B 72 rfl) rfl rfl ?_
     refine gk X87 hx 90 1 (B 73 rfl) rfl rfl ?_
     refine gp X87 hx 91 (4 : Int32) (B 74 rfl) (by decide) rfl ?_
     refine gs X87 hx 93 _ (B 75 rfl) rfl rfl ?_
     refine gk X87 hx 94 1 (B 76 rfl) rfl rfl ?_
     refine gs X87 hx 96 #[A a, A b, I 0, I kk, J (lnJ + (1 : Int64)), E2, I 4, I 1, I 3, I c3, U] (B 77 rfl) rfl rfl ?_
     refine gi X87 hx 99 (4 : Int32) _ (B 62 rfl) rfl (by decide) rfl rfl ?_
     refine gg X87 hx 21 (B 63 rfl) rfl ?_
     exact t21_4_4z hC _ _ _ _ X87 e87 N87 (own_sC hc85 hc88 hL) (own_tB hc85) (own_lek hq3 rfl)
 ·
  obtain rfl : kk = 3 := own_eqk hi hq3
  refine gT XJ hx 42 (B 2 rfl) (by decide) rfl ?_
  refine gl XJ hx 44 (B 3 rfl) rfl rfl ?_
  refine gn XJ hx 45 (B 4 rfl) rfl rfl ?_
  refine gF XJ hx 48 (B 5 rfl) (by decide) rfl ?_
  refine gg XJ hx 102 (B 6 rfl) rfl ?_
  refine gk XJ hx 103 0 (B 7 rfl) rfl rfl ?_
  refine gs XJ hx 105 _ (B 8 rfl) rfl rfl ?_
  refine gl XJ hx 107 (B 9 rfl) rfl rfl ?_
  refine gs XJ hx 109 #[A a, A b, I 0, I 3, J lnJ, E2, I 0, I 0, I 3, I 0, I 0] (B 10 rfl) rfl rfl ?_
  refine gl XJ hx 111 (B 11 rfl) rfl rfl ?_
  refine gn XJ hx 112 (B 12 rfl) rfl rfl ?_
  refine gF XJ hx 115 (B 13 rfl) (by decide) rfl ?_
  refine ga XJ hx 116 (B 39 rfl) rfl rfl rfl ?_
  refine gl XJ hx 118 (B 40 rfl) rfl rfl ?_
  refine gc XJ hx 119 hZ eJ V_b c0 rfl rfl (B 41 rfl) rfl ?_
  refine gS XJ hx 122 hZ hown (W 137 rfl) (W 138 rfl) (W 139 rfl) (W 140 rfl) (by decide) [(.int c0)] [] (rm26 hw c0 h0 n0 Z0 hc0) eJ 0 rfl (M rfl) (lenOf pd0 rfl) (B 42 rfl) rfl rfl rfl (fun v T89 L X89 Y => ?_)
  obtain ⟨rfl, N89q, e89⟩ := Y
  have N89 := Fr.app NJ N89q
  refine gt X89 hx 142 (B 43 rfl) (by decide) rfl ?_
  refine gi X89 hx 145 (1 : Int32) _ (B 44 rfl) rfl (by decide) rfl rfl ?_
  refine gg X89 hx 109 (B 45 rfl) rfl ?_
  refine gl X89 hx 111 (B 11 rfl) rfl rfl ?_
  refine gn X89 hx 112 (B 12 rfl) rfl rfl ?_
  refine gF X89 hx 115 (B 13 rfl) (by decide) rfl ?_
  refine ga X89 hx 116 (B 39 rfl) rfl rfl rfl ?_
  refine gl X89 hx 118 (B 40 rfl) rfl rfl ?_
  refine gc X89 hx 119 hZ e89 V_b c1 rfl rfl (B 41 rfl) rfl ?_
  refine gS X89 hx 122 hZ hown (W 137 rfl) (W 138 rfl) (W 139 rfl) (W 140 rfl) (by decide) [(.int c1)] [] (rm26 hw c1 h0 n0 Z0 hc1) e89 0 rfl (M rfl) (lenOf pd0 rfl) (B 42 rfl) rfl rfl rfl (fun v T90 L X90 Y => ?_)
  obtain ⟨rfl, N90q, e90⟩ := Y
  have N90 := Fr.app N89 N90q
  refine gt X90 hx 142 (B 43 rfl) (by decide) rfl ?_
  refine gi X90 hx 145 (2 : Int32) #[A a, A b, I 0, I 3, J lnJ, E2, I 0, I 0, I 3, I 0, I 2] (B 44 rfl) rfl (by decide) rfl rfl ?_
  refine gg X90 hx 109 (B 45 rfl) rfl ?_
  refine gl X90 hx 111 (B 11 rfl) rfl rfl ?_
  refine gn X90 hx 112 (B 12 rfl) rfl rfl ?_
  refine gF X90 hx 115 (B 13 rfl) (by decide) rfl ?_
  refine ga X90 hx 116 (B 39 rfl) rfl rfl rfl ?_
  refine gl X90 hx 118 (B 40 rfl) rfl rfl ?_
  refine gc X90 hx 119 hZ e90 V_b c2 rfl rfl (B 41 rfl) rfl ?_
  refine gS X90 hx 122 hZ hown (W 137 rfl) (W 138 rfl) (W 139 rfl) (W 140 rfl) (by decide) [(.int c2)] [] (rm26 hw c2 h0 n0 Z0 hc2) e90 0 rfl (M rfl) (lenOf pd0 rfl) (B 42 rfl) rfl rfl rfl (fun v T91 L X91 Y => ?_)
  obtain ⟨rfl, N91q, e91⟩ := Y
  have N91 := Fr.app N90 N91q
  refine gt X91 hx 142 (B 43 rfl) (by decide) rfl ?_
  refine gi X91 hx 145 (3 : Int32) _ (B 44 rfl) rfl (by decide) rfl rfl ?_
  refine gg X91 hx 109 (B 45 rfl) rfl ?_
  refine gl X91 hx 111 (B 11 rfl) rfl rfl ?_
  refine gn X91 hx 112 (B 12 rfl) rfl rfl ?_
  refine gT X91 hx 148 (B 13 rfl) (by decide) rfl ?_
  refine ga X91 hx 149 (B 14 rfl) rfl rfl rfl ?_
  refine g_lload X91 hx 151 (B 15 rfl) rfl rfl ?_
  refine gP X91 hx 154 hZ hown (host := "") (Or.inl (W 48 rfl)) Via.refl e91 F_ln E_a (Or.inl (W 49 rfl)) w42 (ty := .long) (by decide) rfl rfl (B 16 rfl) rfl (fun T92 h92 X92 e92 W92 => ?_)
  have E_a := E_a.wr W92
  have F_ln := F_ln.same W92
  have F_co := F_co.other W92 (Or.inr (sn0 hw))
  have F_la := F_la.other W92 (Or.inr (sn1 hw))
  have V_b := V_b.other W92 (Ne.symm ne_a_b)
  have N92 := Fr.snoc X92 N91 g_a
  have Z92 : n0 ≤ h92.size := by rw [W92.size]; exact Z0
  have K92 := K0.wr W92 (Or.inl (List.mem_of_getElem? (i := 0) rfl))
  refine ga X92 hx 155 (B 17 rfl) rfl rfl rfl ?_
  refine gl X92 hx 157 (B 18 rfl) rfl rfl ?_
  refine gt X92 hx 164 (B 19 rfl) (by decide) rfl ?_
  refine ga X92 hx 165 (B 46 rfl) rfl rfl rfl ?_
  refine gG X92 hx 168 hZ hown (host := "") (Or.inl (W 50 rfl)) Via.refl e92 F_co (B 47 rfl) rfl (fun T93 X93 e93 => ?_)
  refine gn X93 hx 169 (B 22 rfl) rfl rfl ?_
  refine gl X93 hx 171 (B 23 rfl) rfl rfl ?_
  refine gm X93 hx 172 (3 : Int32) (B 24 rfl) (by decide) rfl ?_
  refine gL X93 hx 173 (3 : Int64) (B 25 rfl) (by decide) rfl ?_
  refine g_ladd X93 hx 174 (4 : Int64) (B 26 rfl) (by decide) rfl ?_
  refine gl X93 hx 176 (B 27 rfl) rfl rfl ?_
  refine gL X93 hx 177 (0 : Int64) (B 28 rfl) (by decide) rfl ?_
  refine g_lsub X93 hx 178 (4 : Int64) (B 29 rfl) (by decide) rfl ?_
  refine gP X93 hx 181 hZ hown (host := "") (Or.inl (W 50 rfl)) Via.refl e93 F_co E_a (Or.inl (W 51 rfl)) w42 (ty := .long) (by decide) rfl rfl (B 30 rfl) rfl (fun T94 h94 X94 e94 W94 => ?_)
  have E_a := E_a.wr W94
  have F_ln := F_ln.other W94 (Or.inr (sn2 hw))
  have F_co := F_co.same W94
  have F_la := F_la.other W94 (Or.inr (sn3 hw))
  have V_b := V_b.other W94 (Ne.symm ne_a_b)
  have N94 := Fr.snoc X94 N92 g_a
  have Z94 : n0 ≤ h94.size := by rw [W94.size]; exact Z92
  have K94 := K92.wr W94 (Or.inl (List.mem_of_getElem? (i := 0) rfl))
  refine ga X94 hx 182 (B 31 rfl) rfl rfl rfl ?_
  refine ga X94 hx 183 (B 32 rfl) rfl rfl rfl ?_
  refine gn X94 hx 184 (B 33 rfl) rfl rfl ?_
  refine gk X94 hx 185 1 (B 34 rfl) rfl rfl ?_
  refine gm X94 hx 186 (2 : Int32) (B 35 rfl) (by decide) rfl ?_
  refine gc X94 hx 187 hZ e94 V_b c2 rfl rfl (B 36 rfl) rfl ?_
  refine gP X94 hx 190 hZ hown (host := "") (Or.inl (W 142 rfl)) Via.refl e94 F_la E_a (Or.inl (W 143 rfl)) w42 (ty := .char) (by decide) (own_nrw nc2) (own_fit nc2) (B 37 rfl) rfl (fun T95 h95 X95 e95 W95 => ?_)
  have E_a := E_a.wr W95
  have F_ln := F_ln.other W95 (Or.inr (sn4 hw))
  have F_co := F_co.other W95 (Or.inr (sn5 hw))
  have F_la := F_la.same W95
  have V_b := V_b.other W95 (Ne.symm ne_a_b)
  have N95 := Fr.snoc X95 N94 g_a
  have Z95 : n0 ≤ h95.size := by rw [W95.size]; exact Z94
  have K95 := K94.wr W95 (Or.inl (List.mem_of_getElem? (i := 0) rfl))
  exact g_retV X95 hx hret hlk (B 38 rfl) (by decide) (by decide) (by rw [e95, show own_LL (3 : Int32) c0 c1 c2 c3 ln0 = lnJ from hL.symm, show own_SS (3 : Int32) c0 c1 c2 c3 = 0 from hS, show own_colf (3 : Int32) (0 : Int32) = (4 : Int64) from by decide]; exact ⟨rfl, N95, K95, E_a, F_ln, F_co, F_la⟩)
set_option maxRecDepth 65536 in
set_option maxHeartbeats 40000000 in
theorem t21_2_2z (hC : rpC l Z a0 a b kk ln0 c0 c1 c2 c3 kA h0 n0 p s m meth cO) (lnJ : Int64) (z9 : Int32) (TK : State) (locsJ : List Loc) (XJ : Stand p l e (⟨1, 0, 0, 24⟩ : Room) s m ([(.ref a), (.ref b), (.int 0), (.int kk)] : List Value).toArray below meth cO TK locsJ 0 0) (eJ : TK.heap = h0) (NJ : Fr n0 locsJ) (hL : lnJ = (own_step c1 c0 (own_step c0 0 ln0))) (hS : (own_st c1 2 (own_st c0 1 (0 : Int32))) = 2) (hi : ¬ kk < 2) :
  Go p e below (fun o t L => FrameEnd s o t L (⟨1, 0, 0, 24⟩ : Room).cells (⟨1, 0, 0, 24⟩ : Room).slots) (fun v h L => v = none ∧ Fr n0 L ∧ Keep h0 h [a] ∧ Exa Z h a "gleanwell/Position" ∧ Fld Z h a "gleanwell/Position" "line" "J" (.long (own_LL kk c0 c1 c2 c3 ln0)) ∧ Fld Z h a "gleanwell/Position" "column" "J" (.long (own_colf kk (own_SS kk c0 c1 c2 c3))) ∧ Fld Z h a "gleanwell/Position" "last" "C" (.int (own_CC kk c0 c1 c2 c3))) TK (mkF m 21 #[A a, A b, I 0, I kk, J lnJ, E2, I 2, I 1, I 2, I z9, U] []) := by
 obtain ⟨hw, Z0, g_a, hk1, hk4, E_a, F_ln, F_co, F_la, V_b, nc0, nc1, nc2, nc3, hc0, hc1, hc2, hc3, ne_a_b, hx, hby, hml, hown, hnm, hret, hlk, hZ⟩ := id hC
 have K0 := Keep.refl h0 [a]
 have hown : s.vm.findClass "gleanwell/Position" = some m.cls := hown
 have B {q r} (i : Nat) := own_B (q := q) (r := r) hby D24_ok i
 have W {d : Jvm.Cond} (i : Nat) (h : tables_1[i]? = some d) : d.before a0 Z = true := own_w hw i h
 have w43 := W 43 rfl
 have w42 := W 42 rfl
 have M {n : Nat} (h : n = _) : n = cO.maxLocals := h.trans hml.symm
 refine gl XJ hx 23 (B 0 rfl) rfl rfl ?_
 refine gn XJ hx 24 (B 1 rfl) rfl rfl ?_
 by_cases hq2 : (2 : Int32) < kk
 ·
  refine gF XJ hx 27 (B 2 rfl) (tlt hq2).2.1 rfl ?_
  refine ga XJ hx 28 (B 48 rfl) rfl rfl rfl ?_
  refine gl XJ hx 30 (B 49 rfl) rfl rfl ?_
  refine gc XJ hx 31 hZ eJ V_b c2 rfl rfl (B 50 rfl) rfl ?_
  refine gb XJ hx 33 13 (B 51 rfl) rfl rfl ?_
  by_cases hc96 : (13 : Int32) < c2
  ·
   refine gF XJ hx 36 (B 52 rfl) (tlt hc96).2.2.2 rfl ?_
   refine gi XJ hx 39 (3 : Int32) _ (B 53 rfl) rfl (by decide) rfl rfl ?_
   refine gg XJ hx 21 (B 54 rfl) rfl ?_
   exact t21_3_2z hC _ _ _ _ XJ eJ NJ (own_sA (own_term_gt hc96) hL) (own_tA (own_term_gt hc96) hS) (own_lek hq2 rfl)
  ·
   refine gT XJ hx 42 (B 52 rfl) (flt hc96).2.2.2 rfl ?_
   refine gl XJ hx 44 (B 3 rfl) rfl rfl ?_
   refine gn XJ hx 45 (B 4 rfl) rfl rfl ?_
   have hk97 : ¬ ((2 : Int32) = kk) := own_neq hq2
   refine gT XJ hx 51 (B 5 rfl) (feq hk97).2 rfl ?_
   refine ga XJ hx 52 (B 55 rfl) rfl rfl rfl ?_
   refine gl XJ hx 54 (B 56 rfl) rfl rfl ?_
   refine gc XJ hx 55 hZ eJ V_b c2 rfl rfl (B 57 rfl) rfl ?_
   refine gs XJ hx 57 _ (B 58 rfl) rfl rfl ?_
   refine gl XJ hx 59 (B 59 rfl) rfl rfl ?_
   refine gS XJ hx 62 hZ hown (W 134 rfl) (W 135 rfl) w43 (W 136 rfl) (by decide) [(.int c2)] [] (rm25 hw c2 h0 n0 Z0) eJ 0 rfl (M rfl) (lenOf pd0 rfl) (B 60 rfl) rfl rfl rfl (fun v T98 L X98 Y => ?_)
   obtain ⟨rfl, N98q, e98⟩ := Y
   have N98 := Fr.app NJ N98q
   by_cases hc99 : (own_term c2) = 0
   ·
    refine gt X98 hx 96 (B 61 rfl) ((if0 _ _).trans (teq hc99).1) rfl ?_
    refine gi X98 hx 99 (3 : Int32) #[A a, A b, I 0, I kk, J lnJ, E2, I 2, I 1, I 3, I c2, U] (B 62 rfl) rfl (by decide) rfl rfl ?_
    refine gg X98 hx 21 (B 63 rfl) rfl ?_
    exact t21_3_2z hC _ _ _ _ X98 e98 N98 (own_sA hc99 hL) (own_tA hc99 hS) (own_lek hq2 rfl)
   ·
    refine gf X98 hx 65 (B 61 rfl) ((if0 _ _).trans (feq hc99).1) rfl ?_
    refine gl X98 hx 67 (B 64 rfl) rfl rfl ?_
    refine ga X98 hx 68 (B 65 rfl) rfl rfl rfl ?_
    refine ga X98 hx 69 (B 66 rfl) rfl rfl rfl ?_
    refine gn X98 hx 70 (B 67 rfl) rfl rfl ?_
    refine gl X98 hx 72 (B 68 rfl) rfl rfl ?_
    refine g_callP X98 hx 75 hZ hown (W 161 rfl) (W 162 rfl) (W 163 rfl) (W 132 rfl) rfl w43 (W 164 rfl) (by decide) a E_a [(.ref b), (.int 0), (.int 2)] [(.int c2)] (rb_2 hw a b (0 : Int32) c0 c1 c2 c3 kA h0 n0 Z0 F_la V_b nc1) e98 1 (by decide) (by decide) (by decide) (by decide) (by rw [hml]; rfl) (lenOf pd1 rfl) (B 69 rfl) rfl (Nat.le_of_eq rfl) rfl (fun v T100 L X100 Y => ?_)
    obtain ⟨rfl, N100q, e100⟩ := Y
    have N100 := Fr.app N98 N100q
    refine gS X100 hx 78 hZ hown (W 165 rfl) (W 166 rfl) w43 (W 167 rfl) (by decide) [(.int c2), (.int c1)] [] (rm31 hw c2 c1 h0 n0 Z0) e100 0 rfl (M rfl) (lenOf pd2 rfl) (B 70 rfl) rfl rfl rfl (fun v T101 L X101 Y => ?_)
    obtain ⟨rfl, N101q, e101⟩ := Y
    have N101 := Fr.app N100 N101q
    by_cases hc102 : (own_ends c2 c1) = 0
    ·
     refine gt X101 hx 87 (B 71 rfl) ((if0 _ _).trans (teq hc102).1) rfl ?_
     refine gl X101 hx 89 (B 72 rfl) rfl rfl ?_
     refine gk X101 hx 90 1 (B 73 rfl) rfl rfl ?_
     refine gp X101 hx 91 (3 : Int32) (B 74 rfl) (by decide) rfl ?_
     refine gs X101 hx 93 #[A a, A b, I 0, I kk, J lnJ, E2, I 3, I 1, I 2, I c2, U] (B 75 rfl) rfl rfl ?_
     refine gk X101 hx 94 1 (B 76 rfl) rfl rfl ?_
     refine gs X101 hx 96 _ (B 77 rfl) rfl rfl ?_
     refine gi X101 hx 99 (3 : Int32) #[A a, A b, I 0, I kk, J lnJ, E2, I 3, I 1, I 3, I c2, U] (B 62 rfl) rfl (by decide) rfl rfl ?_
     refine gg X101 hx 21 (B 63 rfl) rfl ?_
     exact t21_3_3z hC _ _ _ _ X101 e101 N101 (own_sB hc99 hc102 hL) (own_tB hc99) (own_lek hq2 rfl)
    ·
     refine gf X101 hx 81 (B 71 rfl) ((if0 _ _).trans (feq hc102).1) rfl ?_
     refine g_lload X101 hx 83 (B 78 rfl) rfl rfl ?_
     refine g_lconst X101 hx 84 (1 : Int64) (B 79 rfl) (by decide) rfl ?_
     refine g_ladd X101 hx 85 (lnJ + (1 : Int64)) (B 80 rfl) rfl rfl ?_
     refine g_lstore X101 hx 87 #[A a, A b, I 0, I kk, J (lnJ + (1 : Int64)), E2, I 2, I 1, I 2, I c2, U] (B 81 rfl) rfl rfl ?_
     refine gl X101 hx 89 (B 72 rfl) rfl rfl ?_
     refine gk X101 hx 90 1 (B 73 rfl) rfl rfl ?_
     refine gp X101 hx 91 (3 : Int32) (B 74 rfl) (by decide) rfl ?_
     refine gs X101 hx 93 _ (B 75 rfl) rfl rfl ?_
     refine gk X101 hx 94 1 (B 76 rfl) rfl rfl ?_
     refine gs X101 hx 96 #[A a, A b, I 0, I kk, J (lnJ + (1 : Int64)), E2, I 3, I 1, I 2, I c2, U] (B 77 rfl) rfl rfl ?_
     refine gi X101 hx 99 (3 : Int32) _ (B 62 rfl) rfl (by decide) rfl rfl ?_
     refine gg X101 hx 21 (B 63 rfl) rfl ?_
     exact t21_3_3z hC _ _ _ _ X101 e101 N101 (own_sC hc99 hc102 hL) (own_tB hc99) (own_lek hq2 rfl)
 ·
  obtain rfl : kk = 2 := own_eqk hi hq2
  refine gT XJ hx 42 (B 2 rfl) (by decide) rfl ?_
  refine gl XJ hx 44 (B 3 rfl) rfl rfl ?_
  refine gn XJ hx 45 (B 4 rfl) rfl rfl ?_
  refine gF XJ hx 48 (B 5 rfl) (by decide) rfl ?_
  refine gg XJ hx 102 (B 6 rfl) rfl ?_
  refine gk XJ hx 103 0 (B 7 rfl) rfl rfl ?_
  refine gs XJ hx 105 _ (B 8 rfl) rfl rfl ?_
  refine gl XJ hx 107 (B 9 rfl) rfl rfl ?_
  refine gs XJ hx 109 #[A a, A b, I 0, I 2, J lnJ, E2, I 2, I 1, I 2, I 0, I 2] (B 10 rfl) rfl rfl ?_
  refine gl XJ hx 111 (B 11 rfl) rfl rfl ?_
  refine gn XJ hx 112 (B 12 rfl) rfl rfl ?_
  refine gT XJ hx 148 (B 13 rfl) (by decide) rfl ?_
  refine ga XJ hx 149 (B 14 rfl) rfl rfl rfl ?_
  refine g_lload XJ hx 151 (B 15 rfl) rfl rfl ?_
  refine gP XJ hx 154 hZ hown (host := "") (Or.inl (W 48 rfl)) Via.refl eJ F_ln E_a (Or.inl (W 49 rfl)) w42 (ty := .long) (by decide) rfl rfl (B 16 rfl) rfl (fun T103 h103 X103 e103 W103 => ?_)
  have E_a := E_a.wr W103
  have F_ln := F_ln.same W103
  have F_co := F_co.other W103 (Or.inr (sn0 hw))
  have F_la := F_la.other W103 (Or.inr (sn1 hw))
  have V_b := V_b.other W103 (Ne.symm ne_a_b)
  have N103 := Fr.snoc X103 NJ g_a
  have Z103 : n0 ≤ h103.size := by rw [W103.size]; exact Z0
  have K103 := K0.wr W103 (Or.inl (List.mem_of_getElem? (i := 0) rfl))
  refine ga X103 hx 155 (B 17 rfl) rfl rfl rfl ?_
  refine gl X103 hx 157 (B 18 rfl) rfl rfl ?_
  refine gf X103 hx 160 (B 19 rfl) (by decide) rfl ?_
  refine g_lconst X103 hx 161 (1 : Int64) (B 20 rfl) (by decide) rfl ?_
  refine gg X103 hx 168 (B 21 rfl) rfl ?_
  refine gn X103 hx 169 (B 22 rfl) rfl rfl ?_
  refine gl X103 hx 171 (B 23 rfl) rfl rfl ?_
  refine gm X103 hx 172 (0 : Int32) (B 24 rfl) (by decide) rfl ?_
  refine gL X103 hx 173 (0 : Int64) (B 25 rfl) (by decide) rfl ?_
  refine g_ladd X103 hx 174 (1 : Int64) (B 26 rfl) (by decide) rfl ?_
  refine gl X103 hx 176 (B 27 rfl) rfl rfl ?_
  refine gL X103 hx 177 (0 : Int64) (B 28 rfl) (by decide) rfl ?_
  refine g_lsub X103 hx 178 (1 : Int64) (B 29 rfl) (by decide) rfl ?_
  refine gP X103 hx 181 hZ hown (host := "") (Or.inl (W 50 rfl)) Via.refl e103 F_co E_a (Or.inl (W 51 rfl)) w42 (ty := .long) (by decide) rfl rfl (B 30 rfl) rfl (fun T104 h104 X104 e104 W104 => ?_)
  have E_a := E_a.wr W104
  have F_ln := F_ln.other W104 (Or.inr (sn2 hw))
  have F_co := F_co.same W104
  have F_la := F_la.other W104 (Or.inr (sn3 hw))
  have V_b := V_b.other W104 (Ne.symm ne_a_b)
  have N104 := Fr.snoc X104 N103 g_a
  have Z104 : n0 ≤ h104.size := by rw [W104.size]; exact Z103
  have K104 := K103.wr W104 (Or.inl (List.mem_of_getElem? (i := 0) rfl))
  refine ga X104 hx 182 (B 31 rfl) rfl rfl rfl ?_
  refine ga X104 hx 183 (B 32 rfl) rfl rfl rfl ?_
  refine gn X104 hx 184 (B 33 rfl) rfl rfl ?_
  refine gk X104 hx 185 1 (B 34 rfl) rfl rfl ?_
  refine gm X104 hx 186 (1 : Int32) (B 35 rfl) (by decide) rfl ?_
  refine gc X104 hx 187 hZ e104 V_b c1 rfl rfl (B 36 rfl) rfl ?_
  refine gP X104 hx 190 hZ hown (host := "") (Or.inl (W 142 rfl)) Via.refl e104 F_la E_a (Or.inl (W 143 rfl)) w42 (ty := .char) (by decide) (own_nrw nc1) (own_fit nc1) (B 37 rfl) rfl (fun T105 h105 X105 e105 W105 => ?_)
  have E_a := E_a.wr W105
  have F_ln := F_ln.other W105 (Or.inr (sn4 hw))
  have F_co := F_co.other W105 (Or.inr (sn5 hw))
  have F_la := F_la.same W105
  have V_b := V_b.other W105 (Ne.symm ne_a_b)
  have N105 := Fr.snoc X105 N104 g_a
  have Z105 : n0 ≤ h105.size := by rw [W105.size]; exact Z104
  have K105 := K104.wr W105 (Or.inl (List.mem_of_getElem? (i := 0) rfl))
  exact g_retV X105 hx hret hlk (B 38 rfl) (by decide) (by decide) (by rw [e105, show own_LL (2 : Int32) c0 c1 c2 c3 ln0 = lnJ from hL.symm, show own_SS (2 : Int32) c0 c1 c2 c3 = 2 from hS, show own_colf (2 : Int32) (2 : Int32) = (1 : Int64) from by decide]; exact ⟨rfl, N105, K105, E_a, F_ln, F_co, F_la⟩)
set_option maxRecDepth 65536 in
set_option maxHeartbeats 40000000 in
theorem t21_2_1z (hC : rpC l Z a0 a b kk ln0 c0 c1 c2 c3 kA h0 n0 p s m meth cO) (lnJ : Int64) (z9 : Int32) (TK : State) (locsJ : List Loc) (XJ : Stand p l e (⟨1, 0, 0, 24⟩ : Room) s m ([(.ref a), (.ref b), (.int 0), (.int kk)] : List Value).toArray below meth cO TK locsJ 0 0) (eJ : TK.heap = h0) (NJ : Fr n0 locsJ) (hL : lnJ = (own_step c1 c0 (own_step c0 0 ln0))) (hS : (own_st c1 2 (own_st c0 1 (0 : Int32))) = 1) (hi : ¬ kk < 2) :
  Go p e below (fun o t L => FrameEnd s o t L (⟨1, 0, 0, 24⟩ : Room).cells (⟨1, 0, 0, 24⟩ : Room).slots) (fun v h L => v = none ∧ Fr n0 L ∧ Keep h0 h [a] ∧ Exa Z h a "gleanwell/Position" ∧ Fld Z h a "gleanwell/Position" "line" "J" (.long (own_LL kk c0 c1 c2 c3 ln0)) ∧ Fld Z h a "gleanwell/Position" "column" "J" (.long (own_colf kk (own_SS kk c0 c1 c2 c3))) ∧ Fld Z h a "gleanwell/Position" "last" "C" (.int (own_CC kk c0 c1 c2 c3))) TK (mkF m 21 #[A a, A b, I 0, I kk, J lnJ, E2, I 1, I 1, I 2, I z9, U] []) := by
 obtain ⟨hw, Z0, g_a, hk1, hk4, E_a, F_ln, F_co, F_la, V_b, nc0, nc1, nc2, nc3, hc0, hc1, hc2, hc3, ne_a_b, hx, hby, hml, hown, hnm, hret, hlk, hZ⟩ := id hC
 have K0 := Keep.refl h0 [a]
 have hown : s.vm.findClass "gleanwell/Position" = some m.cls := hown
 have B {q r} (i : Nat) := own_B (q := q) (r := r) hby D24_ok i
 have W {d : Jvm.Cond} (i : Nat) (h : tables_1[i]? = some d) : d.before a0 Z = true := own_w hw i h
 have w43 := W 43 rfl
 have w42 := W 42 rfl
 have M {n : Nat} (h : n = _) : n = cO.maxLocals := h.trans hml.symm
 refine gl XJ hx 23 (B 0 rfl) rfl rfl ?_
 refine gn XJ hx 24 (B 1 rfl) rfl rfl ?_
 by_cases hq2 : (2 : Int32) < kk
 ·
  refine gF XJ hx 27 (B 2 rfl) (tlt hq2).2.1 rfl ?_
  refine ga XJ hx 28 (B 48 rfl) rfl rfl rfl ?_
  refine gl XJ hx 30 (B 49 rfl) rfl rfl ?_
  refine gc XJ hx 31 hZ eJ V_b c2 rfl rfl (B 50 rfl) rfl ?_
  refine gb XJ hx 33 13 (B 51 rfl) rfl rfl ?_
  by_cases hc106 : (13 : Int32) < c2
  ·
   refine gF XJ hx 36 (B 52 rfl) (tlt hc106).2.2.2 rfl ?_
   refine gi XJ hx 39 (3 : Int32) _ (B 53 rfl) rfl (by decide) rfl rfl ?_
   refine gg XJ hx 21 (B 54 rfl) rfl ?_
   exact t21_3_1z hC _ _ _ _ XJ eJ NJ (own_sA (own_term_gt hc106) hL) (own_tA (own_term_gt hc106) hS) (own_lek hq2 rfl)
  ·
   refine gT XJ hx 42 (B 52 rfl) (flt hc106).2.2.2 rfl ?_
   refine gl XJ hx 44 (B 3 rfl) rfl rfl ?_
   refine gn XJ hx 45 (B 4 rfl) rfl rfl ?_
   have hk107 : ¬ ((2 : Int32) = kk) := own_neq hq2
   refine gT XJ hx 51 (B 5 rfl) (feq hk107).2 rfl ?_
   refine ga XJ hx 52 (B 55 rfl) rfl rfl rfl ?_
   refine gl XJ hx 54 (B 56 rfl) rfl rfl ?_
   refine gc XJ hx 55 hZ eJ V_b c2 rfl rfl (B 57 rfl) rfl ?_
   refine gs XJ hx 57 _ (B 58 rfl) rfl rfl ?_
   refine gl XJ hx 59 (B 59 rfl) rfl rfl ?_
   refine gS XJ hx 62 hZ hown (W 134 rfl) (W 135 rfl) w43 (W 136 rfl) (by decide) [(.int c2)] [] (rm25 hw c2 h0 n0 Z0) eJ 0 rfl (M rfl) (lenOf pd0 rfl) (B 60 rfl) rfl rfl rfl (fun v T108 L X108 Y => ?_)
   obtain ⟨rfl, N108q, e108⟩ := Y
   have N108 := Fr.app NJ N108q
   by_cases hc109 : (own_term c2) = 0
   ·
    refine gt X108 hx 96 (B 61 rfl) ((if0 _ _).trans (teq hc109).1) rfl ?_
    refine gi X108 hx 99 (3 : Int32) #[A a, A b, I 0, I kk, J lnJ, E2, I 1, I 1, I 3, I c2, U] (B 62 rfl) rfl (by decide) rfl rfl ?_
    refine gg X108 hx 21 (B 63 rfl) rfl ?_
    exact t21_3_1z hC _ _ _ _ X108 e108 N108 (own_sA hc109 hL) (own_tA hc109 hS) (own_lek hq2 rfl)
   ·
    refine gf X108 hx 65 (B 61 rfl) ((if0 _ _).trans (feq hc109).1) rfl ?_
    refine gl X108 hx 67 (B 64 rfl) rfl rfl ?_
    refine ga X108 hx 68 (B 65 rfl) rfl rfl rfl ?_
    refine ga X108 hx 69 (B 66 rfl) rfl rfl rfl ?_
    refine gn X108 hx 70 (B 67 rfl) rfl rfl ?_
    refine gl X108 hx 72 (B 68 rfl) rfl rfl ?_
    refine g_callP X108 hx 75 hZ hown (W 161 rfl) (W 162 rfl) (W 163 rfl) (W 132 rfl) rfl w43 (W 164 rfl) (by decide) a E_a [(.ref b), (.int 0), (.int 2)] [(.int c2)] (rb_2 hw a b (0 : Int32) c0 c1 c2 c3 kA h0 n0 Z0 F_la V_b nc1) e108 1 (by decide) (by decide) (by decide) (by decide) (by rw [hml]; rfl) (lenOf pd1 rfl) (B 69 rfl) rfl (Nat.le_of_eq rfl) rfl (fun v T110 L X110 Y => ?_)
    obtain ⟨rfl, N110q, e110⟩ := Y
    have N110 := Fr.app N108 N110q
    refine gS X110 hx 78 hZ hown (W 165 rfl) (W 166 rfl) w43 (W 167 rfl) (by decide) [(.int c2), (.int c1)] [] (rm31 hw c2 c1 h0 n0 Z0) e110 0 rfl (M rfl) (lenOf pd2 rfl) (B 70 rfl) rfl rfl rfl (fun v T111 L X111 Y => ?_)
    obtain ⟨rfl, N111q, e111⟩ := Y
    have N111 := Fr.app N110 N111q
    by_cases hc112 : (own_ends c2 c1) = 0
    ·
     refine gt X111 hx 87 (B 71 rfl) ((if0 _ _).trans (teq hc112).1) rfl ?_
     refine gl X111 hx 89 (B 72 rfl) rfl rfl ?_
     refine gk X111 hx 90 1 (B 73 rfl) rfl rfl ?_
     refine gp X111 hx 91 (3 : Int32) (B 74 rfl) (by decide) rfl ?_
     refine gs X111 hx 93 #[A a, A b, I 0, I kk, J lnJ, E2, I 3, I 1, I 2, I c2, U] (B 75 rfl) rfl rfl ?_
     refine gk X111 hx 94 1 (B 76 rfl) rfl rfl ?_
     refine gs X111 hx 96 _ (B 77 rfl) rfl rfl ?_
     refine gi X111 hx 99 (3 : Int32) #[A a, A b, I 0, I kk, J lnJ, E2, I 3, I 1, I 3, I c2, U] (B 62 rfl) rfl (by decide) rfl rfl ?_
     refine gg X111 hx 21 (B 63 rfl) rfl ?_
     exact t21_3_3z hC _ _ _ _ X111 e111 N111 (own_sB hc109 hc112 hL) (own_tB hc109) (own_lek hq2 rfl)
    ·
     refine gf X111 hx 81 (B 71 rfl) ((if0 _ _).trans (feq hc112).1) rfl ?_
     refine g_lload X111 hx 83 (B 78 rfl) rfl rfl ?_
     refine g_lconst X111 hx 84 (1 : Int64) (B 79 rfl) (by decide) rfl ?_
     refine g_ladd X111 hx 85 (lnJ + (1 : Int64)) (B 80 rfl) rfl rfl ?_
     refine g_lstore X111 hx 87 #[A a, A b, I 0, I kk, J (lnJ + (1 : Int64)), E2, I 1, I 1, I 2, I c2, U] (B 81 rfl) rfl rfl ?_
     refine gl X111 hx 89 (B 72 rfl) rfl rfl ?_
     refine gk X111 hx 90 1 (B 73 rfl) rfl rfl ?_
     refine gp X111 hx 91 (3 : Int32) (B 74 rfl) (by decide) rfl ?_
     refine gs X111 hx 93 _ (B 75 rfl) rfl rfl ?_
     refine gk X111 hx 94 1 (B 76 rfl) rfl rfl ?_
     refine gs X111 hx 96 #[A a, A b, I 0, I kk, J (lnJ + (1 : Int64)), E2, I 3, I 1, I 2, I c2, U] (B 77 rfl) rfl rfl ?_
     refine gi X111 hx 99 (3 : Int32) _ (B 62 rfl) rfl (by decide) rfl rfl ?_
     refine gg X111 hx 21 (B 63 rfl) rfl ?_
     exact t21_3_3z hC _ _ _ _ X111 e111 N111 (own_sC hc109 hc112 hL) (own_tB hc109) (own_lek hq2 rfl)
 ·
  obtain rfl : kk = 2 := own_eqk hi hq2
  refine gT XJ hx 42 (B 2 rfl) (by decide) rfl ?_
  refine gl XJ hx 44 (B 3 rfl) rfl rfl ?_
  refine gn XJ hx 45 (B 4 rfl) rfl rfl ?_
  refine gF XJ hx 48 (B 5 rfl) (by decide) rfl ?_
  refine gg XJ hx 102 (B 6 rfl) rfl ?_
  refine gk XJ hx 103 0 (B 7 rfl) rfl rfl ?_
  refine gs XJ hx 105 _ (B 8 rfl) rfl rfl ?_
  refine gl XJ hx 107 (B 9 rfl) rfl rfl ?_
  refine gs XJ hx 109 #[A a, A b, I 0, I 2, J lnJ, E2, I 1, I 1, I 2, I 0, I 1] (B 10 rfl) rfl rfl ?_
  refine gl XJ hx 111 (B 11 rfl) rfl rfl ?_
  refine gn XJ hx 112 (B 12 rfl) rfl rfl ?_
  refine gF XJ hx 115 (B 13 rfl) (by decide) rfl ?_
  refine ga XJ hx 116 (B 39 rfl) rfl rfl rfl ?_
  refine gl XJ hx 118 (B 40 rfl) rfl rfl ?_
  refine gc XJ hx 119 hZ eJ V_b c1 rfl rfl (B 41 rfl) rfl ?_
  refine gS XJ hx 122 hZ hown (W 137 rfl) (W 138 rfl) (W 139 rfl) (W 140 rfl) (by decide) [(.int c1)] [] (rm26 hw c1 h0 n0 Z0 hc1) eJ 0 rfl (M rfl) (lenOf pd0 rfl) (B 42 rfl) rfl rfl rfl (fun v T113 L X113 Y => ?_)
  obtain ⟨rfl, N113q, e113⟩ := Y
  have N113 := Fr.app NJ N113q
  refine gt X113 hx 142 (B 43 rfl) (by decide) rfl ?_
  refine gi X113 hx 145 (2 : Int32) _ (B 44 rfl) rfl (by decide) rfl rfl ?_
  refine gg X113 hx 109 (B 45 rfl) rfl ?_
  refine gl X113 hx 111 (B 11 rfl) rfl rfl ?_
  refine gn X113 hx 112 (B 12 rfl) rfl rfl ?_
  refine gT X113 hx 148 (B 13 rfl) (by decide) rfl ?_
  refine ga X113 hx 149 (B 14 rfl) rfl rfl rfl ?_
  refine g_lload X113 hx 151 (B 15 rfl) rfl rfl ?_
  refine gP X113 hx 154 hZ hown (host := "") (Or.inl (W 48 rfl)) Via.refl e113 F_ln E_a (Or.inl (W 49 rfl)) w42 (ty := .long) (by decide) rfl rfl (B 16 rfl) rfl (fun T114 h114 X114 e114 W114 => ?_)
  have E_a := E_a.wr W114
  have F_ln := F_ln.same W114
  have F_co := F_co.other W114 (Or.inr (sn0 hw))
  have F_la := F_la.other W114 (Or.inr (sn1 hw))
  have V_b := V_b.other W114 (Ne.symm ne_a_b)
  have N114 := Fr.snoc X114 N113 g_a
  have Z114 : n0 ≤ h114.size := by rw [W114.size]; exact Z0
  have K114 := K0.wr W114 (Or.inl (List.mem_of_getElem? (i := 0) rfl))
  refine ga X114 hx 155 (B 17 rfl) rfl rfl rfl ?_
  refine gl X114 hx 157 (B 18 rfl) rfl rfl ?_
  refine gf X114 hx 160 (B 19 rfl) (by decide) rfl ?_
  refine g_lconst X114 hx 161 (1 : Int64) (B 20 rfl) (by decide) rfl ?_
  refine gg X114 hx 168 (B 21 rfl) rfl ?_
  refine gn X114 hx 169 (B 22 rfl) rfl rfl ?_
  refine gl X114 hx 171 (B 23 rfl) rfl rfl ?_
  refine gm X114 hx 172 (1 : Int32) (B 24 rfl) (by decide) rfl ?_
  refine gL X114 hx 173 (1 : Int64) (B 25 rfl) (by decide) rfl ?_
  refine g_ladd X114 hx 174 (2 : Int64) (B 26 rfl) (by decide) rfl ?_
  refine gl X114 hx 176 (B 27 rfl) rfl rfl ?_
  refine gL X114 hx 177 (0 : Int64) (B 28 rfl) (by decide) rfl ?_
  refine g_lsub X114 hx 178 (2 : Int64) (B 29 rfl) (by decide) rfl ?_
  refine gP X114 hx 181 hZ hown (host := "") (Or.inl (W 50 rfl)) Via.refl e114 F_co E_a (Or.inl (W 51 rfl)) w42 (ty := .long) (by decide) rfl rfl (B 30 rfl) rfl (fun T115 h115 X115 e115 W115 => ?_)
  have E_a := E_a.wr W115
  have F_ln := F_ln.other W115 (Or.inr (sn2 hw))
  have F_co := F_co.same W115
  have F_la := F_la.other W115 (Or.inr (sn3 hw))
  have V_b := V_b.other W115 (Ne.symm ne_a_b)
  have N115 := Fr.snoc X115 N114 g_a
  have Z115 : n0 ≤ h115.size := by rw [W115.size]; exact Z114
  have K115 := K114.wr W115 (Or.inl (List.mem_of_getElem? (i := 0) rfl))
  refine ga X115 hx 182 (B 31 rfl) rfl rfl rfl ?_
  refine ga X115 hx 183 (B 32 rfl) rfl rfl rfl ?_
  refine gn X115 hx 184 (B 33 rfl) rfl rfl ?_
  refine gk X115 hx 185 1 (B 34 rfl) rfl rfl ?_
  refine gm X115 hx 186 (1 : Int32) (B 35 rfl) (by decide) rfl ?_
  refine gc X115 hx 187 hZ e115 V_b c1 rfl rfl (B 36 rfl) rfl ?_
  refine gP X115 hx 190 hZ hown (host := "") (Or.inl (W 142 rfl)) Via.refl e115 F_la E_a (Or.inl (W 143 rfl)) w42 (ty := .char) (by decide) (own_nrw nc1) (own_fit nc1) (B 37 rfl) rfl (fun T116 h116 X116 e116 W116 => ?_)
  have E_a := E_a.wr W116
  have F_ln := F_ln.other W116 (Or.inr (sn4 hw))
  have F_co := F_co.other W116 (Or.inr (sn5 hw))
  have F_la := F_la.same W116
  have V_b := V_b.other W116 (Ne.symm ne_a_b)
  have N116 := Fr.snoc X116 N115 g_a
  have Z116 : n0 ≤ h116.size := by rw [W116.size]; exact Z115
  have K116 := K115.wr W116 (Or.inl (List.mem_of_getElem? (i := 0) rfl))
  exact g_retV X116 hx hret hlk (B 38 rfl) (by decide) (by decide) (by rw [e116, show own_LL (2 : Int32) c0 c1 c2 c3 ln0 = lnJ from hL.symm, show own_SS (2 : Int32) c0 c1 c2 c3 = 1 from hS, show own_colf (2 : Int32) (1 : Int32) = (2 : Int64) from by decide]; exact ⟨rfl, N116, K116, E_a, F_ln, F_co, F_la⟩)
set_option maxRecDepth 65536 in
set_option maxHeartbeats 40000000 in
theorem t21_2_0u (hC : rpC l Z a0 a b kk ln0 c0 c1 c2 c3 kA h0 n0 p s m meth cO) (lnJ : Int64) (TK : State) (locsJ : List Loc) (XJ : Stand p l e (⟨1, 0, 0, 24⟩ : Room) s m ([(.ref a), (.ref b), (.int 0), (.int kk)] : List Value).toArray below meth cO TK locsJ 0 0) (eJ : TK.heap = h0) (NJ : Fr n0 locsJ) (hL : lnJ = (own_step c1 c0 (own_step c0 0 ln0))) (hS : (own_st c1 2 (own_st c0 1 (0 : Int32))) = 0) (hi : ¬ kk < 2) :
  Go p e below (fun o t L => FrameEnd s o t L (⟨1, 0, 0, 24⟩ : Room).cells (⟨1, 0, 0, 24⟩ : Room).slots) (fun v h L => v = none ∧ Fr n0 L ∧ Keep h0 h [a] ∧ Exa Z h a "gleanwell/Position" ∧ Fld Z h a "gleanwell/Position" "line" "J" (.long (own_LL kk c0 c1 c2 c3 ln0)) ∧ Fld Z h a "gleanwell/Position" "column" "J" (.long (own_colf kk (own_SS kk c0 c1 c2 c3))) ∧ Fld Z h a "gleanwell/Position" "last" "C" (.int (own_CC kk c0 c1 c2 c3))) TK (mkF m 21 #[A a, A b, I 0, I kk, J lnJ, E2, I 0, I 0, I 2, U, U] []) := by
 obtain ⟨hw, Z0, g_a, hk1, hk4, E_a, F_ln, F_co, F_la, V_b, nc0, nc1, nc2, nc3, hc0, hc1, hc2, hc3, ne_a_b, hx, hby, hml, hown, hnm, hret, hlk, hZ⟩ := id hC
 have K0 := Keep.refl h0 [a]
 have hown : s.vm.findClass "gleanwell/Position" = some m.cls := hown
 have B {q r} (i : Nat) := own_B (q := q) (r := r) hby D24_ok i
 have W {d : Jvm.Cond} (i : Nat) (h : tables_1[i]? = some d) : d.before a0 Z = true := own_w hw i h
 have w43 := W 43 rfl
 have w42 := W 42 rfl
 have M {n : Nat} (h : n = _) : n = cO.maxLocals := h.trans hml.symm
 refine gl XJ hx 23 (B 0 rfl) rfl rfl ?_
 refine gn XJ hx 24 (B 1 rfl) rfl rfl ?_
 by_cases hq2 : (2 : Int32) < kk
 ·
  refine gF XJ hx 27 (B 2 rfl) (tlt hq2).2.1 rfl ?_
  refine ga XJ hx 28 (B 48 rfl) rfl rfl rfl ?_
  refine gl XJ hx 30 (B 49 rfl) rfl rfl ?_
  refine gc XJ hx 31 hZ eJ V_b c2 rfl rfl (B 50 rfl) rfl ?_
  refine gb XJ hx 33 13 (B 51 rfl) rfl rfl ?_
  by_cases hc117 : (13 : Int32) < c2
  ·
   refine gF XJ hx 36 (B 52 rfl) (tlt hc117).2.2.2 rfl ?_
   refine gi XJ hx 39 (3 : Int32) _ (B 53 rfl) rfl (by decide) rfl rfl ?_
   refine gg XJ hx 21 (B 54 rfl) rfl ?_
   exact t21_3_0u hC _ _ _ XJ eJ NJ (own_sA (own_term_gt hc117) hL) (own_tA (own_term_gt hc117) hS) (own_lek hq2 rfl)
  ·
   refine gT XJ hx 42 (B 52 rfl) (flt hc117).2.2.2 rfl ?_
   refine gl XJ hx 44 (B 3 rfl) rfl rfl ?_
   refine gn XJ hx 45 (B 4 rfl) rfl rfl ?_
   have hk118 : ¬ ((2 : Int32) = kk) := own_neq hq2
   refine gT XJ hx 51 (B 5 rfl) (feq hk118).2 rfl ?_
   refine ga XJ hx 52 (B 55 rfl) rfl rfl rfl ?_
   refine gl XJ hx 54 (B 56 rfl) rfl rfl ?_
   refine gc XJ hx 55 hZ eJ V_b c2 rfl rfl (B 57 rfl) rfl ?_
   refine gs XJ hx 57 _ (B 58 rfl) rfl rfl ?_
   refine gl XJ hx 59 (B 59 rfl) rfl rfl ?_
   refine gS XJ hx 62 hZ hown (W 134 rfl) (W 135 rfl) w43 (W 136 rfl) (by decide) [(.int c2)] [] (rm25 hw c2 h0 n0 Z0) eJ 0 rfl (M rfl) (lenOf pd0 rfl) (B 60 rfl) rfl rfl rfl (fun v T119 L X119 Y => ?_)
   obtain ⟨rfl, N119q, e119⟩ := Y
   have N119 := Fr.app NJ N119q
   by_cases hc120 : (own_term c2) = 0
   ·
    refine gt X119 hx 96 (B 61 rfl) ((if0 _ _).trans (teq hc120).1) rfl ?_
    refine gi X119 hx 99 (3 : Int32) #[A a, A b, I 0, I kk, J lnJ, E2, I 0, I 0, I 3, I c2, U] (B 62 rfl) rfl (by decide) rfl rfl ?_
    refine gg X119 hx 21 (B 63 rfl) rfl ?_
    exact t21_3_0z hC _ _ _ _ X119 e119 N119 (own_sA hc120 hL) (own_tA hc120 hS) (own_lek hq2 rfl)
   ·
    refine gf X119 hx 65 (B 61 rfl) ((if0 _ _).trans (feq hc120).1) rfl ?_
    refine gl X119 hx 67 (B 64 rfl) rfl rfl ?_
    refine ga X119 hx 68 (B 65 rfl) rfl rfl rfl ?_
    refine ga X119 hx 69 (B 66 rfl) rfl rfl rfl ?_
    refine gn X119 hx 70 (B 67 rfl) rfl rfl ?_
    refine gl X119 hx 72 (B 68 rfl) rfl rfl ?_
    refine g_callP X119 hx 75 hZ hown (W 161 rfl) (W 162 rfl) (W 163 rfl) (W 132 rfl) rfl w43 (W 164 rfl) (by decide) a E_a [(.ref b), (.int 0), (.int 2)] [(.int c2)] (rb_2 hw a b (0 : Int32) c0 c1 c2 c3 kA h0 n0 Z0 F_la V_b nc1) e119 1 (by decide) (by decide) (by decide) (by decide) (by rw [hml]; rfl) (lenOf pd1 rfl) (B 69 rfl) rfl (Nat.le_of_eq rfl) rfl (fun v T121 L X121 Y => ?_)
    obtain ⟨rfl, N121q, e121⟩ := Y
    have N121 := Fr.app N119 N121q
    refine gS X121 hx 78 hZ hown (W 165 rfl) (W 166 rfl) w43 (W 167 rfl) (by decide) [(.int c2), (.int c1)] [] (rm31 hw c2 c1 h0 n0 Z0) e121 0 rfl (M rfl) (lenOf pd2 rfl) (B 70 rfl) rfl rfl rfl (fun v T122 L X122 Y => ?_)
    obtain ⟨rfl, N122q, e122⟩ := Y
    have N122 := Fr.app N121 N122q
    by_cases hc123 : (own_ends c2 c1) = 0
    ·
     refine gt X122 hx 87 (B 71 rfl) ((if0 _ _).trans (teq hc123).1) rfl ?_
     refine gl X122 hx 89 (B 72 rfl) rfl rfl ?_
     refine gk X122 hx 90 1 (B 73 rfl) rfl rfl ?_
     refine gp X122 hx 91 (3 : Int32) (B 74 rfl) (by decide) rfl ?_
     refine gs X122 hx 93 #[A a, A b, I 0, I kk, J lnJ, E2, I 3, I 0, I 2, I c2, U] (B 75 rfl) rfl rfl ?_
     refine gk X122 hx 94 1 (B 76 rfl) rfl rfl ?_
     refine gs X122 hx 96 _ (B 77 rfl) rfl rfl ?_
     refine gi X122 hx 99 (3 : Int32) #[A a, A b, I 0, I kk, J lnJ, E2, I 3, I 1, I 3, I c2, U] (B 62 rfl) rfl (by decide) rfl rfl ?_
     refine gg X122 hx 21 (B 63 rfl) rfl ?_
     exact t21_3_3z hC _ _ _ _ X122 e122 N122 (own_sB hc120 hc123 hL) (own_tB hc120) (own_lek hq2 rfl)
    ·
     refine gf X122 hx 81 (B 71 rfl) ((if0 _ _).trans (feq hc123).1) rfl ?_
     refine g_lload X122 hx 83 (B 78 rfl) rfl rfl ?_
     refine g_lconst X122 hx 84 (1 : Int64) (B 79 rfl) (by decide) rfl ?_
     refine g_ladd X122 hx 85 (lnJ + (1 : Int64)) (B 80 rfl) rfl rfl ?_
     refine g_lstore X122 hx 87 #[A a, A b, I 0, I kk, J (lnJ + (1 : Int64)), E2, I 0, I 0, I 2, I c2, U] (B 81 rfl) rfl rfl ?_
     refine gl X122 hx 89 (B 72 rfl) rfl rfl ?_
     refine gk X122 hx 90 1 (B 73 rfl) rfl rfl ?_
     refine gp X122 hx 91 (3 : Int32) (B 74 rfl) (by decide) rfl ?_
     refine gs X122 hx 93 _ (B 75 rfl) rfl rfl ?_
     refine gk X122 hx 94 1 (B 76 rfl) rfl rfl ?_
     refine gs X122 hx 96 #[A a, A b, I 0, I kk, J (lnJ + (1 : Int64)), E2, I 3, I 1, I 2, I c2, U] (B 77 rfl) rfl rfl ?_
     refine gi X122 hx 99 (3 : Int32) _ (B 62 rfl) rfl (by decide) rfl rfl ?_
     refine gg X122 hx 21 (B 63 rfl) rfl ?_
     exact t21_3_3z hC _ _ _ _ X122 e122 N122 (own_sC hc120 hc123 hL) (own_tB hc120) (own_lek hq2 rfl)
 ·
  obtain rfl : kk = 2 := own_eqk hi hq2
  refine gT XJ hx 42 (B 2 rfl) (by decide) rfl ?_
  refine gl XJ hx 44 (B 3 rfl) rfl rfl ?_
  refine gn XJ hx 45 (B 4 rfl) rfl rfl ?_
  refine gF XJ hx 48 (B 5 rfl) (by decide) rfl ?_
  refine gg XJ hx 102 (B 6 rfl) rfl ?_
  refine gk XJ hx 103 0 (B 7 rfl) rfl rfl ?_
  refine gs XJ hx 105 _ (B 8 rfl) rfl rfl ?_
  refine gl XJ hx 107 (B 9 rfl) rfl rfl ?_
  refine gs XJ hx 109 #[A a, A b, I 0, I 2, J lnJ, E2, I 0, I 0, I 2, I 0, I 0] (B 10 rfl) rfl rfl ?_
  refine gl XJ hx 111 (B 11 rfl) rfl rfl ?_
  refine gn XJ hx 112 (B 12 rfl) rfl rfl ?_
  refine gF XJ hx 115 (B 13 rfl) (by decide) rfl ?_
  refine ga XJ hx 116 (B 39 rfl) rfl rfl rfl ?_
  refine gl XJ hx 118 (B 40 rfl) rfl rfl ?_
  refine gc XJ hx 119 hZ eJ V_b c0 rfl rfl (B 41 rfl) rfl ?_
  refine gS XJ hx 122 hZ hown (W 137 rfl) (W 138 rfl) (W 139 rfl) (W 140 rfl) (by decide) [(.int c0)] [] (rm26 hw c0 h0 n0 Z0 hc0) eJ 0 rfl (M rfl) (lenOf pd0 rfl) (B 42 rfl) rfl rfl rfl (fun v T124 L X124 Y => ?_)
  obtain ⟨rfl, N124q, e124⟩ := Y
  have N124 := Fr.app NJ N124q
  refine gt X124 hx 142 (B 43 rfl) (by decide) rfl ?_
  refine gi X124 hx 145 (1 : Int32) _ (B 44 rfl) rfl (by decide) rfl rfl ?_
  refine gg X124 hx 109 (B 45 rfl) rfl ?_
  refine gl X124 hx 111 (B 11 rfl) rfl rfl ?_
  refine gn X124 hx 112 (B 12 rfl) rfl rfl ?_
  refine gF X124 hx 115 (B 13 rfl) (by decide) rfl ?_
  refine ga X124 hx 116 (B 39 rfl) rfl rfl rfl ?_
  refine gl X124 hx 118 (B 40 rfl) rfl rfl ?_
  refine gc X124 hx 119 hZ e124 V_b c1 rfl rfl (B 41 rfl) rfl ?_
  refine gS X124 hx 122 hZ hown (W 137 rfl) (W 138 rfl) (W 139 rfl) (W 140 rfl) (by decide) [(.int c1)] [] (rm26 hw c1 h0 n0 Z0 hc1) e124 0 rfl (M rfl) (lenOf pd0 rfl) (B 42 rfl) rfl rfl rfl (fun v T125 L X125 Y => ?_)
  obtain ⟨rfl, N125q, e125⟩ := Y
  have N125 := Fr.app N124 N125q
  refine gt X125 hx 142 (B 43 rfl) (by decide) rfl ?_
  refine gi X125 hx 145 (2 : Int32) #[A a, A b, I 0, I 2, J lnJ, E2, I 0, I 0, I 2, I 0, I 2] (B 44 rfl) rfl (by decide) rfl rfl ?_
  refine gg X125 hx 109 (B 45 rfl) rfl ?_
  refine gl X125 hx 111 (B 11 rfl) rfl rfl ?_
  refine gn X125 hx 112 (B 12 rfl) rfl rfl ?_
  refine gT X125 hx 148 (B 13 rfl) (by decide) rfl ?_
  refine ga X125 hx 149 (B 14 rfl) rfl rfl rfl ?_
  refine g_lload X125 hx 151 (B 15 rfl) rfl rfl ?_
  refine gP X125 hx 154 hZ hown (host := "") (Or.inl (W 48 rfl)) Via.refl e125 F_ln E_a (Or.inl (W 49 rfl)) w42 (ty := .long) (by decide) rfl rfl (B 16 rfl) rfl (fun T126 h126 X126 e126 W126 => ?_)
  have E_a := E_a.wr W126
  have F_ln := F_ln.same W126
  have F_co := F_co.other W126 (Or.inr (sn0 hw))
  have F_la := F_la.other W126 (Or.inr (sn1 hw))
  have V_b := V_b.other W126 (Ne.symm ne_a_b)
  have N126 := Fr.snoc X126 N125 g_a
  have Z126 : n0 ≤ h126.size := by rw [W126.size]; exact Z0
  have K126 := K0.wr W126 (Or.inl (List.mem_of_getElem? (i := 0) rfl))
  refine ga X126 hx 155 (B 17 rfl) rfl rfl rfl ?_
  refine gl X126 hx 157 (B 18 rfl) rfl rfl ?_
  refine gt X126 hx 164 (B 19 rfl) (by decide) rfl ?_
  refine ga X126 hx 165 (B 46 rfl) rfl rfl rfl ?_
  refine gG X126 hx 168 hZ hown (host := "") (Or.inl (W 50 rfl)) Via.refl e126 F_co (B 47 rfl) rfl (fun T127 X127 e127 => ?_)
  refine gn X127 hx 169 (B 22 rfl) rfl rfl ?_
  refine gl X127 hx 171 (B 23 rfl) rfl rfl ?_
  refine gm X127 hx 172 (2 : Int32) (B 24 rfl) (by decide) rfl ?_
  refine gL X127 hx 173 (2 : Int64) (B 25 rfl) (by decide) rfl ?_
  refine g_ladd X127 hx 174 (3 : Int64) (B 26 rfl) (by decide) rfl ?_
  refine gl X127 hx 176 (B 27 rfl) rfl rfl ?_
  refine gL X127 hx 177 (0 : Int64) (B 28 rfl) (by decide) rfl ?_
  refine g_lsub X127 hx 178 (3 : Int64) (B 29 rfl) (by decide) rfl ?_
  refine gP X127 hx 181 hZ hown (host := "") (Or.inl (W 50 rfl)) Via.refl e127 F_co E_a (Or.inl (W 51 rfl)) w42 (ty := .long) (by decide) rfl rfl (B 30 rfl) rfl (fun T128 h128 X128 e128 W128 => ?_)
  have E_a := E_a.wr W128
  have F_ln := F_ln.other W128 (Or.inr (sn2 hw))
  have F_co := F_co.same W128
  have F_la := F_la.other W128 (Or.inr (sn3 hw))
  have V_b := V_b.other W128 (Ne.symm ne_a_b)
  have N128 := Fr.snoc X128 N126 g_a
  have Z128 : n0 ≤ h128.size := by rw [W128.size]; exact Z126
  have K128 := K126.wr W128 (Or.inl (List.mem_of_getElem? (i := 0) rfl))
  refine ga X128 hx 182 (B 31 rfl) rfl rfl rfl ?_
  refine ga X128 hx 183 (B 32 rfl) rfl rfl rfl ?_
  refine gn X128 hx 184 (B 33 rfl) rfl rfl ?_
  refine gk X128 hx 185 1 (B 34 rfl) rfl rfl ?_
  refine gm X128 hx 186 (1 : Int32) (B 35 rfl) (by decide) rfl ?_
  refine gc X128 hx 187 hZ e128 V_b c1 rfl rfl (B 36 rfl) rfl ?_
  refine gP X128 hx 190 hZ hown (host := "") (Or.inl (W 142 rfl)) Via.refl e128 F_la E_a (Or.inl (W 143 rfl)) w42 (ty := .char) (by decide) (own_nrw nc1) (own_fit nc1) (B 37 rfl) rfl (fun T129 h129 X129 e129 W129 => ?_)
  have E_a := E_a.wr W129
  have F_ln := F_ln.other W129 (Or.inr (sn4 hw))
  have F_co := F_co.other W129 (Or.inr (sn5 hw))
  have F_la := F_la.same W129
  have V_b := V_b.other W129 (Ne.symm ne_a_b)
  have N129 := Fr.snoc X129 N128 g_a
  have Z129 : n0 ≤ h129.size := by rw [W129.size]; exact Z128
  have K129 := K128.wr W129 (Or.inl (List.mem_of_getElem? (i := 0) rfl))
  exact g_retV X129 hx hret hlk (B 38 rfl) (by decide) (by decide) (by rw [e129, show own_LL (2 : Int32) c0 c1 c2 c3 ln0 = lnJ from hL.symm, show own_SS (2 : Int32) c0 c1 c2 c3 = 0 from hS, show own_colf (2 : Int32) (0 : Int32) = (3 : Int64) from by decide]; exact ⟨rfl, N129, K129, E_a, F_ln, F_co, F_la⟩)
set_option maxRecDepth 65536 in
set_option maxHeartbeats 40000000 in
theorem t21_2_0z (hC : rpC l Z a0 a b kk ln0 c0 c1 c2 c3 kA h0 n0 p s m meth cO) (lnJ : Int64) (z9 : Int32) (TK : State) (locsJ : List Loc) (XJ : Stand p l e (⟨1, 0, 0, 24⟩ : Room) s m ([(.ref a), (.ref b), (.int 0), (.int kk)] : List Value).toArray below meth cO TK locsJ 0 0) (eJ : TK.heap = h0) (NJ : Fr n0 locsJ) (hL : lnJ = (own_step c1 c0 (own_step c0 0 ln0))) (hS : (own_st c1 2 (own_st c0 1 (0 : Int32))) = 0) (hi : ¬ kk < 2) :
  Go p e below (fun o t L => FrameEnd s o t L (⟨1, 0, 0, 24⟩ : Room).cells (⟨1, 0, 0, 24⟩ : Room).slots) (fun v h L => v = none ∧ Fr n0 L ∧ Keep h0 h [a] ∧ Exa Z h a "gleanwell/Position" ∧ Fld Z h a "gleanwell/Position" "line" "J" (.long (own_LL kk c0 c1 c2 c3 ln0)) ∧ Fld Z h a "gleanwell/Position" "column" "J" (.long (own_colf kk (own_SS kk c0 c1 c2 c3))) ∧ Fld Z h a "gleanwell/Position" "last" "C" (.int (own_CC kk c0 c1 c2 c3))) TK (mkF m 21 #[A a, A b, I 0, I kk, J lnJ, E2, I 0, I 0, I 2, I z9, U] []) := by
 obtain ⟨hw, Z0, g_a, hk1, hk4, E_a, F_ln, F_co, F_la, V_b, nc0, nc1, nc2, nc3, hc0, hc1, hc2, hc3, ne_a_b, hx, hby, hml, hown, hnm, hret, hlk, hZ⟩ := id hC
 have K0 := Keep.refl h0 [a]
 have hown : s.vm.findClass "gleanwell/Position" = some m.cls := hown
 have B {q r} (i : Nat) := own_B (q := q) (r := r) hby D24_ok i
 have W {d : Jvm.Cond} (i : Nat) (h : tables_1[i]? = some d) : d.before a0 Z = true := own_w hw i h
 have w43 := W 43 rfl
 have w42 := W 42 rfl
 have M {n : Nat} (h : n = _) : n = cO.maxLocals := h.trans hml.symm
 refine gl XJ hx 23 (B 0 rfl) rfl rfl ?_
 refine gn XJ hx 24 (B 1 rfl) rfl rfl ?_
 by_cases hq2 : (2 : Int32) < kk
 ·
  refine gF XJ hx 27 (B 2 rfl) (tlt hq2).2.1 rfl ?_
  refine ga XJ hx 28 (B 48 rfl) rfl rfl rfl ?_
  refine gl XJ hx 30 (B 49 rfl) rfl rfl ?_
  refine gc XJ hx 31 hZ eJ V_b c2 rfl rfl (B 50 rfl) rfl ?_
  refine gb XJ hx 33 13 (B 51 rfl) rfl rfl ?_
  by_cases hc130 : (13 : Int32) < c2
  ·
   refine gF XJ hx 36 (B 52 rfl) (tlt hc130).2.2.2 rfl ?_
   refine gi XJ hx 39 (3 : Int32) _ (B 53 rfl) rfl (by decide) rfl rfl ?_
   refine gg XJ hx 21 (B 54 rfl) rfl ?_
   exact t21_3_0z hC _ _ _ _ XJ eJ NJ (own_sA (own_term_gt hc130) hL) (own_tA (own_term_gt hc130) hS) (own_lek hq2 rfl)
  ·
   refine gT XJ hx 42 (B 52 rfl) (flt hc130).2.2.2 rfl ?_
   refine gl XJ hx 44 (B 3 rfl) rfl rfl ?_
   refine gn XJ hx 45 (B 4 rfl) rfl rfl ?_
   have hk131 : ¬ ((2 : Int32) = kk) := own_neq hq2
   refine gT XJ hx 51 (B 5 rfl) (feq hk131).2 rfl ?_
   refine ga XJ hx 52 (B 55 rfl) rfl rfl rfl ?_
   refine gl XJ hx 54 (B 56 rfl) rfl rfl ?_
   refine gc XJ hx 55 hZ eJ V_b c2 rfl rfl (B 57 rfl) rfl ?_
   refine gs XJ hx 57 _ (B 58 rfl) rfl rfl ?_
   refine gl XJ hx 59 (B 59 rfl) rfl rfl ?_
   refine gS XJ hx 62 hZ hown (W 134 rfl) (W 135 rfl) w43 (W 136 rfl) (by decide) [(.int c2)] [] (rm25 hw c2 h0 n0 Z0) eJ 0 rfl (M rfl) (lenOf pd0 rfl) (B 60 rfl) rfl rfl rfl (fun v T132 L X132 Y => ?_)
   obtain ⟨rfl, N132q, e132⟩ := Y
   have N132 := Fr.app NJ N132q
   by_cases hc133 : (own_term c2) = 0
   ·
    refine gt X132 hx 96 (B 61 rfl) ((if0 _ _).trans (teq hc133).1) rfl ?_
    refine gi X132 hx 99 (3 : Int32) #[A a, A b, I 0, I kk, J lnJ, E2, I 0, I 0, I 3, I c2, U] (B 62 rfl) rfl (by decide) rfl rfl ?_
    refine gg X132 hx 21 (B 63 rfl) rfl ?_
    exact t21_3_0z hC _ _ _ _ X132 e132 N132 (own_sA hc133 hL) (own_tA hc133 hS) (own_lek hq2 rfl)
   ·
    refine gf X132 hx 65 (B 61 rfl) ((if0 _ _).trans (feq hc133).1) rfl ?_
    refine gl X132 hx 67 (B 64 rfl) rfl rfl ?_
    refine ga X132 hx 68 (B 65 rfl) rfl rfl rfl ?_
    refine ga X132 hx 69 (B 66 rfl) rfl rfl rfl ?_
    refine gn X132 hx 70 (B 67 rfl) rfl rfl ?_
    refine gl X132 hx 72 (B 68 rfl) rfl rfl ?_
    refine g_callP X132 hx 75 hZ hown (W 161 rfl) (W 162 rfl) (W 163 rfl) (W 132 rfl) rfl w43 (W 164 rfl) (by decide) a E_a [(.ref b), (.int 0), (.int 2)] [(.int c2)] (rb_2 hw a b (0 : Int32) c0 c1 c2 c3 kA h0 n0 Z0 F_la V_b nc1) e132 1 (by decide) (by decide) (by decide) (by decide) (by rw [hml]; rfl) (lenOf pd1 rfl) (B 69 rfl) rfl (Nat.le_of_eq rfl) rfl (fun v T134 L X134 Y => ?_)
    obtain ⟨rfl, N134q, e134⟩ := Y
    have N134 := Fr.app N132 N134q
    refine gS X134 hx 78 hZ hown (W 165 rfl) (W 166 rfl) w43 (W 167 rfl) (by decide) [(.int c2), (.int c1)] [] (rm31 hw c2 c1 h0 n0 Z0) e134 0 rfl (M rfl) (lenOf pd2 rfl) (B 70 rfl) rfl rfl rfl (fun v T135 L X135 Y => ?_)
    obtain ⟨rfl, N135q, e135⟩ := Y
    have N135 := Fr.app N134 N135q
    by_cases hc136 : (own_ends c2 c1) = 0
    ·
     refine gt X135 hx 87 (B 71 rfl) ((if0 _ _).trans (teq hc136).1) rfl ?_
     refine gl X135 hx 89 (B 72 rfl) rfl rfl ?_
     refine gk X135 hx 90 1 (B 73 rfl) rfl rfl ?_
     refine gp X135 hx 91 (3 : Int32) (B 74 rfl) (by decide) rfl ?_
     refine gs X135 hx 93 #[A a, A b, I 0, I kk, J lnJ, E2, I 3, I 0, I 2, I c2, U] (B 75 rfl) rfl rfl ?_
     refine gk X135 hx 94 1 (B 76 rfl) rfl rfl ?_
     refine gs X135 hx 96 _ (B 77 rfl) rfl rfl ?_
     refine gi X135 hx 99 (3 : Int32) #[A a, A b, I 0, I kk, J lnJ, E2, I 3, I 1, I 3, I c2, U] (B 62 rfl) rfl (by decide) rfl rfl ?_
     refine gg X135 hx 21 (B 63 rfl) rfl ?_
     exact t21_3_3z hC _ _ _ _ X135 e135 N135 (own_sB hc133 hc136 hL) (own_tB hc133) (own_lek hq2 rfl)
    ·
     refine gf X135 hx 81 (B 71 rfl) ((if0 _ _).trans (feq hc136).1) rfl ?_
     refine g_lload X135 hx 83 (B 78 rfl) rfl rfl ?_
     refine g_lconst X135 hx 84 (1 : Int64) (B 79 rfl) (by decide) rfl ?_
     refine g_ladd X135 hx 85 (lnJ + (1 : Int64)) (B 80 rfl) rfl rfl ?_
     refine g_lstore X135 hx 87 #[A a, A b, I 0, I kk, J (lnJ + (1 : Int64)), E2, I 0, I 0, I 2, I c2, U] (B 81 rfl) rfl rfl ?_
     refine gl X135 hx 89 (B 72 rfl) rfl rfl ?_
     refine gk X135 hx 90 1 (B 73 rfl) rfl rfl ?_
     refine gp X135 hx 91 (3 : Int32) (B 74 rfl) (by decide) rfl ?_
     refine gs X135 hx 93 _ (B 75 rfl) rfl rfl ?_
     refine gk X135 hx 94 1 (B 76 rfl) rfl rfl ?_
     refine gs X135 hx 96 #[A a, A b, I 0, I kk, J (lnJ + (1 : Int64)), E2, I 3, I 1, I 2, I c2, U] (B 77 rfl) rfl rfl ?_
     refine gi X135 hx 99 (3 : Int32) _ (B 62 rfl) rfl (by decide) rfl rfl ?_
     refine gg X135 hx 21 (B 63 rfl) rfl ?_
     exact t21_3_3z hC _ _ _ _ X135 e135 N135 (own_sC hc133 hc136 hL) (own_tB hc133) (own_lek hq2 rfl)
 ·
  obtain rfl : kk = 2 := own_eqk hi hq2
  refine gT XJ hx 42 (B 2 rfl) (by decide) rfl ?_
  refine gl XJ hx 44 (B 3 rfl) rfl rfl ?_
  refine gn XJ hx 45 (B 4 rfl) rfl rfl ?_
  refine gF XJ hx 48 (B 5 rfl) (by decide) rfl ?_
  refine gg XJ hx 102 (B 6 rfl) rfl ?_
  refine gk XJ hx 103 0 (B 7 rfl) rfl rfl ?_
  refine gs XJ hx 105 _ (B 8 rfl) rfl rfl ?_
  refine gl XJ hx 107 (B 9 rfl) rfl rfl ?_
  refine gs XJ hx 109 #[A a, A b, I 0, I 2, J lnJ, E2, I 0, I 0, I 2, I 0, I 0] (B 10 rfl) rfl rfl ?_
  refine gl XJ hx 111 (B 11 rfl) rfl rfl ?_
  refine gn XJ hx 112 (B 12 rfl) rfl rfl ?_
  refine gF XJ hx 115 (B 13 rfl) (by decide) rfl ?_
  refine ga XJ hx 116 (B 39 rfl) rfl rfl rfl ?_
  refine gl XJ hx 118 (B 40 rfl) rfl rfl ?_
  refine gc XJ hx 119 hZ eJ V_b c0 rfl rfl (B 41 rfl) rfl ?_
  refine gS XJ hx 122 hZ hown (W 137 rfl) (W 138 rfl) (W 139 rfl) (W 140 rfl) (by decide) [(.int c0)] [] (rm26 hw c0 h0 n0 Z0 hc0) eJ 0 rfl (M rfl) (lenOf pd0 rfl) (B 42 rfl) rfl rfl rfl (fun v T137 L X137 Y => ?_)
  obtain ⟨rfl, N137q, e137⟩ := Y
  have N137 := Fr.app NJ N137q
  refine gt X137 hx 142 (B 43 rfl) (by decide) rfl ?_
  refine gi X137 hx 145 (1 : Int32) _ (B 44 rfl) rfl (by decide) rfl rfl ?_
  refine gg X137 hx 109 (B 45 rfl) rfl ?_
  refine gl X137 hx 111 (B 11 rfl) rfl rfl ?_
  refine gn X137 hx 112 (B 12 rfl) rfl rfl ?_
  refine gF X137 hx 115 (B 13 rfl) (by decide) rfl ?_
  refine ga X137 hx 116 (B 39 rfl) rfl rfl rfl ?_
  refine gl X137 hx 118 (B 40 rfl) rfl rfl ?_
  refine gc X137 hx 119 hZ e137 V_b c1 rfl rfl (B 41 rfl) rfl ?_
  refine gS X137 hx 122 hZ hown (W 137 rfl) (W 138 rfl) (W 139 rfl) (W 140 rfl) (by decide) [(.int c1)] [] (rm26 hw c1 h0 n0 Z0 hc1) e137 0 rfl (M rfl) (lenOf pd0 rfl) (B 42 rfl) rfl rfl rfl (fun v T138 L X138 Y => ?_)
  obtain ⟨rfl, N138q, e138⟩ := Y
  have N138 := Fr.app N137 N138q
  refine gt X138 hx 142 (B 43 rfl) (by decide) rfl ?_
  refine gi X138 hx 145 (2 : Int32) #[A a, A b, I 0, I 2, J lnJ, E2, I 0, I 0, I 2, I 0, I 2] (B 44 rfl) rfl (by decide) rfl rfl ?_
  refine gg X138 hx 109 (B 45 rfl) rfl ?_
  refine gl X138 hx 111 (B 11 rfl) rfl rfl ?_
  refine gn X138 hx 112 (B 12 rfl) rfl rfl ?_
  refine gT X138 hx 148 (B 13 rfl) (by decide) rfl ?_
  refine ga X138 hx 149 (B 14 rfl) rfl rfl rfl ?_
  refine g_lload X138 hx 151 (B 15 rfl) rfl rfl ?_
  refine gP X138 hx 154 hZ hown (host := "") (Or.inl (W 48 rfl)) Via.refl e138 F_ln E_a (Or.inl (W 49 rfl)) w42 (ty := .long) (by decide) rfl rfl (B 16 rfl) rfl (fun T139 h139 X139 e139 W139 => ?_)
  have E_a := E_a.wr W139
  have F_ln := F_ln.same W139
  have F_co := F_co.other W139 (Or.inr (sn0 hw))
  have F_la := F_la.other W139 (Or.inr (sn1 hw))
  have V_b := V_b.other W139 (Ne.symm ne_a_b)
  have N139 := Fr.snoc X139 N138 g_a
  have Z139 : n0 ≤ h139.size := by rw [W139.size]; exact Z0
  have K139 := K0.wr W139 (Or.inl (List.mem_of_getElem? (i := 0) rfl))
  refine ga X139 hx 155 (B 17 rfl) rfl rfl rfl ?_
  refine gl X139 hx 157 (B 18 rfl) rfl rfl ?_
  refine gt X139 hx 164 (B 19 rfl) (by decide) rfl ?_
  refine ga X139 hx 165 (B 46 rfl) rfl rfl rfl ?_
  refine gG X139 hx 168 hZ hown (host := "") (Or.inl (W 50 rfl)) Via.refl e139 F_co (B 47 rfl) rfl (fun T140 X140 e140 => ?_)
  refine gn X140 hx 169 (B 22 rfl) rfl rfl ?_
  refine gl X140 hx 171 (B 23 rfl) rfl rfl ?_
  refine gm X140 hx 172 (2 : Int32) (B 24 rfl) (by decide) rfl ?_
  refine gL X140 hx 173 (2 : Int64) (B 25 rfl) (by decide) rfl ?_
  refine g_ladd X140 hx 174 (3 : Int64) (B 26 rfl) (by decide) rfl ?_
  refine gl X140 hx 176 (B 27 rfl) rfl rfl ?_
  refine gL X140 hx 177 (0 : Int64) (B 28 rfl) (by decide) rfl ?_
  refine g_lsub X140 hx 178 (3 : Int64) (B 29 rfl) (by decide) rfl ?_
  refine gP X140 hx 181 hZ hown (host := "") (Or.inl (W 50 rfl)) Via.refl e140 F_co E_a (Or.inl (W 51 rfl)) w42 (ty := .long) (by decide) rfl rfl (B 30 rfl) rfl (fun T141 h141 X141 e141 W141 => ?_)
  have E_a := E_a.wr W141
  have F_ln := F_ln.other W141 (Or.inr (sn2 hw))
  have F_co := F_co.same W141
  have F_la := F_la.other W141 (Or.inr (sn3 hw))
  have V_b := V_b.other W141 (Ne.symm ne_a_b)
  have N141 := Fr.snoc X141 N139 g_a
  have Z141 : n0 ≤ h141.size := by rw [W141.size]; exact Z139
  have K141 := K139.wr W141 (Or.inl (List.mem_of_getElem? (i := 0) rfl))
  refine ga X141 hx 182 (B 31 rfl) rfl rfl rfl ?_
  refine ga X141 hx 183 (B 32 rfl) rfl rfl rfl ?_
  refine gn X141 hx 184 (B 33 rfl) rfl rfl ?_
  refine gk X141 hx 185 1 (B 34 rfl) rfl rfl ?_
  refine gm X141 hx 186 (1 : Int32) (B 35 rfl) (by decide) rfl ?_
  refine gc X141 hx 187 hZ e141 V_b c1 rfl rfl (B 36 rfl) rfl ?_
  refine gP X141 hx 190 hZ hown (host := "") (Or.inl (W 142 rfl)) Via.refl e141 F_la E_a (Or.inl (W 143 rfl)) w42 (ty := .char) (by decide) (own_nrw nc1) (own_fit nc1) (B 37 rfl) rfl (fun T142 h142 X142 e142 W142 => ?_)
  have E_a := E_a.wr W142
  have F_ln := F_ln.other W142 (Or.inr (sn4 hw))
  have F_co := F_co.other W142 (Or.inr (sn5 hw))
  have F_la := F_la.same W142
  have V_b := V_b.other W142 (Ne.symm ne_a_b)
  have N142 := Fr.snoc X142 N141 g_a
  have Z142 : n0 ≤ h142.size := by rw [W142.size]; exact Z141
  have K142 := K141.wr W142 (Or.inl (List.mem_of_getElem? (i := 0) rfl))
  exact g_retV X142 hx hret hlk (B 38 rfl) (by decide) (by decide) (by rw [e142, show own_LL (2 : Int32) c0 c1 c2 c3 ln0 = lnJ from hL.symm, show own_SS (2 : Int32) c0 c1 c2 c3 = 0 from hS, show own_colf (2 : Int32) (0 : Int32) = (3 : Int64) from by decide]; exact ⟨rfl, N142, K142, E_a, F_ln, F_co, F_la⟩)
set_option maxRecDepth 65536 in
set_option maxHeartbeats 40000000 in
theorem t21_1_1z (hC : rpC l Z a0 a b kk ln0 c0 c1 c2 c3 kA h0 n0 p s m meth cO) (lnJ : Int64) (z9 : Int32) (TK : State) (locsJ : List Loc) (XJ : Stand p l e (⟨1, 0, 0, 24⟩ : Room) s m ([(.ref a), (.ref b), (.int 0), (.int kk)] : List Value).toArray below meth cO TK locsJ 0 0) (eJ : TK.heap = h0) (NJ : Fr n0 locsJ) (hL : lnJ = (own_step c0 0 ln0)) (hS : (own_st c0 1 (0 : Int32)) = 1) (hi : ¬ kk < 1) :
  Go p e below (fun o t L => FrameEnd s o t L (⟨1, 0, 0, 24⟩ : Room).cells (⟨1, 0, 0, 24⟩ : Room).slots) (fun v h L => v = none ∧ Fr n0 L ∧ Keep h0 h [a] ∧ Exa Z h a "gleanwell/Position" ∧ Fld Z h a "gleanwell/Position" "line" "J" (.long (own_LL kk c0 c1 c2 c3 ln0)) ∧ Fld Z h a "gleanwell/Position" "column" "J" (.long (own_colf kk (own_SS kk c0 c1 c2 c3))) ∧ Fld Z h a "gleanwell/Position" "last" "C" (.int (own_CC kk c0 c1 c2 c3))) TK (mkF m 21 #[A a, A b, I 0, I kk, J lnJ, E2, I 1, I 1, I 1, I z9, U] []) := by
 obtain ⟨hw, Z0, g_a, hk1, hk4, E_a, F_ln, F_co, F_la, V_b, nc0, nc1, nc2, nc3, hc0, hc1, hc2, hc3, ne_a_b, hx, hby, hml, hown, hnm, hret, hlk, hZ⟩ := id hC
 have K0 := Keep.refl h0 [a]
 have hown : s.vm.findClass "gleanwell/Position" = some m.cls := hown
 have B {q r} (i : Nat) := own_B (q := q) (r := r) hby D24_ok i
 have W {d : Jvm.Cond} (i : Nat) (h : tables_1[i]? = some d) : d.before a0 Z = true := own_w hw i h
 have w43 := W 43 rfl
 have w42 := W 42 rfl
 have M {n : Nat} (h : n = _) : n = cO.maxLocals := h.trans hml.symm
 refine gl XJ hx 23 (B 0 rfl) rfl rfl ?_
 refine gn XJ hx 24 (B 1 rfl) rfl rfl ?_
 by_cases hq1 : (1 : Int32) < kk
 ·
  refine gF XJ hx 27 (B 2 rfl) (tlt hq1).2.1 rfl ?_
  refine ga XJ hx 28 (B 48 rfl) rfl rfl rfl ?_
  refine gl XJ hx 30 (B 49 rfl) rfl rfl ?_
  refine gc XJ hx 31 hZ eJ V_b c1 rfl rfl (B 50 rfl) rfl ?_
  refine gb XJ hx 33 13 (B 51 rfl) rfl rfl ?_
  by_cases hc143 : (13 : Int32) < c1
  ·
   refine gF XJ hx 36 (B 52 rfl) (tlt hc143).2.2.2 rfl ?_
   refine gi XJ hx 39 (2 : Int32) _ (B 53 rfl) rfl (by decide) rfl rfl ?_
   refine gg XJ hx 21 (B 54 rfl) rfl ?_
   exact t21_2_1z hC _ _ _ _ XJ eJ NJ (own_sA (own_term_gt hc143) hL) (own_tA (own_term_gt hc143) hS) (own_lek hq1 rfl)
  ·
   refine gT XJ hx 42 (B 52 rfl) (flt hc143).2.2.2 rfl ?_
   refine gl XJ hx 44 (B 3 rfl) rfl rfl ?_
   refine gn XJ hx 45 (B 4 rfl) rfl rfl ?_
   have hk144 : ¬ ((1 : Int32) = kk) := own_neq hq1
   refine gT XJ hx 51 (B 5 rfl) (feq hk144).2 rfl ?_
   refine ga XJ hx 52 (B 55 rfl) rfl rfl rfl ?_
   refine gl XJ hx 54 (B 56 rfl) rfl rfl ?_
   refine gc XJ hx 55 hZ eJ V_b c1 rfl rfl (B 57 rfl) rfl ?_
   refine gs XJ hx 57 _ (B 58 rfl) rfl rfl ?_
   refine gl XJ hx 59 (B 59 rfl) rfl rfl ?_
   refine gS XJ hx 62 hZ hown (W 134 rfl) (W 135 rfl) w43 (W 136 rfl) (by decide) [(.int c1)] [] (rm25 hw c1 h0 n0 Z0) eJ 0 rfl (M rfl) (lenOf pd0 rfl) (B 60 rfl) rfl rfl rfl (fun v T145 L X145 Y => ?_)
   obtain ⟨rfl, N145q, e145⟩ := Y
   have N145 := Fr.app NJ N145q
   by_cases hc146 : (own_term c1) = 0
   ·
    refine gt X145 hx 96 (B 61 rfl) ((if0 _ _).trans (teq hc146).1) rfl ?_
    refine gi X145 hx 99 (2 : Int32) #[A a, A b, I 0, I kk, J lnJ, E2, I 1, I 1, I 2, I c1, U] (B 62 rfl) rfl (by decide) rfl rfl ?_
    refine gg X145 hx 21 (B 63 rfl) rfl ?_
    exact t21_2_1z hC _ _ _ _ X145 e145 N145 (own_sA hc146 hL) (own_tA hc146 hS) (own_lek hq1 rfl)
   ·
    refine gf X145 hx 65 (B 61 rfl) ((if0 _ _).trans (feq hc146).1) rfl ?_
    refine gl X145 hx 67 (B 64 rfl) rfl rfl ?_
    refine ga X145 hx 68 (B 65 rfl) rfl rfl rfl ?_
    refine ga X145 hx 69 (B 66 rfl) rfl rfl rfl ?_
    refine gn X145 hx 70 (B 67 rfl) rfl rfl ?_
    refine gl X145 hx 72 (B 68 rfl) rfl rfl ?_
    refine g_callP X145 hx 75 hZ hown (W 161 rfl) (W 162 rfl) (W 163 rfl) (W 132 rfl) rfl w43 (W 164 rfl) (by decide) a E_a [(.ref b), (.int 0), (.int 1)] [(.int c1)] (rb_1 hw a b (0 : Int32) c0 c1 c2 c3 kA h0 n0 Z0 F_la V_b nc0) e145 1 (by decide) (by decide) (by decide) (by decide) (by rw [hml]; rfl) (lenOf pd1 rfl) (B 69 rfl) rfl (Nat.le_of_eq rfl) rfl (fun v T147 L X147 Y => ?_)
    obtain ⟨rfl, N147q, e147⟩ := Y
    have N147 := Fr.app N145 N147q
    refine gS X147 hx 78 hZ hown (W 165 rfl) (W 166 rfl) w43 (W 167 rfl) (by decide) [(.int c1), (.int c0)] [] (rm31 hw c1 c0 h0 n0 Z0) e147 0 rfl (M rfl) (lenOf pd2 rfl) (B 70 rfl) rfl rfl rfl (fun v T148 L X148 Y => ?_)
    obtain ⟨rfl, N148q, e148⟩ := Y
    have N148 := Fr.app N147 N148q
    by_cases hc149 : (own_ends c1 c0) = 0
    ·
     refine gt X148 hx 87 (B 71 rfl) ((if0 _ _).trans (teq hc149).1) rfl ?_
     refine gl X148 hx 89 (B 72 rfl) rfl rfl ?_
     refine gk X148 hx 90 1 (B 73 rfl) rfl rfl ?_
     refine gp X148 hx 91 (2 : Int32) (B 74 rfl) (by decide) rfl ?_
     refine gs X148 hx 93 #[A a, A b, I 0, I kk, J lnJ, E2, I 2, I 1, I 1, I c1, U] (B 75 rfl) rfl rfl ?_
     refine gk X148 hx 94 1 (B 76 rfl) rfl rfl ?_
     refine gs X148 hx 96 _ (B 77 rfl) rfl rfl ?_
     refine gi X148 hx 99 (2 : Int32) #[A a, A b, I 0, I kk, J lnJ, E2, I 2, I 1, I 2, I c1, U] (B 62 rfl) rfl (by decide) rfl rfl ?_
     refine gg X148 hx 21 (B 63 rfl) rfl ?_
     exact t21_2_2z hC _ _ _ _ X148 e148 N148 (own_sB hc146 hc149 hL) (own_tB hc146) (own_lek hq1 rfl)
    ·
     refine gf X148 hx 81 (B 71 rfl) ((if0 _ _).trans (feq hc149).1) rfl ?_
     refine g_lload X148 hx 83 (B 78 rfl) rfl rfl ?_
     refine g_lconst X148 hx 84 (1 : Int64) (B 79 rfl) (by decide) rfl ?_
     refine g_ladd X148 hx 85 (lnJ + (1 : Int64)) (B 80 rfl) rfl rfl ?_
     refine g_lstore X148 hx 87 #[A a, A b, I 0, I kk, J (lnJ + (1 : Int64)), E2, I 1, I 1, I 1, I c1, U] (B 81 rfl) rfl rfl ?_
     refine gl X148 hx 89 (B 72 rfl) rfl rfl ?_
     refine gk X148 hx 90 1 (B 73 rfl) rfl rfl ?_
     refine gp X148 hx 91 (2 : Int32) (B 74 rfl) (by decide) rfl ?_
     refine gs X148 hx 93 _ (B 75 rfl) rfl rfl ?_
     refine gk X148 hx 94 1 (B 76 rfl) rfl rfl ?_
     refine gs X148 hx 96 #[A a, A b, I 0, I kk, J (lnJ + (1 : Int64)), E2, I 2, I 1, I 1, I c1, U] (B 77 rfl) rfl rfl ?_
     refine gi X148 hx 99 (2 : Int32) _ (B 62 rfl) rfl (by decide) rfl rfl ?_
     refine gg X148 hx 21 (B 63 rfl) rfl ?_
     exact t21_2_2z hC _ _ _ _ X148 e148 N148 (own_sC hc146 hc149 hL) (own_tB hc146) (own_lek hq1 rfl)
 ·
  obtain rfl : kk = 1 := own_eqk hi hq1
  refine gT XJ hx 42 (B 2 rfl) (by decide) rfl ?_
  refine gl XJ hx 44 (B 3 rfl) rfl rfl ?_
  refine gn XJ hx 45 (B 4 rfl) rfl rfl ?_
  refine gF XJ hx 48 (B 5 rfl) (by decide) rfl ?_
  refine gg XJ hx 102 (B 6 rfl) rfl ?_
  refine gk XJ hx 103 0 (B 7 rfl) rfl rfl ?_
  refine gs XJ hx 105 _ (B 8 rfl) rfl rfl ?_
  refine gl XJ hx 107 (B 9 rfl) rfl rfl ?_
  refine gs XJ hx 109 #[A a, A b, I 0, I 1, J lnJ, E2, I 1, I 1, I 1, I 0, I 1] (B 10 rfl) rfl rfl ?_
  refine gl XJ hx 111 (B 11 rfl) rfl rfl ?_
  refine gn XJ hx 112 (B 12 rfl) rfl rfl ?_
  refine gT XJ hx 148 (B 13 rfl) (by decide) rfl ?_
  refine ga XJ hx 149 (B 14 rfl) rfl rfl rfl ?_
  refine g_lload XJ hx 151 (B 15 rfl) rfl rfl ?_
  refine gP XJ hx 154 hZ hown (host := "") (Or.inl (W 48 rfl)) Via.refl eJ F_ln E_a (Or.inl (W 49 rfl)) w42 (ty := .long) (by decide) rfl rfl (B 16 rfl) rfl (fun T150 h150 X150 e150 W150 => ?_)
  have E_a := E_a.wr W150
  have F_ln := F_ln.same W150
  have F_co := F_co.other W150 (Or.inr (sn0 hw))
  have F_la := F_la.other W150 (Or.inr (sn1 hw))
  have V_b := V_b.other W150 (Ne.symm ne_a_b)
  have N150 := Fr.snoc X150 NJ g_a
  have Z150 : n0 ≤ h150.size := by rw [W150.size]; exact Z0
  have K150 := K0.wr W150 (Or.inl (List.mem_of_getElem? (i := 0) rfl))
  refine ga X150 hx 155 (B 17 rfl) rfl rfl rfl ?_
  refine gl X150 hx 157 (B 18 rfl) rfl rfl ?_
  refine gf X150 hx 160 (B 19 rfl) (by decide) rfl ?_
  refine g_lconst X150 hx 161 (1 : Int64) (B 20 rfl) (by decide) rfl ?_
  refine gg X150 hx 168 (B 21 rfl) rfl ?_
  refine gn X150 hx 169 (B 22 rfl) rfl rfl ?_
  refine gl X150 hx 171 (B 23 rfl) rfl rfl ?_
  refine gm X150 hx 172 (0 : Int32) (B 24 rfl) (by decide) rfl ?_
  refine gL X150 hx 173 (0 : Int64) (B 25 rfl) (by decide) rfl ?_
  refine g_ladd X150 hx 174 (1 : Int64) (B 26 rfl) (by decide) rfl ?_
  refine gl X150 hx 176 (B 27 rfl) rfl rfl ?_
  refine gL X150 hx 177 (0 : Int64) (B 28 rfl) (by decide) rfl ?_
  refine g_lsub X150 hx 178 (1 : Int64) (B 29 rfl) (by decide) rfl ?_
  refine gP X150 hx 181 hZ hown (host := "") (Or.inl (W 50 rfl)) Via.refl e150 F_co E_a (Or.inl (W 51 rfl)) w42 (ty := .long) (by decide) rfl rfl (B 30 rfl) rfl (fun T151 h151 X151 e151 W151 => ?_)
  have E_a := E_a.wr W151
  have F_ln := F_ln.other W151 (Or.inr (sn2 hw))
  have F_co := F_co.same W151
  have F_la := F_la.other W151 (Or.inr (sn3 hw))
  have V_b := V_b.other W151 (Ne.symm ne_a_b)
  have N151 := Fr.snoc X151 N150 g_a
  have Z151 : n0 ≤ h151.size := by rw [W151.size]; exact Z150
  have K151 := K150.wr W151 (Or.inl (List.mem_of_getElem? (i := 0) rfl))
  refine ga X151 hx 182 (B 31 rfl) rfl rfl rfl ?_
  refine ga X151 hx 183 (B 32 rfl) rfl rfl rfl ?_
  refine gn X151 hx 184 (B 33 rfl) rfl rfl ?_
  refine gk X151 hx 185 1 (B 34 rfl) rfl rfl ?_
  refine gm X151 hx 186 (0 : Int32) (B 35 rfl) (by decide) rfl ?_
  refine gc X151 hx 187 hZ e151 V_b c0 rfl rfl (B 36 rfl) rfl ?_
  refine gP X151 hx 190 hZ hown (host := "") (Or.inl (W 142 rfl)) Via.refl e151 F_la E_a (Or.inl (W 143 rfl)) w42 (ty := .char) (by decide) (own_nrw nc0) (own_fit nc0) (B 37 rfl) rfl (fun T152 h152 X152 e152 W152 => ?_)
  have E_a := E_a.wr W152
  have F_ln := F_ln.other W152 (Or.inr (sn4 hw))
  have F_co := F_co.other W152 (Or.inr (sn5 hw))
  have F_la := F_la.same W152
  have V_b := V_b.other W152 (Ne.symm ne_a_b)
  have N152 := Fr.snoc X152 N151 g_a
  have Z152 : n0 ≤ h152.size := by rw [W152.size]; exact Z151
  have K152 := K151.wr W152 (Or.inl (List.mem_of_getElem? (i := 0) rfl))
  exact g_retV X152 hx hret hlk (B 38 rfl) (by decide) (by decide) (by rw [e152, show own_LL (1 : Int32) c0 c1 c2 c3 ln0 = lnJ from hL.symm, show own_SS (1 : Int32) c0 c1 c2 c3 = 1 from hS, show own_colf (1 : Int32) (1 : Int32) = (1 : Int64) from by decide]; exact ⟨rfl, N152, K152, E_a, F_ln, F_co, F_la⟩)
set_option maxRecDepth 65536 in
set_option maxHeartbeats 40000000 in
theorem t21_1_0u (hC : rpC l Z a0 a b kk ln0 c0 c1 c2 c3 kA h0 n0 p s m meth cO) (lnJ : Int64) (TK : State) (locsJ : List Loc) (XJ : Stand p l e (⟨1, 0, 0, 24⟩ : Room) s m ([(.ref a), (.ref b), (.int 0), (.int kk)] : List Value).toArray below meth cO TK locsJ 0 0) (eJ : TK.heap = h0) (NJ : Fr n0 locsJ) (hL : lnJ = (own_step c0 0 ln0)) (hS : (own_st c0 1 (0 : Int32)) = 0) (hi : ¬ kk < 1) :
  Go p e below (fun o t L => FrameEnd s o t L (⟨1, 0, 0, 24⟩ : Room).cells (⟨1, 0, 0, 24⟩ : Room).slots) (fun v h L => v = none ∧ Fr n0 L ∧ Keep h0 h [a] ∧ Exa Z h a "gleanwell/Position" ∧ Fld Z h a "gleanwell/Position" "line" "J" (.long (own_LL kk c0 c1 c2 c3 ln0)) ∧ Fld Z h a "gleanwell/Position" "column" "J" (.long (own_colf kk (own_SS kk c0 c1 c2 c3))) ∧ Fld Z h a "gleanwell/Position" "last" "C" (.int (own_CC kk c0 c1 c2 c3))) TK (mkF m 21 #[A a, A b, I 0, I kk, J lnJ, E2, I 0, I 0, I 1, U, U] []) := by
 obtain ⟨hw, Z0, g_a, hk1, hk4, E_a, F_ln, F_co, F_la, V_b, nc0, nc1, nc2, nc3, hc0, hc1, hc2, hc3, ne_a_b, hx, hby, hml, hown, hnm, hret, hlk, hZ⟩ := id hC
 have K0 := Keep.refl h0 [a]
 have hown : s.vm.findClass "gleanwell/Position" = some m.cls := hown
 have B {q r} (i : Nat) := own_B (q := q) (r := r) hby D24_ok i
 have W {d : Jvm.Cond} (i : Nat) (h : tables_1[i]? = some d) : d.before a0 Z = true := own_w hw i h
 have w43 := W 43 rfl
 have w42 := W 42 rfl
 have M {n : Nat} (h : n = _) : n = cO.maxLocals := h.trans hml.symm
 refine gl XJ hx 23 (B 0 rfl) rfl rfl ?_
 refine gn XJ hx 24 (B 1 rfl) rfl rfl ?_
 by_cases hq1 : (1 : Int32) < kk
 ·
  refine gF XJ hx 27 (B 2 rfl) (tlt hq1).2.1 rfl ?_
  refine ga XJ hx 28 (B 48 rfl) rfl rfl rfl ?_
  refine gl XJ hx 30 (B 49 rfl) rfl rfl ?_
  refine gc XJ hx 31 hZ eJ V_b c1 rfl rfl (B 50 rfl) rfl ?_
  refine gb XJ hx 33 13 (B 51 rfl) rfl rfl ?_
  by_cases hc153 : (13 : Int32) < c1
  ·
   refine gF XJ hx 36 (B 52 rfl) (tlt hc153).2.2.2 rfl ?_
   refine gi XJ hx 39 (2 : Int32) _ (B 53 rfl) rfl (by decide) rfl rfl ?_
   refine gg XJ hx 21 (B 54 rfl) rfl ?_
   exact t21_2_0u hC _ _ _ XJ eJ NJ (own_sA (own_term_gt hc153) hL) (own_tA (own_term_gt hc153) hS) (own_lek hq1 rfl)
  ·
   refine gT XJ hx 42 (B 52 rfl) (flt hc153).2.2.2 rfl ?_
   refine gl XJ hx 44 (B 3 rfl) rfl rfl ?_
   refine gn XJ hx 45 (B 4 rfl) rfl rfl ?_
   have hk154 : ¬ ((1 : Int32) = kk) := own_neq hq1
   refine gT XJ hx 51 (B 5 rfl) (feq hk154).2 rfl ?_
   refine ga XJ hx 52 (B 55 rfl) rfl rfl rfl ?_
   refine gl XJ hx 54 (B 56 rfl) rfl rfl ?_
   refine gc XJ hx 55 hZ eJ V_b c1 rfl rfl (B 57 rfl) rfl ?_
   refine gs XJ hx 57 _ (B 58 rfl) rfl rfl ?_
   refine gl XJ hx 59 (B 59 rfl) rfl rfl ?_
   refine gS XJ hx 62 hZ hown (W 134 rfl) (W 135 rfl) w43 (W 136 rfl) (by decide) [(.int c1)] [] (rm25 hw c1 h0 n0 Z0) eJ 0 rfl (M rfl) (lenOf pd0 rfl) (B 60 rfl) rfl rfl rfl (fun v T155 L X155 Y => ?_)
   obtain ⟨rfl, N155q, e155⟩ := Y
   have N155 := Fr.app NJ N155q
   by_cases hc156 : (own_term c1) = 0
   ·
    refine gt X155 hx 96 (B 61 rfl) ((if0 _ _).trans (teq hc156).1) rfl ?_
    refine gi X155 hx 99 (2 : Int32) #[A a, A b, I 0, I kk, J lnJ, E2, I 0, I 0, I 2, I c1, U] (B 62 rfl) rfl (by decide) rfl rfl ?_
    refine gg X155 hx 21 (B 63 rfl) rfl ?_
    exact t21_2_0z hC _ _ _ _ X155 e155 N155 (own_sA hc156 hL) (own_tA hc156 hS) (own_lek hq1 rfl)
   ·
    refine gf X155 hx 65 (B 61 rfl) ((if0 _ _).trans (feq hc156).1) rfl ?_
    refine gl X155 hx 67 (B 64 rfl) rfl rfl ?_
    refine ga X155 hx 68 (B 65 rfl) rfl rfl rfl ?_
    refine ga X155 hx 69 (B 66 rfl) rfl rfl rfl ?_
    refine gn X155 hx 70 (B 67 rfl) rfl rfl ?_
    refine gl X155 hx 72 (B 68 rfl) rfl rfl ?_
    refine g_callP X155 hx 75 hZ hown (W 161 rfl) (W 162 rfl) (W 163 rfl) (W 132 rfl) rfl w43 (W 164 rfl) (by decide) a E_a [(.ref b), (.int 0), (.int 1)] [(.int c1)] (rb_1 hw a b (0 : Int32) c0 c1 c2 c3 kA h0 n0 Z0 F_la V_b nc0) e155 1 (by decide) (by decide) (by decide) (by decide) (by rw [hml]; rfl) (lenOf pd1 rfl) (B 69 rfl) rfl (Nat.le_of_eq rfl) rfl (fun v T157 L X157 Y => ?_)
    obtain ⟨rfl, N157q, e157⟩ := Y
    have N157 := Fr.app N155 N157q
    refine gS X157 hx 78 hZ hown (W 165 rfl) (W 166 rfl) w43 (W 167 rfl) (by decide) [(.int c1), (.int c0)] [] (rm31 hw c1 c0 h0 n0 Z0) e157 0 rfl (M rfl) (lenOf pd2 rfl) (B 70 rfl) rfl rfl rfl (fun v T158 L X158 Y => ?_)
    obtain ⟨rfl, N158q, e158⟩ := Y
    have N158 := Fr.app N157 N158q
    by_cases hc159 : (own_ends c1 c0) = 0
    ·
     refine gt X158 hx 87 (B 71 rfl) ((if0 _ _).trans (teq hc159).1) rfl ?_
     refine gl X158 hx 89 (B 72 rfl) rfl rfl ?_
     refine gk X158 hx 90 1 (B 73 rfl) rfl rfl ?_
     refine gp X158 hx 91 (2 : Int32) (B 74 rfl) (by decide) rfl ?_
     refine gs X158 hx 93 #[A a, A b, I 0, I kk, J lnJ, E2, I 2, I 0, I 1, I c1, U] (B 75 rfl) rfl rfl ?_
     refine gk X158 hx 94 1 (B 76 rfl) rfl rfl ?_
     refine gs X158 hx 96 _ (B 77 rfl) rfl rfl ?_
     refine gi X158 hx 99 (2 : Int32) #[A a, A b, I 0, I kk, J lnJ, E2, I 2, I 1, I 2, I c1, U] (B 62 rfl) rfl (by decide) rfl rfl ?_
     refine gg X158 hx 21 (B 63 rfl) rfl ?_
     exact t21_2_2z hC _ _ _ _ X158 e158 N158 (own_sB hc156 hc159 hL) (own_tB hc156) (own_lek hq1 rfl)
    ·
     refine gf X158 hx 81 (B 71 rfl) ((if0 _ _).trans (feq hc159).1) rfl ?_
     refine g_lload X158 hx 83 (B 78 rfl) rfl rfl ?_
     refine g_lconst X158 hx 84 (1 : Int64) (B 79 rfl) (by decide) rfl ?_
     refine g_ladd X158 hx 85 (lnJ + (1 : Int64)) (B 80 rfl) rfl rfl ?_
     refine g_lstore X158 hx 87 #[A a, A b, I 0, I kk, J (lnJ + (1 : Int64)), E2, I 0, I 0, I 1, I c1, U] (B 81 rfl) rfl rfl ?_
     refine gl X158 hx 89 (B 72 rfl) rfl rfl ?_
     refine gk X158 hx 90 1 (B 73 rfl) rfl rfl ?_
     refine gp X158 hx 91 (2 : Int32) (B 74 rfl) (by decide) rfl ?_
     refine gs X158 hx 93 _ (B 75 rfl) rfl rfl ?_
     refine gk X158 hx 94 1 (B 76 rfl) rfl rfl ?_
     refine gs X158 hx 96 #[A a, A b, I 0, I kk, J (lnJ + (1 : Int64)), E2, I 2, I 1, I 1, I c1, U] (B 77 rfl) rfl rfl ?_
     refine gi X158 hx 99 (2 : Int32) _ (B 62 rfl) rfl (by decide) rfl rfl ?_
     refine gg X158 hx 21 (B 63 rfl) rfl ?_
     exact t21_2_2z hC _ _ _ _ X158 e158 N158 (own_sC hc156 hc159 hL) (own_tB hc156) (own_lek hq1 rfl)
 ·
  obtain rfl : kk = 1 := own_eqk hi hq1
  refine gT XJ hx 42 (B 2 rfl) (by decide) rfl ?_
  refine gl XJ hx 44 (B 3 rfl) rfl rfl ?_
  refine gn XJ hx 45 (B 4 rfl) rfl rfl ?_
  refine gF XJ hx 48 (B 5 rfl) (by decide) rfl ?_
  refine gg XJ hx 102 (B 6 rfl) rfl ?_
  refine gk XJ hx 103 0 (B 7 rfl) rfl rfl ?_
  refine gs XJ hx 105 _ (B 8 rfl) rfl rfl ?_
  refine gl XJ hx 107 (B 9 rfl) rfl rfl ?_
  refine gs XJ hx 109 #[A a, A b, I 0, I 1, J lnJ, E2, I 0, I 0, I 1, I 0, I 0] (B 10 rfl) rfl rfl ?_
  refine gl XJ hx 111 (B 11 rfl) rfl rfl ?_
  refine gn XJ hx 112 (B 12 rfl) rfl rfl ?_
  refine gF XJ hx 115 (B 13 rfl) (by decide) rfl ?_
  refine ga XJ hx 116 (B 39 rfl) rfl rfl rfl ?_
  refine gl XJ hx 118 (B 40 rfl) rfl rfl ?_
  refine gc XJ hx 119 hZ eJ V_b c0 rfl rfl (B 41 rfl) rfl ?_
  refine gS XJ hx 122 hZ hown (W 137 rfl) (W 138 rfl) (W 139 rfl) (W 140 rfl) (by decide) [(.int c0)] [] (rm26 hw c0 h0 n0 Z0 hc0) eJ 0 rfl (M rfl) (lenOf pd0 rfl) (B 42 rfl) rfl rfl rfl (fun v T160 L X160 Y => ?_)
  obtain ⟨rfl, N160q, e160⟩ := Y
  have N160 := Fr.app NJ N160q
  refine gt X160 hx 142 (B 43 rfl) (by decide) rfl ?_
  refine gi X160 hx 145 (1 : Int32) _ (B 44 rfl) rfl (by decide) rfl rfl ?_
  refine gg X160 hx 109 (B 45 rfl) rfl ?_
  refine gl X160 hx 111 (B 11 rfl) rfl rfl ?_
  refine gn X160 hx 112 (B 12 rfl) rfl rfl ?_
  refine gT X160 hx 148 (B 13 rfl) (by decide) rfl ?_
  refine ga X160 hx 149 (B 14 rfl) rfl rfl rfl ?_
  refine g_lload X160 hx 151 (B 15 rfl) rfl rfl ?_
  refine gP X160 hx 154 hZ hown (host := "") (Or.inl (W 48 rfl)) Via.refl e160 F_ln E_a (Or.inl (W 49 rfl)) w42 (ty := .long) (by decide) rfl rfl (B 16 rfl) rfl (fun T161 h161 X161 e161 W161 => ?_)
  have E_a := E_a.wr W161
  have F_ln := F_ln.same W161
  have F_co := F_co.other W161 (Or.inr (sn0 hw))
  have F_la := F_la.other W161 (Or.inr (sn1 hw))
  have V_b := V_b.other W161 (Ne.symm ne_a_b)
  have N161 := Fr.snoc X161 N160 g_a
  have Z161 : n0 ≤ h161.size := by rw [W161.size]; exact Z0
  have K161 := K0.wr W161 (Or.inl (List.mem_of_getElem? (i := 0) rfl))
  refine ga X161 hx 155 (B 17 rfl) rfl rfl rfl ?_
  refine gl X161 hx 157 (B 18 rfl) rfl rfl ?_
  refine gt X161 hx 164 (B 19 rfl) (by decide) rfl ?_
  refine ga X161 hx 165 (B 46 rfl) rfl rfl rfl ?_
  refine gG X161 hx 168 hZ hown (host := "") (Or.inl (W 50 rfl)) Via.refl e161 F_co (B 47 rfl) rfl (fun T162 X162 e162 => ?_)
  refine gn X162 hx 169 (B 22 rfl) rfl rfl ?_
  refine gl X162 hx 171 (B 23 rfl) rfl rfl ?_
  refine gm X162 hx 172 (1 : Int32) (B 24 rfl) (by decide) rfl ?_
  refine gL X162 hx 173 (1 : Int64) (B 25 rfl) (by decide) rfl ?_
  refine g_ladd X162 hx 174 (2 : Int64) (B 26 rfl) (by decide) rfl ?_
  refine gl X162 hx 176 (B 27 rfl) rfl rfl ?_
  refine gL X162 hx 177 (0 : Int64) (B 28 rfl) (by decide) rfl ?_
  refine g_lsub X162 hx 178 (2 : Int64) (B 29 rfl) (by decide) rfl ?_
  refine gP X162 hx 181 hZ hown (host := "") (Or.inl (W 50 rfl)) Via.refl e162 F_co E_a (Or.inl (W 51 rfl)) w42 (ty := .long) (by decide) rfl rfl (B 30 rfl) rfl (fun T163 h163 X163 e163 W163 => ?_)
  have E_a := E_a.wr W163
  have F_ln := F_ln.other W163 (Or.inr (sn2 hw))
  have F_co := F_co.same W163
  have F_la := F_la.other W163 (Or.inr (sn3 hw))
  have V_b := V_b.other W163 (Ne.symm ne_a_b)
  have N163 := Fr.snoc X163 N161 g_a
  have Z163 : n0 ≤ h163.size := by rw [W163.size]; exact Z161
  have K163 := K161.wr W163 (Or.inl (List.mem_of_getElem? (i := 0) rfl))
  refine ga X163 hx 182 (B 31 rfl) rfl rfl rfl ?_
  refine ga X163 hx 183 (B 32 rfl) rfl rfl rfl ?_
  refine gn X163 hx 184 (B 33 rfl) rfl rfl ?_
  refine gk X163 hx 185 1 (B 34 rfl) rfl rfl ?_
  refine gm X163 hx 186 (0 : Int32) (B 35 rfl) (by decide) rfl ?_
  refine gc X163 hx 187 hZ e163 V_b c0 rfl rfl (B 36 rfl) rfl ?_
  refine gP X163 hx 190 hZ hown (host := "") (Or.inl (W 142 rfl)) Via.refl e163 F_la E_a (Or.inl (W 143 rfl)) w42 (ty := .char) (by decide) (own_nrw nc0) (own_fit nc0) (B 37 rfl) rfl (fun T164 h164 X164 e164 W164 => ?_)
  have E_a := E_a.wr W164
  have F_ln := F_ln.other W164 (Or.inr (sn4 hw))
  have F_co := F_co.other W164 (Or.inr (sn5 hw))
  have F_la := F_la.same W164
  have V_b := V_b.other W164 (Ne.symm ne_a_b)
  have N164 := Fr.snoc X164 N163 g_a
  have Z164 : n0 ≤ h164.size := by rw [W164.size]; exact Z163
  have K164 := K163.wr W164 (Or.inl (List.mem_of_getElem? (i := 0) rfl))
  exact g_retV X164 hx hret hlk (B 38 rfl) (by decide) (by decide) (by rw [e164, show own_LL (1 : Int32) c0 c1 c2 c3 ln0 = lnJ from hL.symm, show own_SS (1 : Int32) c0 c1 c2 c3 = 0 from hS, show own_colf (1 : Int32) (0 : Int32) = (2 : Int64) from by decide]; exact ⟨rfl, N164, K164, E_a, F_ln, F_co, F_la⟩)
set_option maxRecDepth 65536 in
set_option maxHeartbeats 40000000 in
theorem t21_1_0z (hC : rpC l Z a0 a b kk ln0 c0 c1 c2 c3 kA h0 n0 p s m meth cO) (lnJ : Int64) (z9 : Int32) (TK : State) (locsJ : List Loc) (XJ : Stand p l e (⟨1, 0, 0, 24⟩ : Room) s m ([(.ref a), (.ref b), (.int 0), (.int kk)] : List Value).toArray below meth cO TK locsJ 0 0) (eJ : TK.heap = h0) (NJ : Fr n0 locsJ) (hL : lnJ = (own_step c0 0 ln0)) (hS : (own_st c0 1 (0 : Int32)) = 0) (hi : ¬ kk < 1) :
  Go p e below (fun o t L => FrameEnd s o t L (⟨1, 0, 0, 24⟩ : Room).cells (⟨1, 0, 0, 24⟩ : Room).slots) (fun v h L => v = none ∧ Fr n0 L ∧ Keep h0 h [a] ∧ Exa Z h a "gleanwell/Position" ∧ Fld Z h a "gleanwell/Position" "line" "J" (.long (own_LL kk c0 c1 c2 c3 ln0)) ∧ Fld Z h a "gleanwell/Position" "column" "J" (.long (own_colf kk (own_SS kk c0 c1 c2 c3))) ∧ Fld Z h a "gleanwell/Position" "last" "C" (.int (own_CC kk c0 c1 c2 c3))) TK (mkF m 21 #[A a, A b, I 0, I kk, J lnJ, E2, I 0, I 0, I 1, I z9, U] []) := by
 obtain ⟨hw, Z0, g_a, hk1, hk4, E_a, F_ln, F_co, F_la, V_b, nc0, nc1, nc2, nc3, hc0, hc1, hc2, hc3, ne_a_b, hx, hby, hml, hown, hnm, hret, hlk, hZ⟩ := id hC
 have K0 := Keep.refl h0 [a]
 have hown : s.vm.findClass "gleanwell/Position" = some m.cls := hown
 have B {q r} (i : Nat) := own_B (q := q) (r := r) hby D24_ok i
 have W {d : Jvm.Cond} (i : Nat) (h : tables_1[i]? = some d) : d.before a0 Z = true := own_w hw i h
 have w43 := W 43 rfl
 have w42 := W 42 rfl
 have M {n : Nat} (h : n = _) : n = cO.maxLocals := h.trans hml.symm
 refine gl XJ hx 23 (B 0 rfl) rfl rfl ?_
 refine gn XJ hx 24 (B 1 rfl) rfl rfl ?_
 by_cases hq1 : (1 : Int32) < kk
 ·
  refine gF XJ hx 27 (B 2 rfl) (tlt hq1).2.1 rfl ?_
  refine ga XJ hx 28 (B 48 rfl) rfl rfl rfl ?_
  refine gl XJ hx 30 (B 49 rfl) rfl rfl ?_
  refine gc XJ hx 31 hZ eJ V_b c1 rfl rfl (B 50 rfl) rfl ?_
  refine gb XJ hx 33 13 (B 51 rfl) rfl rfl ?_
  by_cases hc165 : (13 : Int32) < c1
  ·
   refine gF XJ hx 36 (B 52 rfl) (tlt hc165).2.2.2 rfl ?_
   refine gi XJ hx 39 (2 : Int32) _ (B 53 rfl) rfl (by decide) rfl rfl ?_
   refine gg XJ hx 21 (B 54 rfl) rfl ?_
   exact t21_2_0z hC _ _ _ _ XJ eJ NJ (own_sA (own_term_gt hc165) hL) (own_tA (own_term_gt hc165) hS) (own_lek hq1 rfl)
  ·
   refine gT XJ hx 42 (B 52 rfl) (flt hc165).2.2.2 rfl ?_
   refine gl XJ hx 44 (B 3 rfl) rfl rfl ?_
   refine gn XJ hx 45 (B 4 rfl) rfl rfl ?_
   have hk166 : ¬ ((1 : Int32) = kk) := own_neq hq1
   refine gT XJ hx 51 (B 5 rfl) (feq hk166).2 rfl ?_
   refine ga XJ hx 52 (B 55 rfl) rfl rfl rfl ?_
   refine gl XJ hx 54 (B 56 rfl) rfl rfl ?_
   refine gc XJ hx 55 hZ eJ V_b c1 rfl rfl (B 57 rfl) rfl ?_
   refine gs XJ hx 57 _ (B 58 rfl) rfl rfl ?_
   refine gl XJ hx 59 (B 59 rfl) rfl rfl ?_
   refine gS XJ hx 62 hZ hown (W 134 rfl) (W 135 rfl) w43 (W 136 rfl) (by decide) [(.int c1)] [] (rm25 hw c1 h0 n0 Z0) eJ 0 rfl (M rfl) (lenOf pd0 rfl) (B 60 rfl) rfl rfl rfl (fun v T167 L X167 Y => ?_)
   obtain ⟨rfl, N167q, e167⟩ := Y
   have N167 := Fr.app NJ N167q
   by_cases hc168 : (own_term c1) = 0
   ·
    refine gt X167 hx 96 (B 61 rfl) ((if0 _ _).trans (teq hc168).1) rfl ?_
    refine gi X167 hx 99 (2 : Int32) #[A a, A b, I 0, I kk, J lnJ, E2, I 0, I 0, I 2, I c1, U] (B 62 rfl) rfl (by decide) rfl rfl ?_
    refine gg X167 hx 21 (B 63 rfl) rfl ?_
    exact t21_2_0z hC _ _ _ _ X167 e167 N167 (own_sA hc168 hL) (own_tA hc168 hS) (own_lek hq1 rfl)
   ·
    refine gf X167 hx 65 (B 61 rfl) ((if0 _ _).trans (feq hc168).1) rfl ?_
    refine gl X167 hx 67 (B 64 rfl) rfl rfl ?_
    refine ga X167 hx 68 (B 65 rfl) rfl rfl rfl ?_
    refine ga X167 hx 69 (B 66 rfl) rfl rfl rfl ?_
    refine gn X167 hx 70 (B 67 rfl) rfl rfl ?_
    refine gl X167 hx 72 (B 68 rfl) rfl rfl ?_
    refine g_callP X167 hx 75 hZ hown (W 161 rfl) (W 162 rfl) (W 163 rfl) (W 132 rfl) rfl w43 (W 164 rfl) (by decide) a E_a [(.ref b), (.int 0), (.int 1)] [(.int c1)] (rb_1 hw a b (0 : Int32) c0 c1 c2 c3 kA h0 n0 Z0 F_la V_b nc0) e167 1 (by decide) (by decide) (by decide) (by decide) (by rw [hml]; rfl) (lenOf pd1 rfl) (B 69 rfl) rfl (Nat.le_of_eq rfl) rfl (fun v T169 L X169 Y => ?_)
    obtain ⟨rfl, N169q, e169⟩ := Y
    have N169 := Fr.app N167 N169q
    refine gS X169 hx 78 hZ hown (W 165 rfl) (W 166 rfl) w43 (W 167 rfl) (by decide) [(.int c1), (.int c0)] [] (rm31 hw c1 c0 h0 n0 Z0) e169 0 rfl (M rfl) (lenOf pd2 rfl) (B 70 rfl) rfl rfl rfl (fun v T170 L X170 Y => ?_)
    obtain ⟨rfl, N170q, e170⟩ := Y
    have N170 := Fr.app N169 N170q
    by_cases hc171 : (own_ends c1 c0) = 0
    ·
     refine gt X170 hx 87 (B 71 rfl) ((if0 _ _).trans (teq hc171).1) rfl ?_
     refine gl X170 hx 89 (B 72 rfl) rfl rfl ?_
     refine gk X170 hx 90 1 (B 73 rfl) rfl rfl ?_
     refine gp X170 hx 91 (2 : Int32) (B 74 rfl) (by decide) rfl ?_
     refine gs X170 hx 93 #[A a, A b, I 0, I kk, J lnJ, E2, I 2, I 0, I 1, I c1, U] (B 75 rfl) rfl rfl ?_
     refine gk X170 hx 94 1 (B 76 rfl) rfl rfl ?_
     refine gs X170 hx 96 _ (B 77 rfl) rfl rfl ?_
     refine gi X170 hx 99 (2 : Int32) #[A a, A b, I 0, I kk, J lnJ, E2, I 2, I 1, I 2, I c1, U] (B 62 rfl) rfl (by decide) rfl rfl ?_
     refine gg X170 hx 21 (B 63 rfl) rfl ?_
     exact t21_2_2z hC _ _ _ _ X170 e170 N170 (own_sB hc168 hc171 hL) (own_tB hc168) (own_lek hq1 rfl)
    ·
     refine gf X170 hx 81 (B 71 rfl) ((if0 _ _).trans (feq hc171).1) rfl ?_
     refine g_lload X170 hx 83 (B 78 rfl) rfl rfl ?_
     refine g_lconst X170 hx 84 (1 : Int64) (B 79 rfl) (by decide) rfl ?_
     refine g_ladd X170 hx 85 (lnJ + (1 : Int64)) (B 80 rfl) rfl rfl ?_
     refine g_lstore X170 hx 87 #[A a, A b, I 0, I kk, J (lnJ + (1 : Int64)), E2, I 0, I 0, I 1, I c1, U] (B 81 rfl) rfl rfl ?_
     refine gl X170 hx 89 (B 72 rfl) rfl rfl ?_
     refine gk X170 hx 90 1 (B 73 rfl) rfl rfl ?_
     refine gp X170 hx 91 (2 : Int32) (B 74 rfl) (by decide) rfl ?_
     refine gs X170 hx 93 _ (B 75 rfl) rfl rfl ?_
     refine gk X170 hx 94 1 (B 76 rfl) rfl rfl ?_
     refine gs X170 hx 96 #[A a, A b, I 0, I kk, J (lnJ + (1 : Int64)), E2, I 2, I 1, I 1, I c1, U] (B 77 rfl) rfl rfl ?_
     refine gi X170 hx 99 (2 : Int32) _ (B 62 rfl) rfl (by decide) rfl rfl ?_
     refine gg X170 hx 21 (B 63 rfl) rfl ?_
     exact t21_2_2z hC _ _ _ _ X170 e170 N170 (own_sC hc168 hc171 hL) (own_tB hc168) (own_lek hq1 rfl)
 ·
  obtain rfl : kk = 1 := own_eqk hi hq1
  refine gT XJ hx 42 (B 2 rfl) (by decide) rfl ?_
  refine gl XJ hx 44 (B 3 rfl) rfl rfl ?_
  refine gn XJ hx 45 (B 4 rfl) rfl rfl ?_
  refine gF XJ hx 48 (B 5 rfl) (by decide) rfl ?_
  refine gg XJ hx 102 (B 6 rfl) rfl ?_
  refine gk XJ hx 103 0 (B 7 rfl) rfl rfl ?_
  refine gs XJ hx 105 _ (B 8 rfl) rfl rfl ?_
  refine gl XJ hx 107 (B 9 rfl) rfl rfl ?_
  refine gs XJ hx 109 #[A a, A b, I 0, I 1, J lnJ, E2, I 0, I 0, I 1, I 0, I 0] (B 10 rfl) rfl rfl ?_
  refine gl XJ hx 111 (B 11 rfl) rfl rfl ?_
  refine gn XJ hx 112 (B 12 rfl) rfl rfl ?_
  refine gF XJ hx 115 (B 13 rfl) (by decide) rfl ?_
  refine ga XJ hx 116 (B 39 rfl) rfl rfl rfl ?_
  refine gl XJ hx 118 (B 40 rfl) rfl rfl ?_
  refine gc XJ hx 119 hZ eJ V_b c0 rfl rfl (B 41 rfl) rfl ?_
  refine gS XJ hx 122 hZ hown (W 137 rfl) (W 138 rfl) (W 139 rfl) (W 140 rfl) (by decide) [(.int c0)] [] (rm26 hw c0 h0 n0 Z0 hc0) eJ 0 rfl (M rfl) (lenOf pd0 rfl) (B 42 rfl) rfl rfl rfl (fun v T172 L X172 Y => ?_)
  obtain ⟨rfl, N172q, e172⟩ := Y
  have N172 := Fr.app NJ N172q
  refine gt X172 hx 142 (B 43 rfl) (by decide) rfl ?_
  refine gi X172 hx 145 (1 : Int32) _ (B 44 rfl) rfl (by decide) rfl rfl ?_
  refine gg X172 hx 109 (B 45 rfl) rfl ?_
  refine gl X172 hx 111 (B 11 rfl) rfl rfl ?_
  refine gn X172 hx 112 (B 12 rfl) rfl rfl ?_
  refine gT X172 hx 148 (B 13 rfl) (by decide) rfl ?_
  refine ga X172 hx 149 (B 14 rfl) rfl rfl rfl ?_
  refine g_lload X172 hx 151 (B 15 rfl) rfl rfl ?_
  refine gP X172 hx 154 hZ hown (host := "") (Or.inl (W 48 rfl)) Via.refl e172 F_ln E_a (Or.inl (W 49 rfl)) w42 (ty := .long) (by decide) rfl rfl (B 16 rfl) rfl (fun T173 h173 X173 e173 W173 => ?_)
  have E_a := E_a.wr W173
  have F_ln := F_ln.same W173
  have F_co := F_co.other W173 (Or.inr (sn0 hw))
  have F_la := F_la.other W173 (Or.inr (sn1 hw))
  have V_b := V_b.other W173 (Ne.symm ne_a_b)
  have N173 := Fr.snoc X173 N172 g_a
  have Z173 : n0 ≤ h173.size := by rw [W173.size]; exact Z0
  have K173 := K0.wr W173 (Or.inl (List.mem_of_getElem? (i := 0) rfl))
  refine ga X173 hx 155 (B 17 rfl) rfl rfl rfl ?_
  refine gl X173 hx 157 (B 18 rfl) rfl rfl ?_
  refine gt X173 hx 164 (B 19 rfl) (by decide) rfl ?_
  refine ga X173 hx 165 (B 46 rfl) rfl rfl rfl ?_
  refine gG X173 hx 168 hZ hown (host := "") (Or.inl (W 50 rfl)) Via.refl e173 F_co (B 47 rfl) rfl (fun T174 X174 e174 => ?_)
  refine gn X174 hx 169 (B 22 rfl) rfl rfl ?_
  refine gl X174 hx 171 (B 23 rfl) rfl rfl ?_
  refine gm X174 hx 172 (1 : Int32) (B 24 rfl) (by decide) rfl ?_
  refine gL X174 hx 173 (1 : Int64) (B 25 rfl) (by decide) rfl ?_
  refine g_ladd X174 hx 174 (2 : Int64) (B 26 rfl) (by decide) rfl ?_
  refine gl X174 hx 176 (B 27 rfl) rfl rfl ?_
  refine gL X174 hx 177 (0 : Int64) (B 28 rfl) (by decide) rfl ?_
  refine g_lsub X174 hx 178 (2 : Int64) (B 29 rfl) (by decide) rfl ?_
  refine gP X174 hx 181 hZ hown (host := "") (Or.inl (W 50 rfl)) Via.refl e174 F_co E_a (Or.inl (W 51 rfl)) w42 (ty := .long) (by decide) rfl rfl (B 30 rfl) rfl (fun T175 h175 X175 e175 W175 => ?_)
  have E_a := E_a.wr W175
  have F_ln := F_ln.other W175 (Or.inr (sn2 hw))
  have F_co := F_co.same W175
  have F_la := F_la.other W175 (Or.inr (sn3 hw))
  have V_b := V_b.other W175 (Ne.symm ne_a_b)
  have N175 := Fr.snoc X175 N173 g_a
  have Z175 : n0 ≤ h175.size := by rw [W175.size]; exact Z173
  have K175 := K173.wr W175 (Or.inl (List.mem_of_getElem? (i := 0) rfl))
  refine ga X175 hx 182 (B 31 rfl) rfl rfl rfl ?_
  refine ga X175 hx 183 (B 32 rfl) rfl rfl rfl ?_
  refine gn X175 hx 184 (B 33 rfl) rfl rfl ?_
  refine gk X175 hx 185 1 (B 34 rfl) rfl rfl ?_
  refine gm X175 hx 186 (0 : Int32) (B 35 rfl) (by decide) rfl ?_
  refine gc X175 hx 187 hZ e175 V_b c0 rfl rfl (B 36 rfl) rfl ?_
  refine gP X175 hx 190 hZ hown (host := "") (Or.inl (W 142 rfl)) Via.refl e175 F_la E_a (Or.inl (W 143 rfl)) w42 (ty := .char) (by decide) (own_nrw nc0) (own_fit nc0) (B 37 rfl) rfl (fun T176 h176 X176 e176 W176 => ?_)
  have E_a := E_a.wr W176
  have F_ln := F_ln.other W176 (Or.inr (sn4 hw))
  have F_co := F_co.other W176 (Or.inr (sn5 hw))
  have F_la := F_la.same W176
  have V_b := V_b.other W176 (Ne.symm ne_a_b)
  have N176 := Fr.snoc X176 N175 g_a
  have Z176 : n0 ≤ h176.size := by rw [W176.size]; exact Z175
  have K176 := K175.wr W176 (Or.inl (List.mem_of_getElem? (i := 0) rfl))
  exact g_retV X176 hx hret hlk (B 38 rfl) (by decide) (by decide) (by rw [e176, show own_LL (1 : Int32) c0 c1 c2 c3 ln0 = lnJ from hL.symm, show own_SS (1 : Int32) c0 c1 c2 c3 = 0 from hS, show own_colf (1 : Int32) (0 : Int32) = (2 : Int64) from by decide]; exact ⟨rfl, N176, K176, E_a, F_ln, F_co, F_la⟩)
end OwnRp
set_option maxRecDepth 65536 in
set_option maxHeartbeats 40000000 in
theorem rp {l : Launch} {Z : State} {a0 : Array Value} (hw : ∀ d ∈ tables_1, d.before a0 Z = true) (a b : Addr) (kk : Int32) (ln0 : Int64) (c0 c1 c2 c3 : Int32) (kA : ClassId) (h0 : Heap) (n0 : Nat) (Z0 : n0 ≤ h0.size) (g_a : n0 ≤ a) (hk1 : 0 < kk) (hk4 : ¬ 4 < kk) (E_a : Exa Z h0 a "gleanwell/Position") (F_ln : Fld Z h0 a "gleanwell/Position" "line" "J" (.long ln0)) (F_co : Fld Z h0 a "gleanwell/Position" "column" "J" (.long 1)) (F_la : Fld Z h0 a "gleanwell/Position" "last" "C" (.int 0)) (V_b : Arv Z h0 b kA .char (5 : Int32) [(.int c0), (.int c1), (.int c2), (.int c3), (.int 0)] (.int 0)) (nc0 : nar .char c0 = c0) (nc1 : nar .char c1 = c1) (nc2 : nar .char c2 = c2) (nc3 : nar .char c3 = c3) (hc0 : ¬ 255 < c0) (hc1 : ¬ 255 < c1) (hc2 : ¬ 255 < c2) (hc3 : ¬ 255 < c3) (ne_a_b : a ≠ b) :
  OwnMet l Z (⟨"gleanwell/Position", "pass", "([CII)V"⟩ : MethodName) prog_33_method_9_code 11 none [] (⟨1, 0, 0, 24⟩ : Room) [(.ref a), (.ref b), (.int 0), (.int kk)] h0 (fun v h L => v = none ∧ Fr n0 L ∧ Keep h0 h [a] ∧ Exa Z h a "gleanwell/Position" ∧ Fld Z h a "gleanwell/Position" "line" "J" (.long (own_LL kk c0 c1 c2 c3 ln0)) ∧ Fld Z h a "gleanwell/Position" "column" "J" (.long (own_colf kk (own_SS kk c0 c1 c2 c3))) ∧ Fld Z h a "gleanwell/Position" "last" "C" (.int (own_CC kk c0 c1 c2 c3))) := by
 refine own_body (Ls := #[A a, A b, I 0, I kk, U, U, U, U, U, U, U]) (plainFor_of_name own_pn0) (fun m => by first | (simp [entryFrame, mkF, argsToLocals, Value.category]; done) | rfl) (fun p e s m below meth cO T0 hx hby hml hown hnm hret hlk hZ X0 e0 => ?_)
 have hown : s.vm.findClass "gleanwell/Position" = some m.cls := hown
 have B {q r} (i : Nat) := own_B (q := q) (r := r) hby D24_ok i
 have W {d : Jvm.Cond} (i : Nat) (h : tables_1[i]? = some d) : d.before a0 Z = true := own_w hw i h
 have w43 := W 43 rfl
 have M {n : Nat} (h : n = _) : n = cO.maxLocals := h.trans hml.symm
 have N0 := Fr.nil n0
 have K0 := Keep.refl h0 [a]
 have hC : rpC l Z a0 a b kk ln0 c0 c1 c2 c3 kA h0 n0 p s m meth cO := ⟨hw, Z0, g_a, hk1, hk4, E_a, F_ln, F_co, F_la, V_b, nc0, nc1, nc2, nc3, hc0, hc1, hc2, hc3, ne_a_b, hx, hby, hml, hown, hnm, hret, hlk, hZ⟩
 have hL : ln0 = ln0 := rfl
 have hS : (0 : Int32) = 0 := rfl
 refine gn X0 hx 1 (B 82 rfl) rfl rfl ?_
 refine gn X0 hx 2 (B 83 rfl) rfl rfl ?_
 have hk177 : (0 : Int32) < kk := hk1
 refine gT X0 hx 6 (B 84 rfl) (tlt hk177).1 rfl ?_
 refine ga X0 hx 7 (B 85 rfl) rfl rfl rfl ?_
 refine gG X0 hx 10 hZ hown (host := "") (Or.inl (W 48 rfl)) Via.refl e0 F_ln (B 86 rfl) rfl (fun T178 X178 e178 => ?_)
 refine g_lstore X178 hx 12 _ (B 87 rfl) rfl rfl ?_
 refine gn X178 hx 13 (B 88 rfl) rfl rfl ?_
 refine gs X178 hx 15 #[A a, A b, I 0, I kk, J ln0, E2, I 0, U, U, U, U] (B 89 rfl) rfl rfl ?_
 refine gk X178 hx 16 0 (B 90 rfl) rfl rfl ?_
 refine gs X178 hx 18 _ (B 91 rfl) rfl rfl ?_
 refine gn X178 hx 19 (B 92 rfl) rfl rfl ?_
 refine gs X178 hx 21 #[A a, A b, I 0, I kk, J ln0, E2, I 0, I 0, I 0, U, U] (B 93 rfl) rfl rfl ?_
 refine gl X178 hx 23 (B 0 rfl) rfl rfl ?_
 refine gn X178 hx 24 (B 1 rfl) rfl rfl ?_
 refine gF X178 hx 27 (B 2 rfl) (tlt hk1).2.1 rfl ?_
 refine ga X178 hx 28 (B 48 rfl) rfl rfl rfl ?_
 refine gl X178 hx 30 (B 49 rfl) rfl rfl ?_
 refine gc X178 hx 31 hZ e178 V_b c0 rfl rfl (B 50 rfl) rfl ?_
 refine gb X178 hx 33 13 (B 51 rfl) rfl rfl ?_
 by_cases hc179 : (13 : Int32) < c0
 ·
  refine gF X178 hx 36 (B 52 rfl) (tlt hc179).2.2.2 rfl ?_
  refine gi X178 hx 39 (1 : Int32) _ (B 53 rfl) rfl (by decide) rfl rfl ?_
  refine gg X178 hx 21 (B 54 rfl) rfl ?_
  exact t21_1_0u hC _ _ _ X178 e178 N0 (own_sA (own_term_gt hc179) hL) (own_tA (own_term_gt hc179) hS) (own_lek hk1 rfl)
 ·
  refine gT X178 hx 42 (B 52 rfl) (flt hc179).2.2.2 rfl ?_
  refine gl X178 hx 44 (B 3 rfl) rfl rfl ?_
  refine gn X178 hx 45 (B 4 rfl) rfl rfl ?_
  have hk180 : ¬ ((0 : Int32) = kk) := own_neq hk1
  refine gT X178 hx 51 (B 5 rfl) (feq hk180).2 rfl ?_
  refine ga X178 hx 52 (B 55 rfl) rfl rfl rfl ?_
  refine gl X178 hx 54 (B 56 rfl) rfl rfl ?_
  refine gc X178 hx 55 hZ e178 V_b c0 rfl rfl (B 57 rfl) rfl ?_
  refine gs X178 hx 57 _ (B 58 rfl) rfl rfl ?_
  refine gl X178 hx 59 (B 59 rfl) rfl rfl ?_
  refine gS X178 hx 62 hZ hown (W 134 rfl) (W 135 rfl) w43 (W 136 rfl) (by decide) [(.int c0)] [] (rm25 hw c0 h0 n0 Z0) e178 0 rfl (M rfl) (lenOf pd0 rfl) (B 60 rfl) rfl rfl rfl (fun v T181 L X181 Y => ?_)
  obtain ⟨rfl, N181q, e181⟩ := Y
  have N181 := Fr.app N0 N181q
  by_cases hc182 : (own_term c0) = 0
  ·
   refine gt X181 hx 96 (B 61 rfl) ((if0 _ _).trans (teq hc182).1) rfl ?_
   refine gi X181 hx 99 (1 : Int32) #[A a, A b, I 0, I kk, J ln0, E2, I 0, I 0, I 1, I c0, U] (B 62 rfl) rfl (by decide) rfl rfl ?_
   refine gg X181 hx 21 (B 63 rfl) rfl ?_
   exact t21_1_0z hC _ _ _ _ X181 e181 N181 (own_sA hc182 hL) (own_tA hc182 hS) (own_lek hk1 rfl)
  ·
   refine gf X181 hx 65 (B 61 rfl) ((if0 _ _).trans (feq hc182).1) rfl ?_
   refine gl X181 hx 67 (B 64 rfl) rfl rfl ?_
   refine ga X181 hx 68 (B 65 rfl) rfl rfl rfl ?_
   refine ga X181 hx 69 (B 66 rfl) rfl rfl rfl ?_
   refine gn X181 hx 70 (B 67 rfl) rfl rfl ?_
   refine gl X181 hx 72 (B 68 rfl) rfl rfl ?_
   refine g_callP X181 hx 75 hZ hown (W 161 rfl) (W 162 rfl) (W 163 rfl) (W 132 rfl) rfl w43 (W 164 rfl) (by decide) a E_a [(.ref b), (.int 0), (.int 0)] [(.int c0)] (rb_0 hw a b (0 : Int32) c0 c1 c2 c3 kA h0 n0 Z0 F_la V_b (by decide)) e181 1 (by decide) (by decide) (by decide) (by decide) (by rw [hml]; rfl) (lenOf pd1 rfl) (B 69 rfl) rfl (Nat.le_of_eq rfl) rfl (fun v T183 L X183 Y => ?_)
   obtain ⟨rfl, N183q, e183⟩ := Y
   have N183 := Fr.app N181 N183q
   refine gS X183 hx 78 hZ hown (W 165 rfl) (W 166 rfl) w43 (W 167 rfl) (by decide) [(.int c0), (.int 0)] [] (rm31 hw c0 (0 : Int32) h0 n0 Z0) e183 0 rfl (M rfl) (lenOf pd2 rfl) (B 70 rfl) rfl rfl rfl (fun v T184 L X184 Y => ?_)
   obtain ⟨rfl, N184q, e184⟩ := Y
   have N184 := Fr.app N183 N184q
   by_cases hc185 : (own_ends c0 (0 : Int32)) = 0
   ·
    refine gt X184 hx 87 (B 71 rfl) ((if0 _ _).trans (teq hc185).1) rfl ?_
    refine gl X184 hx 89 (B 72 rfl) rfl rfl ?_
    refine gk X184 hx 90 1 (B 73 rfl) rfl rfl ?_
    refine gp X184 hx 91 (1 : Int32) (B 74 rfl) (by decide) rfl ?_
    refine gs X184 hx 93 #[A a, A b, I 0, I kk, J ln0, E2, I 1, I 0, I 0, I c0, U] (B 75 rfl) rfl rfl ?_
    refine gk X184 hx 94 1 (B 76 rfl) rfl rfl ?_
    refine gs X184 hx 96 _ (B 77 rfl) rfl rfl ?_
    refine gi X184 hx 99 (1 : Int32) #[A a, A b, I 0, I kk, J ln0, E2, I 1, I 1, I 1, I c0, U] (B 62 rfl) rfl (by decide) rfl rfl ?_
    refine gg X184 hx 21 (B 63 rfl) rfl ?_
    exact t21_1_1z hC _ _ _ _ X184 e184 N184 (own_sB hc182 hc185 hL) (own_tB hc182) (own_lek hk1 rfl)
   ·
    refine gf X184 hx 81 (B 71 rfl) ((if0 _ _).trans (feq hc185).1) rfl ?_
    refine g_lload X184 hx 83 (B 78 rfl) rfl rfl ?_
    refine g_lconst X184 hx 84 (1 : Int64) (B 79 rfl) (by decide) rfl ?_
    refine g_ladd X184 hx 85 (ln0 + (1 : Int64)) (B 80 rfl) rfl rfl ?_
    refine g_lstore X184 hx 87 #[A a, A b, I 0, I kk, J (ln0 + (1 : Int64)), E2, I 0, I 0, I 0, I c0, U] (B 81 rfl) rfl rfl ?_
    refine gl X184 hx 89 (B 72 rfl) rfl rfl ?_
    refine gk X184 hx 90 1 (B 73 rfl) rfl rfl ?_
    refine gp X184 hx 91 (1 : Int32) (B 74 rfl) (by decide) rfl ?_
    refine gs X184 hx 93 _ (B 75 rfl) rfl rfl ?_
    refine gk X184 hx 94 1 (B 76 rfl) rfl rfl ?_
    refine gs X184 hx 96 #[A a, A b, I 0, I kk, J (ln0 + (1 : Int64)), E2, I 1, I 1, I 0, I c0, U] (B 77 rfl) rfl rfl ?_
    refine gi X184 hx 99 (1 : Int32) _ (B 62 rfl) rfl (by decide) rfl rfl ?_
    refine gg X184 hx 21 (B 63 rfl) rfl ?_
    exact t21_1_1z hC _ _ _ _ X184 e184 N184 (own_sC hc182 hc185 hL) (own_tB hc182) (own_lek hk1 rfl)
theorem rp_1 {l : Launch} {Z : State} {a0 : Array Value} (hw : ∀ d ∈ tables_1, d.before a0 Z = true) (a b : Addr) (ln0 : Int64) (c0 c1 c2 c3 : Int32) (kA : ClassId) (h0 : Heap) (n0 : Nat) (Z0 : n0 ≤ h0.size) (g_a : n0 ≤ a) (E_a : Exa Z h0 a "gleanwell/Position") (F_ln : Fld Z h0 a "gleanwell/Position" "line" "J" (.long ln0)) (F_co : Fld Z h0 a "gleanwell/Position" "column" "J" (.long 1)) (F_la : Fld Z h0 a "gleanwell/Position" "last" "C" (.int (0 : Int32))) (V_b : Arv Z h0 b kA .char (5 : Int32) [(.int c0), (.int c1), (.int c2), (.int c3), (.int (0 : Int32))] (.int (0 : Int32))) (nc0 : nar .char c0 = c0) (nc1 : nar .char c1 = c1) (nc2 : nar .char c2 = c2) (nc3 : nar .char c3 = c3) (hc0 : ¬ 255 < c0) (hc1 : ¬ 255 < c1) (hc2 : ¬ 255 < c2) (hc3 : ¬ 255 < c3) (ne_a_b : a ≠ b) :
    OwnMet l Z (⟨"gleanwell/Position", "pass", "([CII)V"⟩ : MethodName) prog_33_method_9_code 11 none [] (⟨1, 0, 0, 24⟩ : Room) [(.ref a), (.ref b), (.int (0 : Int32)), (.int (1 : Int32))] h0 (fun v h L => v = none ∧ Fr n0 L ∧ Keep h0 h [a] ∧ Exa Z h a "gleanwell/Position" ∧ Fld Z h a "gleanwell/Position" "line" "J" (.long (own_step c0 (0 : Int32) ln0)) ∧ Fld Z h a "gleanwell/Position" "column" "J" (.long (own_colf (1 : Int32) (own_st c0 (1 : Int32) (0 : Int32)))) ∧ Fld Z h a "gleanwell/Position" "last" "C" (.int c0)) :=
  rp hw a b (1 : Int32) ln0 c0 c1 c2 c3 kA h0 n0 Z0 g_a (by decide) (by decide) E_a F_ln F_co F_la V_b nc0 nc1 nc2 nc3 hc0 hc1 hc2 hc3 ne_a_b
theorem rp_2 {l : Launch} {Z : State} {a0 : Array Value} (hw : ∀ d ∈ tables_1, d.before a0 Z = true) (a b : Addr) (ln0 : Int64) (c0 c1 c2 c3 : Int32) (kA : ClassId) (h0 : Heap) (n0 : Nat) (Z0 : n0 ≤ h0.size) (g_a : n0 ≤ a) (E_a : Exa Z h0 a "gleanwell/Position") (F_ln : Fld Z h0 a "gleanwell/Position" "line" "J" (.long ln0)) (F_co : Fld Z h0 a "gleanwell/Position" "column" "J" (.long 1)) (F_la : Fld Z h0 a "gleanwell/Position" "last" "C" (.int (0 : Int32))) (V_b : Arv Z h0 b kA .char (5 : Int32) [(.int c0), (.int c1), (.int c2), (.int c3), (.int (0 : Int32))] (.int (0 : Int32))) (nc0 : nar .char c0 = c0) (nc1 : nar .char c1 = c1) (nc2 : nar .char c2 = c2) (nc3 : nar .char c3 = c3) (hc0 : ¬ 255 < c0) (hc1 : ¬ 255 < c1) (hc2 : ¬ 255 < c2) (hc3 : ¬ 255 < c3) (ne_a_b : a ≠ b) :
    OwnMet l Z (⟨"gleanwell/Position", "pass", "([CII)V"⟩ : MethodName) prog_33_method_9_code 11 none [] (⟨1, 0, 0, 24⟩ : Room) [(.ref a), (.ref b), (.int (0 : Int32)), (.int (2 : Int32))] h0 (fun v h L => v = none ∧ Fr n0 L ∧ Keep h0 h [a] ∧ Exa Z h a "gleanwell/Position" ∧ Fld Z h a "gleanwell/Position" "line" "J" (.long (own_step c1 c0 (own_step c0 (0 : Int32) ln0))) ∧ Fld Z h a "gleanwell/Position" "column" "J" (.long (own_colf (2 : Int32) (own_st c1 (2 : Int32) (own_st c0 (1 : Int32) (0 : Int32))))) ∧ Fld Z h a "gleanwell/Position" "last" "C" (.int c1)) :=
  rp hw a b (2 : Int32) ln0 c0 c1 c2 c3 kA h0 n0 Z0 g_a (by decide) (by decide) E_a F_ln F_co F_la V_b nc0 nc1 nc2 nc3 hc0 hc1 hc2 hc3 ne_a_b
theorem rp_3 {l : Launch} {Z : State} {a0 : Array Value} (hw : ∀ d ∈ tables_1, d.before a0 Z = true) (a b : Addr) (ln0 : Int64) (c0 c1 c2 c3 : Int32) (kA : ClassId) (h0 : Heap) (n0 : Nat) (Z0 : n0 ≤ h0.size) (g_a : n0 ≤ a) (E_a : Exa Z h0 a "gleanwell/Position") (F_ln : Fld Z h0 a "gleanwell/Position" "line" "J" (.long ln0)) (F_co : Fld Z h0 a "gleanwell/Position" "column" "J" (.long 1)) (F_la : Fld Z h0 a "gleanwell/Position" "last" "C" (.int (0 : Int32))) (V_b : Arv Z h0 b kA .char (5 : Int32) [(.int c0), (.int c1), (.int c2), (.int c3), (.int (0 : Int32))] (.int (0 : Int32))) (nc0 : nar .char c0 = c0) (nc1 : nar .char c1 = c1) (nc2 : nar .char c2 = c2) (nc3 : nar .char c3 = c3) (hc0 : ¬ 255 < c0) (hc1 : ¬ 255 < c1) (hc2 : ¬ 255 < c2) (hc3 : ¬ 255 < c3) (ne_a_b : a ≠ b) :
    OwnMet l Z (⟨"gleanwell/Position", "pass", "([CII)V"⟩ : MethodName) prog_33_method_9_code 11 none [] (⟨1, 0, 0, 24⟩ : Room) [(.ref a), (.ref b), (.int (0 : Int32)), (.int (3 : Int32))] h0 (fun v h L => v = none ∧ Fr n0 L ∧ Keep h0 h [a] ∧ Exa Z h a "gleanwell/Position" ∧ Fld Z h a "gleanwell/Position" "line" "J" (.long (own_step c2 c1 (own_step c1 c0 (own_step c0 (0 : Int32) ln0)))) ∧ Fld Z h a "gleanwell/Position" "column" "J" (.long (own_colf (3 : Int32) (own_st c2 (3 : Int32) (own_st c1 (2 : Int32) (own_st c0 (1 : Int32) (0 : Int32)))))) ∧ Fld Z h a "gleanwell/Position" "last" "C" (.int c2)) :=
  rp hw a b (3 : Int32) ln0 c0 c1 c2 c3 kA h0 n0 Z0 g_a (by decide) (by decide) E_a F_ln F_co F_la V_b nc0 nc1 nc2 nc3 hc0 hc1 hc2 hc3 ne_a_b
theorem rp_4 {l : Launch} {Z : State} {a0 : Array Value} (hw : ∀ d ∈ tables_1, d.before a0 Z = true) (a b : Addr) (ln0 : Int64) (c0 c1 c2 c3 : Int32) (kA : ClassId) (h0 : Heap) (n0 : Nat) (Z0 : n0 ≤ h0.size) (g_a : n0 ≤ a) (E_a : Exa Z h0 a "gleanwell/Position") (F_ln : Fld Z h0 a "gleanwell/Position" "line" "J" (.long ln0)) (F_co : Fld Z h0 a "gleanwell/Position" "column" "J" (.long 1)) (F_la : Fld Z h0 a "gleanwell/Position" "last" "C" (.int (0 : Int32))) (V_b : Arv Z h0 b kA .char (5 : Int32) [(.int c0), (.int c1), (.int c2), (.int c3), (.int (0 : Int32))] (.int (0 : Int32))) (nc0 : nar .char c0 = c0) (nc1 : nar .char c1 = c1) (nc2 : nar .char c2 = c2) (nc3 : nar .char c3 = c3) (hc0 : ¬ 255 < c0) (hc1 : ¬ 255 < c1) (hc2 : ¬ 255 < c2) (hc3 : ¬ 255 < c3) (ne_a_b : a ≠ b) :
    OwnMet l Z (⟨"gleanwell/Position", "pass", "([CII)V"⟩ : MethodName) prog_33_method_9_code 11 none [] (⟨1, 0, 0, 24⟩ : Room) [(.ref a), (.ref b), (.int (0 : Int32)), (.int (4 : Int32))] h0 (fun v h L => v = none ∧ Fr n0 L ∧ Keep h0 h [a] ∧ Exa Z h a "gleanwell/Position" ∧ Fld Z h a "gleanwell/Position" "line" "J" (.long (own_step c3 c2 (own_step c2 c1 (own_step c1 c0 (own_step c0 (0 : Int32) ln0))))) ∧ Fld Z h a "gleanwell/Position" "column" "J" (.long (own_colf (4 : Int32) (own_st c3 (4 : Int32) (own_st c2 (3 : Int32) (own_st c1 (2 : Int32) (own_st c0 (1 : Int32) (0 : Int32))))))) ∧ Fld Z h a "gleanwell/Position" "last" "C" (.int c3)) :=
  rp hw a b (4 : Int32) ln0 c0 c1 c2 c3 kA h0 n0 Z0 g_a (by decide) (by decide) E_a F_ln F_co F_la V_b nc0 nc1 nc2 nc3 hc0 hc1 hc2 hc3 ne_a_b
theorem own_pn3 : plainName "java/lang/StringUTF16" = true := by first | (simp [plainName, overriddenIn]; done) | decide +kernel
def D6 : List (Nat × Instr × Nat) := [(0, .iconst 0, 1), (1, .istore 5, 2), (3, .iload 5, 2), (5, .iload 4, 2), (7, .if_icmp .ge 37, 3), (10, .aload_n 0, 1), (11, .iload_n 1, 1), (12, .caload, 1), (13, .istore 6, 2), (15, .iload 6, 2), (17, .sipush 255, 3), (20, .if_icmp .le 6, 3), (26, .aload_n 2, 1), (27, .iload_n 3, 1), (28, .iload 6, 2), (30, .i2b, 1), (31, .bastore, 1), (32, .iinc 1 1, 3), (35, .iinc 3 1, 3), (38, .iinc 5 1, 3), (41, .goto (-38), 3), (44, .iload 4, 2), (46, .ireturn, 1)]
theorem D6_ok : ∀ x ∈ D6, decode jdk_52_method_21_code x.1 = .ok x.2 := by decide +kernel
set_option maxRecDepth 65536 in
set_option maxHeartbeats 40000000 in
theorem rs_inner {l : Launch} {Z : State} {a0 : Array Value} (hw : ∀ d ∈ tables_1, d.before a0 Z = true) (b t : Addr) (c0 c1 c2 c3 : Int32) (kB kT : ClassId) (h0 : Heap) (n0 : Nat) (Z0 : n0 ≤ h0.size) (g_t : n0 ≤ t) (V_b : Arv Z h0 b kB .char (4 : Int32) [(.int c0), (.int c1), (.int c2), (.int c3)] (.int 0)) (V_t : Arv Z h0 t kT .byte (4 : Int32) [(.int 0), (.int 0), (.int 0), (.int 0)] (.int 0)) (hc0 : ¬ 255 < c0) (hc1 : ¬ 255 < c1) (hc2 : ¬ 255 < c2) (hc3 : ¬ 255 < c3) (ne_t_b : t ≠ b) :
  OwnMet l Z (⟨"java/lang/StringUTF16", "compress", "([CI[BII)I"⟩ : MethodName) jdk_52_method_21_code 7 (some .int) [] (⟨0, 0, 0, 0⟩ : Room) [(.ref b), (.int 0), (.ref t), (.int 0), (.int 4)] h0 (fun v h L => v = some (.int 4) ∧ Fr n0 L ∧ Keep h0 h [t] ∧ Arv Z h t kT .byte (4 : Int32) [(.int (nar .byte (c0.toInt8.toInt32))), (.int (nar .byte (c1.toInt8.toInt32))), (.int (nar .byte (c2.toInt8.toInt32))), (.int (nar .byte (c3.toInt8.toInt32)))] (.int 0)) := by
 refine own_body (Ls := #[A b, I 0, A t, I 0, I 4, U, U]) (plainFor_of_name own_pn3) (fun m => by first | (simp [entryFrame, mkF, argsToLocals, Value.category]; done) | rfl) (fun p e s m below meth cO T0 hx hby hml hown hnm hret hlk hZ X0 e0 => ?_)
 have hown : s.vm.findClass "java/lang/StringUTF16" = some m.cls := hown
 have B {q r} (i : Nat) := own_B (q := q) (r := r) hby D6_ok i
 have W {d : Jvm.Cond} (i : Nat) (h : tables_1[i]? = some d) : d.before a0 Z = true := own_w hw i h
 have M {n : Nat} (h : n = _) : n = cO.maxLocals := h.trans hml.symm
 have N0 := Fr.nil n0
 have K0 := Keep.refl h0 [t]
 refine gk X0 hx 1 0 (B 0 rfl) rfl rfl ?_
 refine gs X0 hx 3 _ (B 1 rfl) rfl rfl ?_
 refine gl X0 hx 5 (B 2 rfl) rfl rfl ?_
 refine gl X0 hx 7 (B 3 rfl) rfl rfl ?_
 refine gF X0 hx 10 (B 4 rfl) (by decide) rfl ?_
 refine ga X0 hx 11 (B 5 rfl) rfl rfl rfl ?_
 refine gn X0 hx 12 (B 6 rfl) rfl rfl ?_
 refine gc X0 hx 13 hZ e0 V_b c0 rfl rfl (B 7 rfl) rfl ?_
 refine gs X0 hx 15 #[A b, I 0, A t, I 0, I 4, I 0, I c0] (B 8 rfl) rfl rfl ?_
 refine gl X0 hx 17 (B 9 rfl) rfl rfl ?_
 refine g_sipush X0 hx 20 255 (B 10 rfl) rfl rfl ?_
 have hk1 : ¬ ((255 : Int32) < c0) := hc0
 refine gT X0 hx 26 (B 11 rfl) (flt hk1).2.2.2 rfl ?_
 refine ga X0 hx 27 (B 12 rfl) rfl rfl rfl ?_
 refine gn X0 hx 28 (B 13 rfl) rfl rfl ?_
 refine gl X0 hx 30 (B 14 rfl) rfl rfl ?_
 refine g_i2b X0 hx 31 (c0.toInt8.toInt32) (B 15 rfl) rfl rfl ?_
 refine g_bastore X0 hx 32 hZ e0 V_t 0 (by decide) ⟨by decide, by decide⟩ (Nat.le_of_ble_eq_true rfl) (B 16 rfl) rfl (fun T2 h2 X2 e2 W2 V2 => ?_)
 have V_b := V_b.other W2 (Ne.symm ne_t_b)
 have V_t : Arv Z h2 t kT .byte (4 : Int32) [(.int (nar .byte (c0.toInt8.toInt32))), (.int 0), (.int 0), (.int 0)] (.int 0) := V2
 have N2 := Fr.snoc X2 N0 g_t
 have Z2 : n0 ≤ h2.size := by rw [W2.size]; exact Z0
 have K2 := K0.wr W2 (Or.inl (List.mem_of_getElem? (i := 0) rfl))
 refine gi X2 hx 35 (1 : Int32) _ (B 17 rfl) rfl (by decide) rfl rfl ?_
 refine gi X2 hx 38 (1 : Int32) #[A b, I 1, A t, I 1, I 4, I 0, I c0] (B 18 rfl) rfl (by decide) rfl rfl ?_
 refine gi X2 hx 41 (1 : Int32) _ (B 19 rfl) rfl (by decide) rfl rfl ?_
 refine gg X2 hx 3 (B 20 rfl) rfl ?_
 refine gl X2 hx 5 (B 2 rfl) rfl rfl ?_
 refine gl X2 hx 7 (B 3 rfl) rfl rfl ?_
 refine gF X2 hx 10 (B 4 rfl) (by decide) rfl ?_
 refine ga X2 hx 11 (B 5 rfl) rfl rfl rfl ?_
 refine gn X2 hx 12 (B 6 rfl) rfl rfl ?_
 refine gc X2 hx 13 hZ e2 V_b c1 rfl rfl (B 7 rfl) rfl ?_
 refine gs X2 hx 15 #[A b, I 1, A t, I 1, I 4, I 1, I c1] (B 8 rfl) rfl rfl ?_
 refine gl X2 hx 17 (B 9 rfl) rfl rfl ?_
 refine g_sipush X2 hx 20 255 (B 10 rfl) rfl rfl ?_
 have hk3 : ¬ ((255 : Int32) < c1) := hc1
 refine gT X2 hx 26 (B 11 rfl) (flt hk3).2.2.2 rfl ?_
 refine ga X2 hx 27 (B 12 rfl) rfl rfl rfl ?_
 refine gn X2 hx 28 (B 13 rfl) rfl rfl ?_
 refine gl X2 hx 30 (B 14 rfl) rfl rfl ?_
 refine g_i2b X2 hx 31 (c1.toInt8.toInt32) (B 15 rfl) rfl rfl ?_
 refine g_bastore X2 hx 32 hZ e2 V_t 1 (by decide) ⟨by decide, by decide⟩ (Nat.le_of_ble_eq_true rfl) (B 16 rfl) rfl (fun T4 h4 X4 e4 W4 V4 => ?_)
 have V_b := V_b.other W4 (Ne.symm ne_t_b)
 have V_t : Arv Z h4 t kT .byte (4 : Int32) [(.int (nar .byte (c0.toInt8.toInt32))), (.int (nar .byte (c1.toInt8.toInt32))), (.int 0), (.int 0)] (.int 0) := V4
 have N4 := Fr.snoc X4 N2 g_t
 have Z4 : n0 ≤ h4.size := by rw [W4.size]; exact Z2
 have K4 := K2.wr W4 (Or.inl (List.mem_of_getElem? (i := 0) rfl))
 refine gi X4 hx 35 (2 : Int32) _ (B 17 rfl) rfl (by decide) rfl rfl ?_
 refine gi X4 hx 38 (2 : Int32) #[A b, I 2, A t, I 2, I 4, I 1, I c1] (B 18 rfl) rfl (by decide) rfl rfl ?_
 refine gi X4 hx 41 (2 : Int32) _ (B 19 rfl) rfl (by decide) rfl rfl ?_
 refine gg X4 hx 3 (B 20 rfl) rfl ?_
 refine gl X4 hx 5 (B 2 rfl) rfl rfl ?_
 refine gl X4 hx 7 (B 3 rfl) rfl rfl ?_
 refine gF X4 hx 10 (B 4 rfl) (by decide) rfl ?_
 refine ga X4 hx 11 (B 5 rfl) rfl rfl rfl ?_
 refine gn X4 hx 12 (B 6 rfl) rfl rfl ?_
 refine gc X4 hx 13 hZ e4 V_b c2 rfl rfl (B 7 rfl) rfl ?_
 refine gs X4 hx 15 #[A b, I 2, A t, I 2, I 4, I 2, I c2] (B 8 rfl) rfl rfl ?_
 refine gl X4 hx 17 (B 9 rfl) rfl rfl ?_
 refine g_sipush X4 hx 20 255 (B 10 rfl) rfl rfl ?_
 have hk5 : ¬ ((255 : Int32) < c2) := hc2
 refine gT X4 hx 26 (B 11 rfl) (flt hk5).2.2.2 rfl ?_
 refine ga X4 hx 27 (B 12 rfl) rfl rfl rfl ?_
 refine gn X4 hx 28 (B 13 rfl) rfl rfl ?_
 refine gl X4 hx 30 (B 14 rfl) rfl rfl ?_
 refine g_i2b X4 hx 31 (c2.toInt8.toInt32) (B 15 rfl) rfl rfl ?_
 refine g_bastore X4 hx 32 hZ e4 V_t 2 (by decide) ⟨by decide, by decide⟩ (Nat.le_of_ble_eq_true rfl) (B 16 rfl) rfl (fun T6 h6 X6 e6 W6 V6 => ?_)
 have V_b := V_b.other W6 (Ne.symm ne_t_b)
 have V_t : Arv Z h6 t kT .byte (4 : Int32) [(.int (nar .byte (c0.toInt8.toInt32))), (.int (nar .byte (c1.toInt8.toInt32))), (.int (nar .byte (c2.toInt8.toInt32))), (.int 0)] (.int 0) := V6
 have N6 := Fr.snoc X6 N4 g_t
 have Z6 : n0 ≤ h6.size := by rw [W6.size]; exact Z4
 have K6 := K4.wr W6 (Or.inl (List.mem_of_getElem? (i := 0) rfl))
 refine gi X6 hx 35 (3 : Int32) _ (B 17 rfl) rfl (by decide) rfl rfl ?_
 refine gi X6 hx 38 (3 : Int32) #[A b, I 3, A t, I 3, I 4, I 2, I c2] (B 18 rfl) rfl (by decide) rfl rfl ?_
 refine gi X6 hx 41 (3 : Int32) _ (B 19 rfl) rfl (by decide) rfl rfl ?_
 refine gg X6 hx 3 (B 20 rfl) rfl ?_
 refine gl X6 hx 5 (B 2 rfl) rfl rfl ?_
 refine gl X6 hx 7 (B 3 rfl) rfl rfl ?_
 refine gF X6 hx 10 (B 4 rfl) (by decide) rfl ?_
 refine ga X6 hx 11 (B 5 rfl) rfl rfl rfl ?_
 refine gn X6 hx 12 (B 6 rfl) rfl rfl ?_
 refine gc X6 hx 13 hZ e6 V_b c3 rfl rfl (B 7 rfl) rfl ?_
 refine gs X6 hx 15 #[A b, I 3, A t, I 3, I 4, I 3, I c3] (B 8 rfl) rfl rfl ?_
 refine gl X6 hx 17 (B 9 rfl) rfl rfl ?_
 refine g_sipush X6 hx 20 255 (B 10 rfl) rfl rfl ?_
 have hk7 : ¬ ((255 : Int32) < c3) := hc3
 refine gT X6 hx 26 (B 11 rfl) (flt hk7).2.2.2 rfl ?_
 refine ga X6 hx 27 (B 12 rfl) rfl rfl rfl ?_
 refine gn X6 hx 28 (B 13 rfl) rfl rfl ?_
 refine gl X6 hx 30 (B 14 rfl) rfl rfl ?_
 refine g_i2b X6 hx 31 (c3.toInt8.toInt32) (B 15 rfl) rfl rfl ?_
 refine g_bastore X6 hx 32 hZ e6 V_t 3 (by decide) ⟨by decide, by decide⟩ (Nat.le_of_ble_eq_true rfl) (B 16 rfl) rfl (fun T8 h8 X8 e8 W8 V8 => ?_)
 have V_b := V_b.other W8 (Ne.symm ne_t_b)
 have V_t : Arv Z h8 t kT .byte (4 : Int32) [(.int (nar .byte (c0.toInt8.toInt32))), (.int (nar .byte (c1.toInt8.toInt32))), (.int (nar .byte (c2.toInt8.toInt32))), (.int (nar .byte (c3.toInt8.toInt32)))] (.int 0) := V8
 have N8 := Fr.snoc X8 N6 g_t
 have Z8 : n0 ≤ h8.size := by rw [W8.size]; exact Z6
 have K8 := K6.wr W8 (Or.inl (List.mem_of_getElem? (i := 0) rfl))
 refine gi X8 hx 35 (4 : Int32) _ (B 17 rfl) rfl (by decide) rfl rfl ?_
 refine gi X8 hx 38 (4 : Int32) #[A b, I 4, A t, I 4, I 4, I 3, I c3] (B 18 rfl) rfl (by decide) rfl rfl ?_
 refine gi X8 hx 41 (4 : Int32) _ (B 19 rfl) rfl (by decide) rfl rfl ?_
 refine gg X8 hx 3 (B 20 rfl) rfl ?_
 refine gl X8 hx 5 (B 2 rfl) rfl rfl ?_
 refine gl X8 hx 7 (B 3 rfl) rfl rfl ?_
 refine gT X8 hx 44 (B 4 rfl) (by decide) rfl ?_
 refine gl X8 hx 46 (B 21 rfl) rfl rfl ?_
 exact g_retI X8 hx hret hlk (B 22 rfl) (by decide) (by decide) (by rw [e8]; exact ⟨rfl, N8, K8, V_t⟩)
def D5 : List (Nat × Instr × Nat) := [(0, .iload_n 2, 1), (1, .newarray .byte, 2), (3, .astore_n 3, 1), (4, .aload_n 0, 1), (5, .iload_n 1, 1), (6, .aload_n 3, 1), (7, .iconst 0, 1), (8, .iload_n 2, 1), (9, .invokestatic 115, 3), (12, .istore 4, 2), (14, .iload 4, 2), (16, .iload_n 2, 1), (17, .if_icmp .eq 40, 3), (57, .aload_n 3, 1), (58, .areturn, 1)]
theorem D5_ok : ∀ x ∈ D5, decode jdk_52_method_16_code x.1 = .ok x.2 := by decide +kernel
theorem pd3 : parseMethodDescriptor "([CI[BII)I" = some ⟨[(.array .char), .int, (.array .byte), .int, .int], some .int⟩ := by decide +kernel
set_option maxRecDepth 65536 in
set_option maxHeartbeats 40000000 in
theorem rs_outer {l : Launch} {Z : State} {a0 : Array Value} (hw : ∀ d ∈ tables_1, d.before a0 Z = true) (b : Addr) (c0 c1 c2 c3 : Int32) (kB : ClassId) (h0 : Heap) (n0 : Nat) (Z0 : n0 ≤ h0.size) (V_b : Arv Z h0 b kB .char (4 : Int32) [(.int c0), (.int c1), (.int c2), (.int c3)] (.int 0)) (hc0 : ¬ 255 < c0) (hc1 : ¬ 255 < c1) (hc2 : ¬ 255 < c2) (hc3 : ¬ 255 < c3) :
  OwnMet l Z (⟨"java/lang/StringUTF16", "compress", "([CII)[B"⟩ : MethodName) jdk_52_method_16_code 6 (some (.array .byte)) [] (⟨1, 1, 4, 20⟩ : Room) [(.ref b), (.int 0), (.int 4)] h0 (fun v h L => ∃ (t : Addr) (kT : ClassId), v = some (.ref t) ∧ Fr n0 L ∧ Keep h0 h [] ∧ h0.size ≤ t ∧ Arv Z h t kT .byte (4 : Int32) [(.int (nar .byte (c0.toInt8.toInt32))), (.int (nar .byte (c1.toInt8.toInt32))), (.int (nar .byte (c2.toInt8.toInt32))), (.int (nar .byte (c3.toInt8.toInt32)))] (.int 0)) := by
 refine own_body (Ls := #[A b, I 0, I 4, U, U, U]) (plainFor_of_name own_pn3) (fun m => by first | (simp [entryFrame, mkF, argsToLocals, Value.category]; done) | rfl) (fun p e s m below meth cO T0 hx hby hml hown hnm hret hlk hZ X0 e0 => ?_)
 have hown : s.vm.findClass "java/lang/StringUTF16" = some m.cls := hown
 have B {q r} (i : Nat) := own_B (q := q) (r := r) hby D5_ok i
 have W {d : Jvm.Cond} (i : Nat) (h : tables_1[i]? = some d) : d.before a0 Z = true := own_w hw i h
 have M {n : Nat} (h : n = _) : n = cO.maxLocals := h.trans hml.symm
 have N0 := Fr.nil n0
 have K0 := Keep.refl h0 []
 refine gn X0 hx 1 (B 0 rfl) rfl rfl ?_
 refine g_newP X0 hx 3 hZ (W 26 rfl) e0 (B 1 rfl) (by decide) 4 (by decide) (by decide) (by decide) (by decide) rfl (fun T1 h1 b1 kl1 g1 X1 e1 E1 A1 => ?_)
 have ne_b_b1 : b ≠ b1 := Nat.ne_of_lt (Nat.lt_of_lt_of_le V_b.lt (Nat.le_of_eq g1.symm))
 have V_b := V_b.ext E1
 have G_b1 : n0 ≤ b1 := Nat.le_trans Z0 (Nat.le_of_eq g1.symm)
 have Z1 : n0 ≤ h1.size := Nat.le_trans Z0 E1.1
 have SZ_b1 : h0.size ≤ b1 := Nat.le_trans K0.1 (Nat.le_of_eq g1.symm)
 have K1 := K0.ext E1
 have V_b1 : Arv Z h1 b1 kl1 .byte (4 : Int32) [(.int 0), (.int 0), (.int 0), (.int 0)] (.int 0) := A1.pad (pad_rep [] (.int 0) 4)
 refine g_astoreN X1 hx 4 _ (B 2 rfl) rfl rfl rfl ?_
 refine ga X1 hx 5 (B 3 rfl) rfl rfl rfl ?_
 refine gn X1 hx 6 (B 4 rfl) rfl rfl ?_
 refine ga X1 hx 7 (B 5 rfl) rfl rfl rfl ?_
 refine gk X1 hx 8 0 (B 6 rfl) rfl rfl ?_
 refine gn X1 hx 9 (B 7 rfl) rfl rfl ?_
 refine gS X1 hx 12 hZ hown (W 27 rfl) (W 28 rfl) (W 24 rfl) (W 29 rfl) (by decide) [(.ref b), (.int 0), (.ref b1), (.int 0), (.int 4)] [] (rs_inner hw b b1 c0 c1 c2 c3 kB kl1 h1 n0 Z1 G_b1 V_b V_b1 hc0 hc1 hc2 hc3 (Ne.symm ne_b_b1)) e1 0 rfl (M rfl) (lenOf pd3 rfl) (B 8 rfl) rfl rfl rfl (fun v T2 L X2 Y => ?_)
 obtain ⟨rfl, N2q, K2, V_b1⟩ := Y
 have N2 := Fr.app N0 N2q
 have KK2 : Keep h0 T2.heap [] := K1.trans K2 (allS (Or.inr SZ_b1) all0)
 refine gs X2 hx 14 #[A b, I 0, I 4, A b1, I 4, U] (B 9 rfl) rfl rfl ?_
 refine gl X2 hx 16 (B 10 rfl) rfl rfl ?_
 refine gn X2 hx 17 (B 11 rfl) rfl rfl ?_
 refine gT X2 hx 57 (B 12 rfl) (by decide) rfl ?_
 refine ga X2 hx 58 (B 13 rfl) rfl rfl rfl ?_
 exact g_retA X2 hx hret hlk rfl rfl rfl (B 14 rfl) (by decide) (by decide) ⟨b1, kl1, rfl, N2, KK2, SZ_b1, V_b1⟩
def D7 : List (Nat × Instr × Nat) := [(0, .iload_n 1, 1), (1, .aload_n 0, 1), (2, .arraylength, 1), (3, .isub, 1), (4, .bipush 31, 2), (6, .iushr, 1), (7, .i2b, 1), (8, .ireturn, 1)]
theorem D7_ok : ∀ x ∈ D7, decode jdk_52_method_15_code x.1 = .ok x.2 := by decide +kernel
set_option maxRecDepth 65536 in
set_option maxHeartbeats 40000000 in
theorem rs_coder {l : Launch} {Z : State} {a0 : Array Value} (hw : ∀ d ∈ tables_1, d.before a0 Z = true) (t : Addr) (kT : ClassId) (vs : List Value) (h0 : Heap) (n0 : Nat) (Z0 : n0 ≤ h0.size) (V_t : Arv Z h0 t kT .byte (4 : Int32) vs (.int 0)) :
  OwnMet l Z (⟨"java/lang/StringUTF16", "coderFromArrayLen", "([BI)B"⟩ : MethodName) jdk_52_method_15_code 2 (some .byte) [] (⟨0, 0, 0, 0⟩ : Room) [(.ref t), (.int 4)] h0 (fun v h L => v = some (.int 0) ∧ Fr n0 L ∧ h = h0) := by
 refine own_body (Ls := #[A t, I 4]) (plainFor_of_name own_pn3) (fun m => by first | (simp [entryFrame, mkF, argsToLocals, Value.category]; done) | rfl) (fun p e s m below meth cO T0 hx hby hml hown hnm hret hlk hZ X0 e0 => ?_)
 have hown : s.vm.findClass "java/lang/StringUTF16" = some m.cls := hown
 have B {q r} (i : Nat) := own_B (q := q) (r := r) hby D7_ok i
 have W {d : Jvm.Cond} (i : Nat) (h : tables_1[i]? = some d) : d.before a0 Z = true := own_w hw i h
 have M {n : Nat} (h : n = _) : n = cO.maxLocals := h.trans hml.symm
 have N0 := Fr.nil n0
 refine gn X0 hx 1 (B 0 rfl) rfl rfl ?_
 refine ga X0 hx 2 (B 1 rfl) rfl rfl rfl ?_
 refine g_arraylength X0 hx 3 hZ e0 V_t (B 2 rfl) rfl ?_
 refine gm X0 hx 4 (0 : Int32) (B 3 rfl) (by decide) rfl ?_
 refine gb X0 hx 6 31 (B 4 rfl) rfl rfl ?_
 refine g_iushr X0 hx 7 (0 : Int32) (B 5 rfl) (by decide) rfl ?_
 refine g_i2b X0 hx 8 (0 : Int32) (B 6 rfl) (by decide) rfl ?_
 exact g_retB X0 hx hret hlk rfl (B 7 rfl) (by decide) (by decide) ⟨rfl, N0, e0⟩
theorem own_pn4 : plainName "java/lang/String" = true := by first | (simp [plainName, overriddenIn]; done) | decide +kernel
def D3 : List (Nat × Instr × Nat) := [(0, .aload_n 0, 1), (1, .invokespecial 1, 3), (4, .iload_n 3, 1), (5, .ifCond .ne 22, 3), (27, .getstatic 38, 3), (30, .ifCond .eq 28, 3), (33, .aload_n 1, 1), (34, .iload_n 2, 1), (35, .iload_n 3, 1), (36, .invokestatic 177, 3), (39, .astore 5, 2), (41, .aload_n 0, 1), (42, .aload 5, 2), (44, .iload_n 3, 1), (45, .invokestatic 47, 3), (48, .putfield 15, 3), (51, .aload_n 0, 1), (52, .aload 5, 2), (54, .putfield 9, 3), (57, .return_, 1)]
theorem D3_ok : ∀ x ∈ D3, decode jdk_42_method_149_code x.1 = .ok x.2 := by decide +kernel
theorem pd4 : parseMethodDescriptor "([CII)[B" = some ⟨[(.array .char), .int, .int], some (.array .byte)⟩ := by decide +kernel
theorem pd5 : parseMethodDescriptor "([BI)B" = some ⟨[(.array .byte), .int], some .byte⟩ := by decide +kernel
set_option maxRecDepth 65536 in
set_option maxHeartbeats 40000000 in
theorem rs_init2 {l : Launch} {Z : State} {a0 : Array Value} (hw : ∀ d ∈ tables_1, d.before a0 Z = true) (a b : Addr) (cs : Int32) (c0 c1 c2 c3 : Int32) (kB : ClassId) (u1 u2 : Value) (h0 : Heap) (n0 : Nat) (Z0 : n0 ≤ h0.size) (g_a : n0 ≤ a) (S_cs : Sta Z h0 "java/lang/String" "COMPACT_STRINGS" "Z" (.int cs)) (hcs : ¬ cs = 0) (E_a : Exa Z h0 a "java/lang/String") (F_v : Fld Z h0 a "java/lang/String" "value" "[B" u1) (F_c : Fld Z h0 a "java/lang/String" "coder" "B" u2) (V_b : Arv Z h0 b kB .char (4 : Int32) [(.int c0), (.int c1), (.int c2), (.int c3)] (.int 0)) (hc0 : ¬ 255 < c0) (hc1 : ¬ 255 < c1) (hc2 : ¬ 255 < c2) (hc3 : ¬ 255 < c3) :
  OwnMet l Z (⟨"java/lang/String", "<init>", "([CIILjava/lang/Void;)V"⟩ : MethodName) jdk_42_method_149_code 6 none [] (⟨2, 1, 4, 40⟩ : Room) [(.ref a), (.ref b), (.int 0), (.int 4), .null] h0 (fun v h L => v = none ∧ Fr n0 L ∧ Keep h0 h [a] ∧ ∃ (t : Addr) (kT : ClassId), h0.size ≤ t ∧ Exa Z h a "java/lang/String" ∧ Fld Z h a "java/lang/String" "value" "[B" (.ref t) ∧ Fld Z h a "java/lang/String" "coder" "B" (.int 0) ∧ Arv Z h t kT .byte (4 : Int32) [(.int (nar .byte (c0.toInt8.toInt32))), (.int (nar .byte (c1.toInt8.toInt32))), (.int (nar .byte (c2.toInt8.toInt32))), (.int (nar .byte (c3.toInt8.toInt32)))] (.int 0)) := by
 refine own_body (Ls := #[A a, A b, I 0, I 4, .val .null, U]) (plainFor_of_name own_pn4) (fun m => by first | (simp [entryFrame, mkF, argsToLocals, Value.category]; done) | rfl) (fun p e s m below meth cO T0 hx hby hml hown hnm hret hlk hZ X0 e0 => ?_)
 have hown : s.vm.findClass "java/lang/String" = some m.cls := hown
 have B {q r} (i : Nat) := own_B (q := q) (r := r) hby D3_ok i
 have W {d : Jvm.Cond} (i : Nat) (h : tables_1[i]? = some d) : d.before a0 Z = true := own_w hw i h
 have w9 := W 9 rfl
 have M {n : Nat} (h : n = _) : n = cO.maxLocals := h.trans hml.symm
 have N0 := Fr.nil n0
 have K0 := Keep.refl h0 [a]
 refine ga X0 hx 1 (B 0 rfl) rfl rfl rfl ?_
 refine g_initO X0 hx 4 hZ hown (W 18 rfl) (W 19 rfl) (W 20 rfl) e0 (by rw [hml]; rfl) (B 1 rfl) (by decide) 0 (Nat.le_of_eq rfl) (by decide) rfl (fun T1 X1 e1 => ?_)
 refine gn X1 hx 5 (B 2 rfl) rfl rfl ?_
 refine gt X1 hx 27 (B 3 rfl) (by decide) rfl ?_
 refine g_getS X1 hx 30 hZ hown (host := "") (Or.inl (W 21 rfl)) Via.refl e1 S_cs (B 4 rfl) rfl (fun T2 X2 e2 => ?_)
 have hk3 : ¬ (cs = 0) := hcs
 refine gf X2 hx 33 (B 5 rfl) ((if0 _ _).trans (feq hk3).1) rfl ?_
 refine ga X2 hx 34 (B 6 rfl) rfl rfl rfl ?_
 refine gn X2 hx 35 (B 7 rfl) rfl rfl ?_
 refine gn X2 hx 36 (B 8 rfl) rfl rfl ?_
 refine gS X2 hx 39 hZ hown (W 22 rfl) (W 23 rfl) (W 24 rfl) (W 25 rfl) (by decide) [(.ref b), (.int 0), (.int 4)] [] (rs_outer hw b c0 c1 c2 c3 kB h0 n0 Z0 V_b hc0 hc1 hc2 hc3) e2 0 rfl (M rfl) (lenOf pd4 rfl) (B 9 rfl) rfl rfl rfl (fun v T4 L X4 Y => ?_)
 obtain ⟨t, kT, rfl, N4q, K4, hst, V_t⟩ := Y
 have N4 := Fr.app N0 N4q
 have E_a := E_a.keep K4
 have F_v := F_v.keep K4 nin0
 have F_c := F_c.keep K4 nin0
 have V_b := V_b.keep K4 nin0
 have KK4 := K0.trans K4 all0
 have Z4 := Nat.le_trans Z0 K4.1
 have ne_t_a : t ≠ a := Ne.symm (Exa.neArv E_a V_t w9)
 have ne_b_a : b ≠ a := Ne.symm (Exa.neArv E_a V_b w9)
 refine g_astore X4 hx 41 _ (B 10 rfl) rfl rfl rfl ?_
 refine ga X4 hx 42 (B 11 rfl) rfl rfl rfl ?_
 refine gA X4 hx 44 (B 12 rfl) rfl rfl rfl ?_
 refine gn X4 hx 45 (B 13 rfl) rfl rfl ?_
 refine gS X4 hx 48 hZ hown (W 30 rfl) (W 31 rfl) (W 24 rfl) (W 32 rfl) (by decide) [(.ref t), (.int 4)] [(.ref a)] (rs_coder hw t kT _ T4.heap n0 Z4 V_t) rfl 1 rfl (M rfl) (lenOf pd5 rfl) (B 14 rfl) rfl rfl rfl (fun v T5 L X5 Y => ?_)
 obtain ⟨rfl, N5q, e5⟩ := Y
 have N5 := Fr.app N4 N5q
 refine gP X5 hx 51 hZ hown (host := "") (Or.inl (W 33 rfl)) Via.refl e5 F_c E_a (Or.inr ⟨(W 34 rfl), rfl, hnm⟩) w9 (ty := .byte) (by decide) rfl rfl (B 15 rfl) rfl (fun T6 h6 X6 e6 W6 => ?_)
 have E_a := E_a.wr W6
 have F_v := F_v.other W6 (Or.inr (sn6 hw))
 have F_c := F_c.same W6
 have V_b := V_b.other W6 ne_b_a
 have V_t := V_t.other W6 ne_t_a
 have N6 := Fr.snoc X6 N5 g_a
 have Z6 : n0 ≤ h6.size := by rw [W6.size]; exact Z4
 have K6 := KK4.wr W6 (Or.inl (List.mem_of_getElem? (i := 0) rfl))
 refine ga X6 hx 52 (B 16 rfl) rfl rfl rfl ?_
 refine gA X6 hx 54 (B 17 rfl) rfl rfl rfl ?_
 refine gP X6 hx 57 hZ hown (host := "") (Or.inl (W 35 rfl)) Via.refl e6 F_v E_a (Or.inr ⟨(W 36 rfl), rfl, hnm⟩) w9 (ty := (.array .byte)) (by decide) rfl rfl (B 18 rfl) rfl (fun T7 h7 X7 e7 W7 => ?_)
 have E_a := E_a.wr W7
 have F_v := F_v.same W7
 have F_c := F_c.other W7 (Or.inr (sn7 hw))
 have V_b := V_b.other W7 ne_b_a
 have V_t := V_t.other W7 ne_t_a
 have N7 := Fr.snoc X7 N6 g_a
 have Z7 : n0 ≤ h7.size := by rw [W7.size]; exact Z6
 have K7 := K6.wr W7 (Or.inl (List.mem_of_getElem? (i := 0) rfl))
 exact g_retV X7 hx hret hlk (B 19 rfl) (by decide) (by decide) (by rw [e7]; exact ⟨rfl, N7, K7, t, kT, hst, E_a, F_v, F_c, V_t⟩)
def D2 : List (Nat × Instr × Nat) := [(0, .aload_n 0, 1), (1, .aload_n 1, 1), (2, .iconst 0, 1), (3, .aload_n 1, 1), (4, .arraylength, 1), (5, .aconst_null, 1), (6, .invokespecial 27, 3), (9, .return_, 1)]
theorem D2_ok : ∀ x ∈ D2, decode jdk_42_method_3_code x.1 = .ok x.2 := by decide +kernel
theorem pd6 : parseMethodDescriptor "([CIILjava/lang/Void;)V" = some ⟨[(.array .char), .int, .int, (.object "java/lang/Void")], none⟩ := by decide +kernel
set_option maxRecDepth 65536 in
set_option maxHeartbeats 40000000 in
theorem rs_init1 {l : Launch} {Z : State} {a0 : Array Value} (hw : ∀ d ∈ tables_1, d.before a0 Z = true) (a b : Addr) (cs : Int32) (c0 c1 c2 c3 : Int32) (kB : ClassId) (u1 u2 : Value) (h0 : Heap) (n0 : Nat) (Z0 : n0 ≤ h0.size) (g_a : n0 ≤ a) (S_cs : Sta Z h0 "java/lang/String" "COMPACT_STRINGS" "Z" (.int cs)) (hcs : ¬ cs = 0) (E_a : Exa Z h0 a "java/lang/String") (F_v : Fld Z h0 a "java/lang/String" "value" "[B" u1) (F_c : Fld Z h0 a "java/lang/String" "coder" "B" u2) (V_b : Arv Z h0 b kB .char (4 : Int32) [(.int c0), (.int c1), (.int c2), (.int c3)] (.int 0)) (hc0 : ¬ 255 < c0) (hc1 : ¬ 255 < c1) (hc2 : ¬ 255 < c2) (hc3 : ¬ 255 < c3) :
  OwnMet l Z (⟨"java/lang/String", "<init>", "([C)V"⟩ : MethodName) jdk_42_method_3_code 2 none [] (⟨3, 1, 4, 60⟩ : Room) [(.ref a), (.ref b)] h0 (fun v h L => v = none ∧ Fr n0 L ∧ Keep h0 h [a] ∧ ∃ (t : Addr) (kT : ClassId), h0.size ≤ t ∧ Exa Z h a "java/lang/String" ∧ Fld Z h a "java/lang/String" "value" "[B" (.ref t) ∧ Fld Z h a "java/lang/String" "coder" "B" (.int 0) ∧ Arv Z h t kT .byte (4 : Int32) [(.int (nar .byte (c0.toInt8.toInt32))), (.int (nar .byte (c1.toInt8.toInt32))), (.int (nar .byte (c2.toInt8.toInt32))), (.int (nar .byte (c3.toInt8.toInt32)))] (.int 0)) := by
 refine own_body (Ls := #[A a, A b]) (plainFor_of_name own_pn4) (fun m => by first | (simp [entryFrame, mkF, argsToLocals, Value.category]; done) | rfl) (fun p e s m below meth cO T0 hx hby hml hown hnm hret hlk hZ X0 e0 => ?_)
 have hown : s.vm.findClass "java/lang/String" = some m.cls := hown
 have B {q r} (i : Nat) := own_B (q := q) (r := r) hby D2_ok i
 have W {d : Jvm.Cond} (i : Nat) (h : tables_1[i]? = some d) : d.before a0 Z = true := own_w hw i h
 have M {n : Nat} (h : n = _) : n = cO.maxLocals := h.trans hml.symm
 have N0 := Fr.nil n0
 refine ga X0 hx 1 (B 0 rfl) rfl rfl rfl ?_
 refine ga X0 hx 2 (B 1 rfl) rfl rfl rfl ?_
 refine gk X0 hx 3 0 (B 2 rfl) rfl rfl ?_
 refine ga X0 hx 4 (B 3 rfl) rfl rfl rfl ?_
 refine g_arraylength X0 hx 5 hZ e0 V_b (B 4 rfl) rfl ?_
 refine g_aconst_null X0 hx 6 (B 5 rfl) rfl ?_
 refine g_callI X0 hx 9 hZ rfl hown (W 14 rfl) (W 15 rfl) (W 10 rfl) (W 17 rfl) (by decide) a [(.ref b), (.int 0), (.int 4), .null] [] (rs_init2 hw a b cs c0 c1 c2 c3 kB u1 u2 h0 n0 Z0 g_a S_cs hcs E_a F_v F_c V_b hc0 hc1 hc2 hc3) e0 0 (by decide) (by decide) (by decide) (by decide) (by rw [hml]; rfl) (lenOf pd6 rfl) (B 6 rfl) rfl (Nat.le_of_eq rfl) rfl (fun v T1 L X1 Y => ?_)
 obtain ⟨rfl, N1q, hR1⟩ := Y
 have N1 := Fr.app N0 N1q
 exact g_retV X1 hx hret hlk (B 7 rfl) (by decide) (by decide) ⟨rfl, N1, hR1⟩
def D11 : List (Nat × Instr × Nat) := [(0, .getstatic 38, 3), (3, .ifCond .eq 10, 3), (6, .aload_n 0, 1), (7, .getfield 15, 3), (10, .goto 4, 3), (14, .ireturn, 1)]
theorem D11_ok : ∀ x ∈ D11, decode jdk_42_method_152_code x.1 = .ok x.2 := by decide +kernel
set_option maxRecDepth 65536 in
set_option maxHeartbeats 40000000 in
theorem rm11 {l : Launch} {Z : State} {a0 : Array Value} (hw : ∀ d ∈ tables_1, d.before a0 Z = true) (a : Addr) (cs : Int32) (h0 : Heap) (n0 : Nat) (Z0 : n0 ≤ h0.size) (S_cs : Sta Z h0 "java/lang/String" "COMPACT_STRINGS" "Z" (.int cs)) (hcs : ¬ cs = 0) (F_c : Fld Z h0 a "java/lang/String" "coder" "B" (.int 0)) :
  OwnMet l Z (⟨"java/lang/String", "coder", "()B"⟩ : MethodName) jdk_42_method_152_code 1 (some .byte) [] (⟨0, 0, 0, 0⟩ : Room) [(.ref a)] h0 (fun v h L => v = some (.int 0) ∧ Fr n0 L ∧ h = h0) := by
 refine own_body (Ls := #[A a]) (plainFor_of_name own_pn4) (fun m => by first | (simp [entryFrame, mkF, argsToLocals, Value.category]; done) | rfl) (fun p e s m below meth cO T0 hx hby hml hown hnm hret hlk hZ X0 e0 => ?_)
 have hown : s.vm.findClass "java/lang/String" = some m.cls := hown
 have B {q r} (i : Nat) := own_B (q := q) (r := r) hby D11_ok i
 have W {d : Jvm.Cond} (i : Nat) (h : tables_1[i]? = some d) : d.before a0 Z = true := own_w hw i h
 have M {n : Nat} (h : n = _) : n = cO.maxLocals := h.trans hml.symm
 have N0 := Fr.nil n0
 refine g_getS X0 hx 3 hZ hown (host := "") (Or.inl (W 21 rfl)) Via.refl e0 S_cs (B 0 rfl) rfl (fun T1 X1 e1 => ?_)
 have hk2 : ¬ (cs = 0) := hcs
 refine gf X1 hx 6 (B 1 rfl) ((if0 _ _).trans (feq hk2).1) rfl ?_
 refine ga X1 hx 7 (B 2 rfl) rfl rfl rfl ?_
 refine gG X1 hx 10 hZ hown (host := "") (Or.inl (W 33 rfl)) Via.refl e1 F_c (B 3 rfl) rfl (fun T3 X3 e3 => ?_)
 refine gg X3 hx 14 (B 4 rfl) rfl ?_
 exact g_retB X3 hx hret hlk rfl (B 5 rfl) (by decide) (by decide) ⟨rfl, N0, e3⟩
def D17 : List (Nat × Instr × Nat) := [(0, .getstatic 38, 3), (3, .ifCond .eq 14, 3), (6, .aload_n 0, 1), (7, .getfield 15, 3), (10, .ifCond .ne 7, 3), (13, .iconst 1, 1), (14, .goto 4, 3), (18, .ireturn, 1)]
theorem D17_ok : ∀ x ∈ D17, decode jdk_42_method_154_code x.1 = .ok x.2 := by decide +kernel
set_option maxRecDepth 65536 in
set_option maxHeartbeats 40000000 in
theorem rm17 {l : Launch} {Z : State} {a0 : Array Value} (hw : ∀ d ∈ tables_1, d.before a0 Z = true) (a : Addr) (cs : Int32) (h0 : Heap) (n0 : Nat) (Z0 : n0 ≤ h0.size) (S_cs : Sta Z h0 "java/lang/String" "COMPACT_STRINGS" "Z" (.int cs)) (hcs : ¬ cs = 0) (F_c : Fld Z h0 a "java/lang/String" "coder" "B" (.int 0)) :
  OwnMet l Z (⟨"java/lang/String", "isLatin1", "()Z"⟩ : MethodName) jdk_42_method_154_code 1 (some .boolean) [] (⟨0, 0, 0, 0⟩ : Room) [(.ref a)] h0 (fun v h L => v = some (.int 1) ∧ Fr n0 L ∧ h = h0) := by
 refine own_body (Ls := #[A a]) (plainFor_of_name own_pn4) (fun m => by first | (simp [entryFrame, mkF, argsToLocals, Value.category]; done) | rfl) (fun p e s m below meth cO T0 hx hby hml hown hnm hret hlk hZ X0 e0 => ?_)
 have hown : s.vm.findClass "java/lang/String" = some m.cls := hown
 have B {q r} (i : Nat) := own_B (q := q) (r := r) hby D17_ok i
 have W {d : Jvm.Cond} (i : Nat) (h : tables_1[i]? = some d) : d.before a0 Z = true := own_w hw i h
 have M {n : Nat} (h : n = _) : n = cO.maxLocals := h.trans hml.symm
 have N0 := Fr.nil n0
 refine g_getS X0 hx 3 hZ hown (host := "") (Or.inl (W 21 rfl)) Via.refl e0 S_cs (B 0 rfl) rfl (fun T1 X1 e1 => ?_)
 have hk2 : ¬ (cs = 0) := hcs
 refine gf X1 hx 6 (B 1 rfl) ((if0 _ _).trans (feq hk2).1) rfl ?_
 refine ga X1 hx 7 (B 2 rfl) rfl rfl rfl ?_
 refine gG X1 hx 10 hZ hown (host := "") (Or.inl (W 33 rfl)) Via.refl e1 F_c (B 3 rfl) rfl (fun T3 X3 e3 => ?_)
 refine gf X3 hx 13 (B 4 rfl) (by decide) rfl ?_
 refine gk X3 hx 14 1 (B 5 rfl) rfl rfl ?_
 refine gg X3 hx 18 (B 6 rfl) rfl ?_
 exact g_retZ X3 hx hret hlk rfl (B 7 rfl) (by decide) (by decide) ⟨rfl, N0, e3⟩
def D10 : List (Nat × Instr × Nat) := [(0, .aload_n 0, 1), (1, .getfield 9, 3), (4, .arraylength, 1), (5, .aload_n 0, 1), (6, .invokevirtual 335, 3), (9, .ishr, 1), (10, .ireturn, 1)]
theorem D10_ok : ∀ x ∈ D10, decode jdk_42_method_54_code x.1 = .ok x.2 := by decide +kernel
theorem pd7 : parseMethodDescriptor "()B" = some ⟨[], some .byte⟩ := by decide +kernel
set_option maxRecDepth 65536 in
set_option maxHeartbeats 40000000 in
theorem rm10 {l : Launch} {Z : State} {a0 : Array Value} (hw : ∀ d ∈ tables_1, d.before a0 Z = true) (a t : Addr) (cs : Int32) (c0 c1 c2 c3 : Int32) (kT : ClassId) (h0 : Heap) (n0 : Nat) (Z0 : n0 ≤ h0.size) (S_cs : Sta Z h0 "java/lang/String" "COMPACT_STRINGS" "Z" (.int cs)) (hcs : ¬ cs = 0) (E_a : Exa Z h0 a "java/lang/String") (F_v : Fld Z h0 a "java/lang/String" "value" "[B" (.ref t)) (F_c : Fld Z h0 a "java/lang/String" "coder" "B" (.int 0)) (V_t : Arv Z h0 t kT .byte (4 : Int32) [(.int (nar .byte (c0.toInt8.toInt32))), (.int (nar .byte (c1.toInt8.toInt32))), (.int (nar .byte (c2.toInt8.toInt32))), (.int (nar .byte (c3.toInt8.toInt32)))] (.int 0)) :
  OwnMet l Z (⟨"java/lang/String", "length", "()I"⟩ : MethodName) jdk_42_method_54_code 1 (some .int) [] (⟨1, 0, 0, 13⟩ : Room) [(.ref a)] h0 (fun v h L => v = some (.int 4) ∧ Fr n0 L ∧ h = h0) := by
 refine own_body (Ls := #[A a]) (plainFor_of_name own_pn4) (fun m => by first | (simp [entryFrame, mkF, argsToLocals, Value.category]; done) | rfl) (fun p e s m below meth cO T0 hx hby hml hown hnm hret hlk hZ X0 e0 => ?_)
 have hown : s.vm.findClass "java/lang/String" = some m.cls := hown
 have B {q r} (i : Nat) := own_B (q := q) (r := r) hby D10_ok i
 have W {d : Jvm.Cond} (i : Nat) (h : tables_1[i]? = some d) : d.before a0 Z = true := own_w hw i h
 have M {n : Nat} (h : n = _) : n = cO.maxLocals := h.trans hml.symm
 have N0 := Fr.nil n0
 refine ga X0 hx 1 (B 0 rfl) rfl rfl rfl ?_
 refine gG X0 hx 4 hZ hown (host := "") (Or.inl (W 35 rfl)) Via.refl e0 F_v (B 1 rfl) rfl (fun T1 X1 e1 => ?_)
 refine g_arraylength X1 hx 5 hZ e1 V_t (B 2 rfl) rfl ?_
 refine ga X1 hx 6 (B 3 rfl) rfl rfl rfl ?_
 refine gV X1 hx 9 hZ hown (W 61 rfl) (W 62 rfl) (W 64 rfl) (W 63 rfl) (W 10 rfl) (W 65 rfl) (by decide) a E_a [] [(.int 4)] (rm11 hw a cs h0 n0 Z0 S_cs hcs F_c) e1 1 rfl (M rfl) (lenOf pd7 rfl) (B 4 rfl) rfl rfl rfl (fun v T2 L X2 Y => ?_)
 obtain ⟨rfl, N2q, e2⟩ := Y
 have N2 := Fr.app N0 N2q
 refine g_ishr X2 hx 10 (4 : Int32) (B 5 rfl) (by decide) rfl ?_
 exact g_retI X2 hx hret hlk (B 6 rfl) (by decide) (by decide) ⟨rfl, N2, e2⟩
theorem own_pn5 : plainName "jdk/internal/util/Preconditions" = true := by first | (simp [plainName, overriddenIn]; done) | decide +kernel
def D14 : List (Nat × Instr × Nat) := [(0, .iload_n 0, 1), (1, .ifCond .lt 13, 3), (4, .iload_n 0, 1), (5, .iload_n 1, 1), (6, .if_icmp .gt 8, 3), (9, .iload_n 1, 1), (10, .iload_n 2, 1), (11, .if_icmp .le 11, 3), (22, .iload_n 0, 1), (23, .ireturn, 1)]
theorem D14_ok : ∀ x ∈ D14, decode jdk_41_method_12_code x.1 = .ok x.2 := by decide +kernel
set_option maxRecDepth 65536 in
set_option maxHeartbeats 40000000 in
theorem rm14n {l : Launch} {Z : State} {a0 : Array Value} (hw : ∀ d ∈ tables_1, d.before a0 Z = true)  (h0 : Heap) (n0 : Nat) (Z0 : n0 ≤ h0.size)  :
  OwnMet l Z (⟨"jdk/internal/util/Preconditions", "checkFromToIndex", "(IIILjava/util/function/BiFunction;)I"⟩ : MethodName) jdk_41_method_12_code 4 (some .int) [] (⟨0, 0, 0, 0⟩ : Room) [(.int 0), (.int 4), (.int 4), .null] h0 (fun v h L => v = some (.int 0) ∧ Fr n0 L ∧ h = h0) := by
 refine own_body (Ls := #[I 0, I 4, I 4, .val .null]) (plainFor_of_name own_pn5) (fun m => by first | (simp [entryFrame, mkF, argsToLocals, Value.category]; done) | rfl) (fun p e s m below meth cO T0 hx hby hml hown hnm hret hlk hZ X0 e0 => ?_)
 have hown : s.vm.findClass "jdk/internal/util/Preconditions" = some m.cls := hown
 have B {q r} (i : Nat) := own_B (q := q) (r := r) hby D14_ok i
 have W {d : Jvm.Cond} (i : Nat) (h : tables_1[i]? = some d) : d.before a0 Z = true := own_w hw i h
 have M {n : Nat} (h : n = _) : n = cO.maxLocals := h.trans hml.symm
 have N0 := Fr.nil n0
 refine gn X0 hx 1 (B 0 rfl) rfl rfl ?_
 refine gf X0 hx 4 (B 1 rfl) (by decide) rfl ?_
 refine gn X0 hx 5 (B 2 rfl) rfl rfl ?_
 refine gn X0 hx 6 (B 3 rfl) rfl rfl ?_
 refine gF X0 hx 9 (B 4 rfl) (by decide) rfl ?_
 refine gn X0 hx 10 (B 5 rfl) rfl rfl ?_
 refine gn X0 hx 11 (B 6 rfl) rfl rfl ?_
 refine gT X0 hx 22 (B 7 rfl) (by decide) rfl ?_
 refine gn X0 hx 23 (B 8 rfl) rfl rfl ?_
 exact g_retI X0 hx hret hlk (B 9 rfl) (by decide) (by decide) ⟨rfl, N0, e0⟩
set_option maxRecDepth 65536 in
set_option maxHeartbeats 40000000 in
theorem rm14r {l : Launch} {Z : State} {a0 : Array Value} (hw : ∀ d ∈ tables_1, d.before a0 Z = true) (fm : Addr) (h0 : Heap) (n0 : Nat) (Z0 : n0 ≤ h0.size)  :
  OwnMet l Z (⟨"jdk/internal/util/Preconditions", "checkFromToIndex", "(IIILjava/util/function/BiFunction;)I"⟩ : MethodName) jdk_41_method_12_code 4 (some .int) [] (⟨0, 0, 0, 0⟩ : Room) [(.int 0), (.int 4), (.int 4), (.ref fm)] h0 (fun v h L => v = some (.int 0) ∧ Fr n0 L ∧ h = h0) := by
 refine own_body (Ls := #[I 0, I 4, I 4, A fm]) (plainFor_of_name own_pn5) (fun m => by first | (simp [entryFrame, mkF, argsToLocals, Value.category]; done) | rfl) (fun p e s m below meth cO T0 hx hby hml hown hnm hret hlk hZ X0 e0 => ?_)
 have hown : s.vm.findClass "jdk/internal/util/Preconditions" = some m.cls := hown
 have B {q r} (i : Nat) := own_B (q := q) (r := r) hby D14_ok i
 have W {d : Jvm.Cond} (i : Nat) (h : tables_1[i]? = some d) : d.before a0 Z = true := own_w hw i h
 have M {n : Nat} (h : n = _) : n = cO.maxLocals := h.trans hml.symm
 have N0 := Fr.nil n0
 refine gn X0 hx 1 (B 0 rfl) rfl rfl ?_
 refine gf X0 hx 4 (B 1 rfl) (by decide) rfl ?_
 refine gn X0 hx 5 (B 2 rfl) rfl rfl ?_
 refine gn X0 hx 6 (B 3 rfl) rfl rfl ?_
 refine gF X0 hx 9 (B 4 rfl) (by decide) rfl ?_
 refine gn X0 hx 10 (B 5 rfl) rfl rfl ?_
 refine gn X0 hx 11 (B 6 rfl) rfl rfl ?_
 refine gT X0 hx 22 (B 7 rfl) (by decide) rfl ?_
 refine gn X0 hx 23 (B 8 rfl) rfl rfl ?_
 exact g_retI X0 hx hret hlk (B 9 rfl) (by decide) (by decide) ⟨rfl, N0, e0⟩
def D16 : List (Nat × Instr × Nat) := [(0, .iload_n 2, 1), (1, .iload_n 0, 1), (2, .ior, 1), (3, .iload_n 1, 1), (4, .ior, 1), (5, .ifCond .lt 10, 3), (8, .iload_n 1, 1), (9, .iload_n 2, 1), (10, .iload_n 0, 1), (11, .isub, 1), (12, .if_icmp .le 11, 3), (23, .iload_n 0, 1), (24, .ireturn, 1)]
theorem D16_ok : ∀ x ∈ D16, decode jdk_41_method_13_code x.1 = .ok x.2 := by decide +kernel
set_option maxRecDepth 65536 in
set_option maxHeartbeats 40000000 in
theorem rm16n {l : Launch} {Z : State} {a0 : Array Value} (hw : ∀ d ∈ tables_1, d.before a0 Z = true)  (h0 : Heap) (n0 : Nat) (Z0 : n0 ≤ h0.size)  :
  OwnMet l Z (⟨"jdk/internal/util/Preconditions", "checkFromIndexSize", "(IIILjava/util/function/BiFunction;)I"⟩ : MethodName) jdk_41_method_13_code 4 (some .int) [] (⟨0, 0, 0, 0⟩ : Room) [(.int 0), (.int 4), (.int 5), .null] h0 (fun v h L => v = some (.int 0) ∧ Fr n0 L ∧ h = h0) := by
 refine own_body (Ls := #[I 0, I 4, I 5, .val .null]) (plainFor_of_name own_pn5) (fun m => by first | (simp [entryFrame, mkF, argsToLocals, Value.category]; done) | rfl) (fun p e s m below meth cO T0 hx hby hml hown hnm hret hlk hZ X0 e0 => ?_)
 have hown : s.vm.findClass "jdk/internal/util/Preconditions" = some m.cls := hown
 have B {q r} (i : Nat) := own_B (q := q) (r := r) hby D16_ok i
 have W {d : Jvm.Cond} (i : Nat) (h : tables_1[i]? = some d) : d.before a0 Z = true := own_w hw i h
 have M {n : Nat} (h : n = _) : n = cO.maxLocals := h.trans hml.symm
 have N0 := Fr.nil n0
 refine gn X0 hx 1 (B 0 rfl) rfl rfl ?_
 refine gn X0 hx 2 (B 1 rfl) rfl rfl ?_
 refine g_ior X0 hx 3 (5 : Int32) (B 2 rfl) (by decide) rfl ?_
 refine gn X0 hx 4 (B 3 rfl) rfl rfl ?_
 refine g_ior X0 hx 5 (5 : Int32) (B 4 rfl) (by decide) rfl ?_
 refine gf X0 hx 8 (B 5 rfl) (by decide) rfl ?_
 refine gn X0 hx 9 (B 6 rfl) rfl rfl ?_
 refine gn X0 hx 10 (B 7 rfl) rfl rfl ?_
 refine gn X0 hx 11 (B 8 rfl) rfl rfl ?_
 refine gm X0 hx 12 (5 : Int32) (B 9 rfl) (by decide) rfl ?_
 refine gT X0 hx 23 (B 10 rfl) (by decide) rfl ?_
 refine gn X0 hx 24 (B 11 rfl) rfl rfl ?_
 exact g_retI X0 hx hret hlk (B 12 rfl) (by decide) (by decide) ⟨rfl, N0, e0⟩
set_option maxRecDepth 65536 in
set_option maxHeartbeats 40000000 in
theorem rm16r {l : Launch} {Z : State} {a0 : Array Value} (hw : ∀ d ∈ tables_1, d.before a0 Z = true) (fm : Addr) (h0 : Heap) (n0 : Nat) (Z0 : n0 ≤ h0.size)  :
  OwnMet l Z (⟨"jdk/internal/util/Preconditions", "checkFromIndexSize", "(IIILjava/util/function/BiFunction;)I"⟩ : MethodName) jdk_41_method_13_code 4 (some .int) [] (⟨0, 0, 0, 0⟩ : Room) [(.int 0), (.int 4), (.int 5), (.ref fm)] h0 (fun v h L => v = some (.int 0) ∧ Fr n0 L ∧ h = h0) := by
 refine own_body (Ls := #[I 0, I 4, I 5, A fm]) (plainFor_of_name own_pn5) (fun m => by first | (simp [entryFrame, mkF, argsToLocals, Value.category]; done) | rfl) (fun p e s m below meth cO T0 hx hby hml hown hnm hret hlk hZ X0 e0 => ?_)
 have hown : s.vm.findClass "jdk/internal/util/Preconditions" = some m.cls := hown
 have B {q r} (i : Nat) := own_B (q := q) (r := r) hby D16_ok i
 have W {d : Jvm.Cond} (i : Nat) (h : tables_1[i]? = some d) : d.before a0 Z = true := own_w hw i h
 have M {n : Nat} (h : n = _) : n = cO.maxLocals := h.trans hml.symm
 have N0 := Fr.nil n0
 refine gn X0 hx 1 (B 0 rfl) rfl rfl ?_
 refine gn X0 hx 2 (B 1 rfl) rfl rfl ?_
 refine g_ior X0 hx 3 (5 : Int32) (B 2 rfl) (by decide) rfl ?_
 refine gn X0 hx 4 (B 3 rfl) rfl rfl ?_
 refine g_ior X0 hx 5 (5 : Int32) (B 4 rfl) (by decide) rfl ?_
 refine gf X0 hx 8 (B 5 rfl) (by decide) rfl ?_
 refine gn X0 hx 9 (B 6 rfl) rfl rfl ?_
 refine gn X0 hx 10 (B 7 rfl) rfl rfl ?_
 refine gn X0 hx 11 (B 8 rfl) rfl rfl ?_
 refine gm X0 hx 12 (5 : Int32) (B 9 rfl) (by decide) rfl ?_
 refine gT X0 hx 23 (B 10 rfl) (by decide) rfl ?_
 refine gn X0 hx 24 (B 11 rfl) rfl rfl ?_
 exact g_retI X0 hx hret hlk (B 12 rfl) (by decide) (by decide) ⟨rfl, N0, e0⟩
def D13 : List (Nat × Instr × Nat) := [(0, .iload_n 0, 1), (1, .iload_n 1, 1), (2, .iload_n 2, 1), (3, .getstatic 1053, 3), (6, .invokestatic 1062, 3), (9, .pop, 1), (10, .return_, 1)]
theorem D13_ok : ∀ x ∈ D13, decode jdk_42_method_158_code x.1 = .ok x.2 := by decide +kernel
theorem pd8 : parseMethodDescriptor "(IIILjava/util/function/BiFunction;)I" = some ⟨[.int, .int, .int, (.object "java/util/function/BiFunction")], some .int⟩ := by decide +kernel
set_option maxRecDepth 65536 in
set_option maxHeartbeats 40000000 in
theorem rm13 {l : Launch} {Z : State} {a0 : Array Value} (hw : ∀ d ∈ tables_1, d.before a0 Z = true) (sio : Value) (h0 : Heap) (n0 : Nat) (Z0 : n0 ≤ h0.size) (S_sio : Sta Z h0 "jdk/internal/util/Preconditions" "SIOOBE_FORMATTER" "Ljava/util/function/BiFunction;" sio) (hsio : sio = .null ∨ ∃ r, sio = .ref r) :
  OwnMet l Z (⟨"java/lang/String", "checkBoundsBeginEnd", "(III)V"⟩ : MethodName) jdk_42_method_158_code 3 none [] (⟨1, 0, 0, 15⟩ : Room) [(.int 0), (.int 4), (.int 4)] h0 (fun v h L => v = none ∧ Fr n0 L ∧ h = h0) := by
 refine own_body (Ls := #[I 0, I 4, I 4]) (plainFor_of_name own_pn4) (fun m => by first | (simp [entryFrame, mkF, argsToLocals, Value.category]; done) | rfl) (fun p e s m below meth cO T0 hx hby hml hown hnm hret hlk hZ X0 e0 => ?_)
 have hown : s.vm.findClass "java/lang/String" = some m.cls := hown
 have B {q r} (i : Nat) := own_B (q := q) (r := r) hby D13_ok i
 have W {d : Jvm.Cond} (i : Nat) (h : tables_1[i]? = some d) : d.before a0 Z = true := own_w hw i h
 have M {n : Nat} (h : n = _) : n = cO.maxLocals := h.trans hml.symm
 have N0 := Fr.nil n0
 rcases hsio with rfl | ⟨r, rfl⟩
 ·
  refine gn X0 hx 1 (B 0 rfl) rfl rfl ?_
  refine gn X0 hx 2 (B 1 rfl) rfl rfl ?_
  refine gn X0 hx 3 (B 2 rfl) rfl rfl ?_
  refine g_getS X0 hx 6 hZ hown (host := "") (Or.inl (W 79 rfl)) Via.refl e0 S_sio (B 3 rfl) rfl (fun T1 X1 e1 => ?_)
  refine gS X1 hx 9 hZ hown (W 81 rfl) (W 82 rfl) (W 80 rfl) (W 83 rfl) (by decide) [(.int 0), (.int 4), (.int 4), .null] [] (rm14n hw  h0 n0 Z0) e1 0 rfl (M rfl) (lenOf pd8 rfl) (B 4 rfl) rfl rfl rfl (fun v T2 L X2 Y => ?_)
  obtain ⟨rfl, N2q, e2⟩ := Y
  have N2 := Fr.app N0 N2q
  refine g_pop X2 hx 10 (B 5 rfl) rfl rfl ?_
  exact g_retV X2 hx hret hlk (B 6 rfl) (by decide) (by decide) ⟨rfl, N2, e2⟩
 ·
  refine gn X0 hx 1 (B 0 rfl) rfl rfl ?_
  refine gn X0 hx 2 (B 1 rfl) rfl rfl ?_
  refine gn X0 hx 3 (B 2 rfl) rfl rfl ?_
  refine g_getS X0 hx 6 hZ hown (host := "") (Or.inl (W 79 rfl)) Via.refl e0 S_sio (B 3 rfl) rfl (fun T3 X3 e3 => ?_)
  refine gS X3 hx 9 hZ hown (W 81 rfl) (W 82 rfl) (W 80 rfl) (W 83 rfl) (by decide) [(.int 0), (.int 4), (.int 4), (.ref r)] [] (rm14r hw r h0 n0 Z0) e3 0 rfl (M rfl) (lenOf pd8 rfl) (B 4 rfl) rfl rfl rfl (fun v T4 L X4 Y => ?_)
  obtain ⟨rfl, N4q, e4⟩ := Y
  have N4 := Fr.app N0 N4q
  refine g_pop X4 hx 10 (B 5 rfl) rfl rfl ?_
  exact g_retV X4 hx hret hlk (B 6 rfl) (by decide) (by decide) ⟨rfl, N4, e4⟩
def D15 : List (Nat × Instr × Nat) := [(0, .iload_n 0, 1), (1, .iload_n 1, 1), (2, .iload_n 2, 1), (3, .getstatic 1053, 3), (6, .invokestatic 1065, 3), (9, .ireturn, 1)]
theorem D15_ok : ∀ x ∈ D15, decode jdk_42_method_157_code x.1 = .ok x.2 := by decide +kernel
set_option maxRecDepth 65536 in
set_option maxHeartbeats 40000000 in
theorem rm15 {l : Launch} {Z : State} {a0 : Array Value} (hw : ∀ d ∈ tables_1, d.before a0 Z = true) (sio : Value) (h0 : Heap) (n0 : Nat) (Z0 : n0 ≤ h0.size) (S_sio : Sta Z h0 "jdk/internal/util/Preconditions" "SIOOBE_FORMATTER" "Ljava/util/function/BiFunction;" sio) (hsio : sio = .null ∨ ∃ r, sio = .ref r) :
  OwnMet l Z (⟨"java/lang/String", "checkBoundsOffCount", "(III)I"⟩ : MethodName) jdk_42_method_157_code 3 (some .int) [] (⟨1, 0, 0, 15⟩ : Room) [(.int 0), (.int 4), (.int 5)] h0 (fun v h L => v = some (.int 0) ∧ Fr n0 L ∧ h = h0) := by
 refine own_body (Ls := #[I 0, I 4, I 5]) (plainFor_of_name own_pn4) (fun m => by first | (simp [entryFrame, mkF, argsToLocals, Value.category]; done) | rfl) (fun p e s m below meth cO T0 hx hby hml hown hnm hret hlk hZ X0 e0 => ?_)
 have hown : s.vm.findClass "java/lang/String" = some m.cls := hown
 have B {q r} (i : Nat) := own_B (q := q) (r := r) hby D15_ok i
 have W {d : Jvm.Cond} (i : Nat) (h : tables_1[i]? = some d) : d.before a0 Z = true := own_w hw i h
 have M {n : Nat} (h : n = _) : n = cO.maxLocals := h.trans hml.symm
 have N0 := Fr.nil n0
 rcases hsio with rfl | ⟨r, rfl⟩
 ·
  refine gn X0 hx 1 (B 0 rfl) rfl rfl ?_
  refine gn X0 hx 2 (B 1 rfl) rfl rfl ?_
  refine gn X0 hx 3 (B 2 rfl) rfl rfl ?_
  refine g_getS X0 hx 6 hZ hown (host := "") (Or.inl (W 79 rfl)) Via.refl e0 S_sio (B 3 rfl) rfl (fun T1 X1 e1 => ?_)
  refine gS X1 hx 9 hZ hown (W 87 rfl) (W 88 rfl) (W 80 rfl) (W 89 rfl) (by decide) [(.int 0), (.int 4), (.int 5), .null] [] (rm16n hw  h0 n0 Z0) e1 0 rfl (M rfl) (lenOf pd8 rfl) (B 4 rfl) rfl rfl rfl (fun v T2 L X2 Y => ?_)
  obtain ⟨rfl, N2q, e2⟩ := Y
  have N2 := Fr.app N0 N2q
  exact g_retI X2 hx hret hlk (B 5 rfl) (by decide) (by decide) ⟨rfl, N2, e2⟩
 ·
  refine gn X0 hx 1 (B 0 rfl) rfl rfl ?_
  refine gn X0 hx 2 (B 1 rfl) rfl rfl ?_
  refine gn X0 hx 3 (B 2 rfl) rfl rfl ?_
  refine g_getS X0 hx 6 hZ hown (host := "") (Or.inl (W 79 rfl)) Via.refl e0 S_sio (B 3 rfl) rfl (fun T3 X3 e3 => ?_)
  refine gS X3 hx 9 hZ hown (W 87 rfl) (W 88 rfl) (W 80 rfl) (W 89 rfl) (by decide) [(.int 0), (.int 4), (.int 5), (.ref r)] [] (rm16r hw r h0 n0 Z0) e3 0 rfl (M rfl) (lenOf pd8 rfl) (B 4 rfl) rfl rfl rfl (fun v T4 L X4 Y => ?_)
  obtain ⟨rfl, N4q, e4⟩ := Y
  have N4 := Fr.app N0 N4q
  exact g_retI X4 hx hret hlk (B 5 rfl) (by decide) (by decide) ⟨rfl, N4, e4⟩
theorem own_pn6 : plainName "java/lang/StringLatin1" = true := by first | (simp [plainName, overriddenIn]; done) | decide +kernel
def D19 : List (Nat × Instr × Nat) := [(0, .iconst 0, 1), (1, .istore 5, 2), (3, .iload 5, 2), (5, .iload 4, 2), (7, .if_icmp .ge 26, 3), (10, .aload_n 2, 1), (11, .iload_n 3, 1), (12, .iinc 3 1, 3), (15, .aload_n 0, 1), (16, .iload_n 1, 1), (17, .iinc 1 1, 3), (20, .baload, 1), (21, .sipush 255, 3), (24, .iand, 1), (25, .i2c, 1), (26, .castore, 1), (27, .iinc 5 1, 3), (30, .goto (-27), 3), (33, .return_, 1)]
theorem D19_ok : ∀ x ∈ D19, decode jdk_43_method_49_code x.1 = .ok x.2 := by decide +kernel
set_option maxRecDepth 65536 in
set_option maxHeartbeats 40000000 in
theorem rm19 {l : Launch} {Z : State} {a0 : Array Value} (hw : ∀ d ∈ tables_1, d.before a0 Z = true) (t bf : Addr) (c0 c1 c2 c3 : Int32) (kT kF : ClassId) (h0 : Heap) (n0 : Nat) (Z0 : n0 ≤ h0.size) (g_bf : n0 ≤ bf) (V_t : Arv Z h0 t kT .byte (4 : Int32) [(.int (nar .byte (c0.toInt8.toInt32))), (.int (nar .byte (c1.toInt8.toInt32))), (.int (nar .byte (c2.toInt8.toInt32))), (.int (nar .byte (c3.toInt8.toInt32)))] (.int 0)) (V_bf : Arv Z h0 bf kF .char (5 : Int32) [(.int 0), (.int 0), (.int 0), (.int 0), (.int 0)] (.int 0)) (nc0 : nar .char c0 = c0) (nc1 : nar .char c1 = c1) (nc2 : nar .char c2 = c2) (nc3 : nar .char c3 = c3) (hc0 : ¬ 255 < c0) (hc1 : ¬ 255 < c1) (hc2 : ¬ 255 < c2) (hc3 : ¬ 255 < c3) (ne_t_bf : t ≠ bf) :
  OwnMet l Z (⟨"java/lang/StringLatin1", "inflate", "([BI[CII)V"⟩ : MethodName) jdk_43_method_49_code 6 none [] (⟨0, 0, 0, 0⟩ : Room) [(.ref t), (.int 0), (.ref bf), (.int 0), (.int 4)] h0 (fun v h L => v = none ∧ Fr n0 L ∧ Keep h0 h [bf] ∧ Arv Z h bf kF .char (5 : Int32) [(.int c0), (.int c1), (.int c2), (.int c3), (.int 0)] (.int 0)) := by
 refine own_body (Ls := #[A t, I 0, A bf, I 0, I 4, U]) (plainFor_of_name own_pn6) (fun m => by first | (simp [entryFrame, mkF, argsToLocals, Value.category]; done) | rfl) (fun p e s m below meth cO T0 hx hby hml hown hnm hret hlk hZ X0 e0 => ?_)
 have hown : s.vm.findClass "java/lang/StringLatin1" = some m.cls := hown
 have B {q r} (i : Nat) := own_B (q := q) (r := r) hby D19_ok i
 have W {d : Jvm.Cond} (i : Nat) (h : tables_1[i]? = some d) : d.before a0 Z = true := own_w hw i h
 have M {n : Nat} (h : n = _) : n = cO.maxLocals := h.trans hml.symm
 have N0 := Fr.nil n0
 have K0 := Keep.refl h0 [bf]
 refine gk X0 hx 1 0 (B 0 rfl) rfl rfl ?_
 refine gs X0 hx 3 _ (B 1 rfl) rfl rfl ?_
 refine gl X0 hx 5 (B 2 rfl) rfl rfl ?_
 refine gl X0 hx 7 (B 3 rfl) rfl rfl ?_
 refine gF X0 hx 10 (B 4 rfl) (by decide) rfl ?_
 refine ga X0 hx 11 (B 5 rfl) rfl rfl rfl ?_
 refine gn X0 hx 12 (B 6 rfl) rfl rfl ?_
 refine gi X0 hx 15 (1 : Int32) #[A t, I 0, A bf, I 1, I 4, I 0] (B 7 rfl) rfl (by decide) rfl rfl ?_
 refine ga X0 hx 16 (B 8 rfl) rfl rfl rfl ?_
 refine gn X0 hx 17 (B 9 rfl) rfl rfl ?_
 refine gi X0 hx 20 (1 : Int32) _ (B 10 rfl) rfl (by decide) rfl rfl ?_
 refine g_baload X0 hx 21 hZ e0 V_t ⟨by decide, by decide⟩ (show _ = (.int (nar .byte (c0.toInt8.toInt32))) from rfl) (B 11 rfl) rfl ?_
 refine g_sipush X0 hx 24 255 (B 12 rfl) rfl rfl ?_
 refine g_iand X0 hx 25 ((nar .byte (c0.toInt8.toInt32)) &&& 255) (B 13 rfl) rfl rfl ?_
 refine g_i2c X0 hx 26 (((nar .byte (c0.toInt8.toInt32)) &&& 255).toUInt32.toUInt16.toUInt32.toInt32) (B 14 rfl) rfl rfl ?_
 refine g_castore X0 hx 27 hZ e0 V_bf 0 (by decide) ⟨by decide, by decide⟩ (Nat.le_of_ble_eq_true rfl) (B 15 rfl) rfl (fun T1 h1 X1 e1 W1 V1 => ?_)
 have V_t := V_t.other W1 ne_t_bf
 have V_bf : Arv Z h1 bf kF .char (5 : Int32) [(.int (nar .char (((nar .byte (c0.toInt8.toInt32)) &&& 255).toUInt32.toUInt16.toUInt32.toInt32))), (.int 0), (.int 0), (.int 0), (.int 0)] (.int 0) := V1
 have N1 := Fr.snoc X1 N0 g_bf
 have Z1 : n0 ≤ h1.size := by rw [W1.size]; exact Z0
 have K1 := K0.wr W1 (Or.inl (List.mem_of_getElem? (i := 0) rfl))
 refine gi X1 hx 30 (1 : Int32) #[A t, I 1, A bf, I 1, I 4, I 1] (B 16 rfl) rfl (by decide) rfl rfl ?_
 refine gg X1 hx 3 (B 17 rfl) rfl ?_
 refine gl X1 hx 5 (B 2 rfl) rfl rfl ?_
 refine gl X1 hx 7 (B 3 rfl) rfl rfl ?_
 refine gF X1 hx 10 (B 4 rfl) (by decide) rfl ?_
 refine ga X1 hx 11 (B 5 rfl) rfl rfl rfl ?_
 refine gn X1 hx 12 (B 6 rfl) rfl rfl ?_
 refine gi X1 hx 15 (2 : Int32) _ (B 7 rfl) rfl (by decide) rfl rfl ?_
 refine ga X1 hx 16 (B 8 rfl) rfl rfl rfl ?_
 refine gn X1 hx 17 (B 9 rfl) rfl rfl ?_
 refine gi X1 hx 20 (2 : Int32) #[A t, I 2, A bf, I 2, I 4, I 1] (B 10 rfl) rfl (by decide) rfl rfl ?_
 refine g_baload X1 hx 21 hZ e1 V_t ⟨by decide, by decide⟩ (show _ = (.int (nar .byte (c1.toInt8.toInt32))) from rfl) (B 11 rfl) rfl ?_
 refine g_sipush X1 hx 24 255 (B 12 rfl) rfl rfl ?_
 refine g_iand X1 hx 25 ((nar .byte (c1.toInt8.toInt32)) &&& 255) (B 13 rfl) rfl rfl ?_
 refine g_i2c X1 hx 26 (((nar .byte (c1.toInt8.toInt32)) &&& 255).toUInt32.toUInt16.toUInt32.toInt32) (B 14 rfl) rfl rfl ?_
 refine g_castore X1 hx 27 hZ e1 V_bf 1 (by decide) ⟨by decide, by decide⟩ (Nat.le_of_ble_eq_true rfl) (B 15 rfl) rfl (fun T2 h2 X2 e2 W2 V2 => ?_)
 have V_t := V_t.other W2 ne_t_bf
 have V_bf : Arv Z h2 bf kF .char (5 : Int32) [(.int (nar .char (((nar .byte (c0.toInt8.toInt32)) &&& 255).toUInt32.toUInt16.toUInt32.toInt32))), (.int (nar .char (((nar .byte (c1.toInt8.toInt32)) &&& 255).toUInt32.toUInt16.toUInt32.toInt32))), (.int 0), (.int 0), (.int 0)] (.int 0) := V2
 have N2 := Fr.snoc X2 N1 g_bf
 have Z2 : n0 ≤ h2.size := by rw [W2.size]; exact Z1
 have K2 := K1.wr W2 (Or.inl (List.mem_of_getElem? (i := 0) rfl))
 refine gi X2 hx 30 (2 : Int32) _ (B 16 rfl) rfl (by decide) rfl rfl ?_
 refine gg X2 hx 3 (B 17 rfl) rfl ?_
 refine gl X2 hx 5 (B 2 rfl) rfl rfl ?_
 refine gl X2 hx 7 (B 3 rfl) rfl rfl ?_
 refine gF X2 hx 10 (B 4 rfl) (by decide) rfl ?_
 refine ga X2 hx 11 (B 5 rfl) rfl rfl rfl ?_
 refine gn X2 hx 12 (B 6 rfl) rfl rfl ?_
 refine gi X2 hx 15 (3 : Int32) #[A t, I 2, A bf, I 3, I 4, I 2] (B 7 rfl) rfl (by decide) rfl rfl ?_
 refine ga X2 hx 16 (B 8 rfl) rfl rfl rfl ?_
 refine gn X2 hx 17 (B 9 rfl) rfl rfl ?_
 refine gi X2 hx 20 (3 : Int32) _ (B 10 rfl) rfl (by decide) rfl rfl ?_
 refine g_baload X2 hx 21 hZ e2 V_t ⟨by decide, by decide⟩ (show _ = (.int (nar .byte (c2.toInt8.toInt32))) from rfl) (B 11 rfl) rfl ?_
 refine g_sipush X2 hx 24 255 (B 12 rfl) rfl rfl ?_
 refine g_iand X2 hx 25 ((nar .byte (c2.toInt8.toInt32)) &&& 255) (B 13 rfl) rfl rfl ?_
 refine g_i2c X2 hx 26 (((nar .byte (c2.toInt8.toInt32)) &&& 255).toUInt32.toUInt16.toUInt32.toInt32) (B 14 rfl) rfl rfl ?_
 refine g_castore X2 hx 27 hZ e2 V_bf 2 (by decide) ⟨by decide, by decide⟩ (Nat.le_of_ble_eq_true rfl) (B 15 rfl) rfl (fun T3 h3 X3 e3 W3 V3 => ?_)
 have V_t := V_t.other W3 ne_t_bf
 have V_bf : Arv Z h3 bf kF .char (5 : Int32) [(.int (nar .char (((nar .byte (c0.toInt8.toInt32)) &&& 255).toUInt32.toUInt16.toUInt32.toInt32))), (.int (nar .char (((nar .byte (c1.toInt8.toInt32)) &&& 255).toUInt32.toUInt16.toUInt32.toInt32))), (.int (nar .char (((nar .byte (c2.toInt8.toInt32)) &&& 255).toUInt32.toUInt16.toUInt32.toInt32))), (.int 0), (.int 0)] (.int 0) := V3
 have N3 := Fr.snoc X3 N2 g_bf
 have Z3 : n0 ≤ h3.size := by rw [W3.size]; exact Z2
 have K3 := K2.wr W3 (Or.inl (List.mem_of_getElem? (i := 0) rfl))
 refine gi X3 hx 30 (3 : Int32) #[A t, I 3, A bf, I 3, I 4, I 3] (B 16 rfl) rfl (by decide) rfl rfl ?_
 refine gg X3 hx 3 (B 17 rfl) rfl ?_
 refine gl X3 hx 5 (B 2 rfl) rfl rfl ?_
 refine gl X3 hx 7 (B 3 rfl) rfl rfl ?_
 refine gF X3 hx 10 (B 4 rfl) (by decide) rfl ?_
 refine ga X3 hx 11 (B 5 rfl) rfl rfl rfl ?_
 refine gn X3 hx 12 (B 6 rfl) rfl rfl ?_
 refine gi X3 hx 15 (4 : Int32) _ (B 7 rfl) rfl (by decide) rfl rfl ?_
 refine ga X3 hx 16 (B 8 rfl) rfl rfl rfl ?_
 refine gn X3 hx 17 (B 9 rfl) rfl rfl ?_
 refine gi X3 hx 20 (4 : Int32) #[A t, I 4, A bf, I 4, I 4, I 3] (B 10 rfl) rfl (by decide) rfl rfl ?_
 refine g_baload X3 hx 21 hZ e3 V_t ⟨by decide, by decide⟩ (show _ = (.int (nar .byte (c3.toInt8.toInt32))) from rfl) (B 11 rfl) rfl ?_
 refine g_sipush X3 hx 24 255 (B 12 rfl) rfl rfl ?_
 refine g_iand X3 hx 25 ((nar .byte (c3.toInt8.toInt32)) &&& 255) (B 13 rfl) rfl rfl ?_
 refine g_i2c X3 hx 26 (((nar .byte (c3.toInt8.toInt32)) &&& 255).toUInt32.toUInt16.toUInt32.toInt32) (B 14 rfl) rfl rfl ?_
 refine g_castore X3 hx 27 hZ e3 V_bf 3 (by decide) ⟨by decide, by decide⟩ (Nat.le_of_ble_eq_true rfl) (B 15 rfl) rfl (fun T4 h4 X4 e4 W4 V4 => ?_)
 have V_t := V_t.other W4 ne_t_bf
 have V_bf : Arv Z h4 bf kF .char (5 : Int32) [(.int (nar .char (((nar .byte (c0.toInt8.toInt32)) &&& 255).toUInt32.toUInt16.toUInt32.toInt32))), (.int (nar .char (((nar .byte (c1.toInt8.toInt32)) &&& 255).toUInt32.toUInt16.toUInt32.toInt32))), (.int (nar .char (((nar .byte (c2.toInt8.toInt32)) &&& 255).toUInt32.toUInt16.toUInt32.toInt32))), (.int (nar .char (((nar .byte (c3.toInt8.toInt32)) &&& 255).toUInt32.toUInt16.toUInt32.toInt32))), (.int 0)] (.int 0) := V4
 have N4 := Fr.snoc X4 N3 g_bf
 have Z4 : n0 ≤ h4.size := by rw [W4.size]; exact Z3
 have K4 := K3.wr W4 (Or.inl (List.mem_of_getElem? (i := 0) rfl))
 refine gi X4 hx 30 (4 : Int32) _ (B 16 rfl) rfl (by decide) rfl rfl ?_
 refine gg X4 hx 3 (B 17 rfl) rfl ?_
 refine gl X4 hx 5 (B 2 rfl) rfl rfl ?_
 refine gl X4 hx 7 (B 3 rfl) rfl rfl ?_
 refine gT X4 hx 33 (B 4 rfl) (by decide) rfl ?_
 exact g_retV X4 hx hret hlk (B 18 rfl) (by decide) (by decide) (by rw [e4]; rw [own_back nc0 hc0, own_back nc1 hc1, own_back nc2 hc2, own_back nc3 hc3] at V_bf; exact ⟨rfl, N4, K4, V_bf⟩)
def D18 : List (Nat × Instr × Nat) := [(0, .aload_n 0, 1), (1, .iload_n 1, 1), (2, .aload_n 3, 1), (3, .iload 4, 2), (5, .iload_n 2, 1), (6, .iload_n 1, 1), (7, .isub, 1), (8, .invokestatic 13, 3), (11, .return_, 1)]
theorem D18_ok : ∀ x ∈ D18, decode jdk_43_method_11_code x.1 = .ok x.2 := by decide +kernel
theorem pd9 : parseMethodDescriptor "([BI[CII)V" = some ⟨[(.array .byte), .int, (.array .char), .int, .int], none⟩ := by decide +kernel
set_option maxRecDepth 65536 in
set_option maxHeartbeats 40000000 in
theorem rm18 {l : Launch} {Z : State} {a0 : Array Value} (hw : ∀ d ∈ tables_1, d.before a0 Z = true) (t bf : Addr) (c0 c1 c2 c3 : Int32) (kT kF : ClassId) (h0 : Heap) (n0 : Nat) (Z0 : n0 ≤ h0.size) (g_bf : n0 ≤ bf) (V_t : Arv Z h0 t kT .byte (4 : Int32) [(.int (nar .byte (c0.toInt8.toInt32))), (.int (nar .byte (c1.toInt8.toInt32))), (.int (nar .byte (c2.toInt8.toInt32))), (.int (nar .byte (c3.toInt8.toInt32)))] (.int 0)) (V_bf : Arv Z h0 bf kF .char (5 : Int32) [(.int 0), (.int 0), (.int 0), (.int 0), (.int 0)] (.int 0)) (nc0 : nar .char c0 = c0) (nc1 : nar .char c1 = c1) (nc2 : nar .char c2 = c2) (nc3 : nar .char c3 = c3) (hc0 : ¬ 255 < c0) (hc1 : ¬ 255 < c1) (hc2 : ¬ 255 < c2) (hc3 : ¬ 255 < c3) (ne_t_bf : t ≠ bf) :
  OwnMet l Z (⟨"java/lang/StringLatin1", "getChars", "([BII[CI)V"⟩ : MethodName) jdk_43_method_11_code 5 none [] (⟨1, 0, 0, 17⟩ : Room) [(.ref t), (.int 0), (.int 4), (.ref bf), (.int 0)] h0 (fun v h L => v = none ∧ Fr n0 L ∧ Keep h0 h [bf] ∧ Arv Z h bf kF .char (5 : Int32) [(.int c0), (.int c1), (.int c2), (.int c3), (.int 0)] (.int 0)) := by
 refine own_body (Ls := #[A t, I 0, I 4, A bf, I 0]) (plainFor_of_name own_pn6) (fun m => by first | (simp [entryFrame, mkF, argsToLocals, Value.category]; done) | rfl) (fun p e s m below meth cO T0 hx hby hml hown hnm hret hlk hZ X0 e0 => ?_)
 have hown : s.vm.findClass "java/lang/StringLatin1" = some m.cls := hown
 have B {q r} (i : Nat) := own_B (q := q) (r := r) hby D18_ok i
 have W {d : Jvm.Cond} (i : Nat) (h : tables_1[i]? = some d) : d.before a0 Z = true := own_w hw i h
 have M {n : Nat} (h : n = _) : n = cO.maxLocals := h.trans hml.symm
 have N0 := Fr.nil n0
 refine ga X0 hx 1 (B 0 rfl) rfl rfl rfl ?_
 refine gn X0 hx 2 (B 1 rfl) rfl rfl ?_
 refine ga X0 hx 3 (B 2 rfl) rfl rfl rfl ?_
 refine gl X0 hx 5 (B 3 rfl) rfl rfl ?_
 refine gn X0 hx 6 (B 4 rfl) rfl rfl ?_
 refine gn X0 hx 7 (B 5 rfl) rfl rfl ?_
 refine gm X0 hx 8 (4 : Int32) (B 6 rfl) (by decide) rfl ?_
 refine gS X0 hx 11 hZ hown (W 99 rfl) (W 100 rfl) (W 97 rfl) (W 101 rfl) (by decide) [(.ref t), (.int 0), (.ref bf), (.int 0), (.int 4)] [] (rm19 hw t bf c0 c1 c2 c3 kT kF h0 n0 Z0 g_bf V_t V_bf nc0 nc1 nc2 nc3 hc0 hc1 hc2 hc3 ne_t_bf) e0 0 rfl (M rfl) (lenOf pd9 rfl) (B 7 rfl) rfl rfl rfl (fun v T1 L X1 Y => ?_)
 obtain ⟨rfl, N1q, hR1⟩ := Y
 have N1 := Fr.app N0 N1q
 exact g_retV X1 hx hret hlk (B 8 rfl) (by decide) (by decide) ⟨rfl, N1, hR1⟩
def D12 : List (Nat × Instr × Nat) := [(0, .iload_n 1, 1), (1, .iload_n 2, 1), (2, .aload_n 0, 1), (3, .invokevirtual 505, 3), (6, .invokestatic 521, 3), (9, .iload 4, 2), (11, .iload_n 2, 1), (12, .iload_n 1, 1), (13, .isub, 1), (14, .aload_n 3, 1), (15, .arraylength, 1), (16, .invokestatic 34, 3), (19, .pop, 1), (20, .aload_n 0, 1), (21, .invokevirtual 492, 3), (24, .ifCond .eq 18, 3), (27, .aload_n 0, 1), (28, .getfield 9, 3), (31, .iload_n 1, 1), (32, .iload_n 2, 1), (33, .aload_n 3, 1), (34, .iload 4, 2), (36, .invokestatic 525, 3), (39, .goto 15, 3), (54, .return_, 1)]
theorem D12_ok : ∀ x ∈ D12, decode jdk_42_method_61_code x.1 = .ok x.2 := by decide +kernel
theorem pd10 : parseMethodDescriptor "()I" = some ⟨[], some .int⟩ := by decide +kernel
theorem pd11 : parseMethodDescriptor "(III)V" = some ⟨[.int, .int, .int], none⟩ := by decide +kernel
theorem pd12 : parseMethodDescriptor "(III)I" = some ⟨[.int, .int, .int], some .int⟩ := by decide +kernel
theorem pd13 : parseMethodDescriptor "()Z" = some ⟨[], some .boolean⟩ := by decide +kernel
theorem pd14 : parseMethodDescriptor "([BII[CI)V" = some ⟨[(.array .byte), .int, .int, (.array .char), .int], none⟩ := by decide +kernel
set_option maxRecDepth 65536 in
set_option maxHeartbeats 40000000 in
theorem rm12 {l : Launch} {Z : State} {a0 : Array Value} (hw : ∀ d ∈ tables_1, d.before a0 Z = true) (a t bf : Addr) (cs : Int32) (sio : Value) (c0 c1 c2 c3 : Int32) (kT kF : ClassId) (h0 : Heap) (n0 : Nat) (Z0 : n0 ≤ h0.size) (S_cs : Sta Z h0 "java/lang/String" "COMPACT_STRINGS" "Z" (.int cs)) (hcs : ¬ cs = 0) (S_sio : Sta Z h0 "jdk/internal/util/Preconditions" "SIOOBE_FORMATTER" "Ljava/util/function/BiFunction;" sio) (hsio : sio = .null ∨ ∃ r, sio = .ref r) (E_a : Exa Z h0 a "java/lang/String") (F_v : Fld Z h0 a "java/lang/String" "value" "[B" (.ref t)) (F_c : Fld Z h0 a "java/lang/String" "coder" "B" (.int 0)) (V_t : Arv Z h0 t kT .byte (4 : Int32) [(.int (nar .byte (c0.toInt8.toInt32))), (.int (nar .byte (c1.toInt8.toInt32))), (.int (nar .byte (c2.toInt8.toInt32))), (.int (nar .byte (c3.toInt8.toInt32)))] (.int 0)) (g_bf : n0 ≤ bf) (V_bf : Arv Z h0 bf kF .char (5 : Int32) [(.int 0), (.int 0), (.int 0), (.int 0), (.int 0)] (.int 0)) (nc0 : nar .char c0 = c0) (nc1 : nar .char c1 = c1) (nc2 : nar .char c2 = c2) (nc3 : nar .char c3 = c3) (hc0 : ¬ 255 < c0) (hc1 : ¬ 255 < c1) (hc2 : ¬ 255 < c2) (hc3 : ¬ 255 < c3) (ne_t_bf : t ≠ bf) :
  OwnMet l Z (⟨"java/lang/String", "getChars", "(II[CI)V"⟩ : MethodName) jdk_42_method_61_code 5 none [] (⟨2, 0, 0, 40⟩ : Room) [(.ref a), (.int 0), (.int 4), (.ref bf), (.int 0)] h0 (fun v h L => v = none ∧ Fr n0 L ∧ Keep h0 h [bf] ∧ Arv Z h bf kF .char (5 : Int32) [(.int c0), (.int c1), (.int c2), (.int c3), (.int 0)] (.int 0)) := by
 refine own_body (Ls := #[A a, I 0, I 4, A bf, I 0]) (plainFor_of_name own_pn4) (fun m => by first | (simp [entryFrame, mkF, argsToLocals, Value.category]; done) | rfl) (fun p e s m below meth cO T0 hx hby hml hown hnm hret hlk hZ X0 e0 => ?_)
 have hown : s.vm.findClass "java/lang/String" = some m.cls := hown
 have B {q r} (i : Nat) := own_B (q := q) (r := r) hby D12_ok i
 have W {d : Jvm.Cond} (i : Nat) (h : tables_1[i]? = some d) : d.before a0 Z = true := own_w hw i h
 have w10 := W 10 rfl
 have M {n : Nat} (h : n = _) : n = cO.maxLocals := h.trans hml.symm
 have N0 := Fr.nil n0
 refine gn X0 hx 1 (B 0 rfl) rfl rfl ?_
 refine gn X0 hx 2 (B 1 rfl) rfl rfl ?_
 refine ga X0 hx 3 (B 2 rfl) rfl rfl rfl ?_
 refine gV X0 hx 6 hZ hown (W 75 rfl) (W 57 rfl) (W 59 rfl) (W 58 rfl) w10 (W 60 rfl) (by decide) a E_a [] [(.int 4), (.int 0)] (rm10 hw a t cs c0 c1 c2 c3 kT h0 n0 Z0 S_cs hcs E_a F_v F_c V_t) e0 2 rfl (M rfl) (lenOf pd10 rfl) (B 3 rfl) rfl rfl rfl (fun v T1 L X1 Y => ?_)
 obtain ⟨rfl, N1q, e1⟩ := Y
 have N1 := Fr.app N0 N1q
 refine gS X1 hx 9 hZ hown (W 76 rfl) (W 77 rfl) w10 (W 78 rfl) (by decide) [(.int 0), (.int 4), (.int 4)] [] (rm13 hw sio h0 n0 Z0 S_sio hsio) e1 0 rfl (M rfl) (lenOf pd11 rfl) (B 4 rfl) rfl rfl rfl (fun v T2 L X2 Y => ?_)
 obtain ⟨rfl, N2q, e2⟩ := Y
 have N2 := Fr.app N1 N2q
 refine gl X2 hx 11 (B 5 rfl) rfl rfl ?_
 refine gn X2 hx 12 (B 6 rfl) rfl rfl ?_
 refine gn X2 hx 13 (B 7 rfl) rfl rfl ?_
 refine gm X2 hx 14 (4 : Int32) (B 8 rfl) (by decide) rfl ?_
 refine ga X2 hx 15 (B 9 rfl) rfl rfl rfl ?_
 refine g_arraylength X2 hx 16 hZ e2 V_bf (B 10 rfl) rfl ?_
 refine gS X2 hx 19 hZ hown (W 84 rfl) (W 85 rfl) w10 (W 86 rfl) (by decide) [(.int 0), (.int 4), (.int 5)] [] (rm15 hw sio h0 n0 Z0 S_sio hsio) e2 0 rfl (M rfl) (lenOf pd12 rfl) (B 11 rfl) rfl rfl rfl (fun v T3 L X3 Y => ?_)
 obtain ⟨rfl, N3q, e3⟩ := Y
 have N3 := Fr.app N2 N3q
 refine g_pop X3 hx 20 (B 12 rfl) rfl rfl ?_
 refine ga X3 hx 21 (B 13 rfl) rfl rfl rfl ?_
 refine gV X3 hx 24 hZ hown (W 90 rfl) (W 91 rfl) (W 93 rfl) (W 92 rfl) w10 (W 94 rfl) (by decide) a E_a [] [] (rm17 hw a cs h0 n0 Z0 S_cs hcs F_c) e3 0 rfl (M rfl) (lenOf pd13 rfl) (B 14 rfl) rfl rfl rfl (fun v T4 L X4 Y => ?_)
 obtain ⟨rfl, N4q, e4⟩ := Y
 have N4 := Fr.app N3 N4q
 refine gf X4 hx 27 (B 15 rfl) (by decide) rfl ?_
 refine ga X4 hx 28 (B 16 rfl) rfl rfl rfl ?_
 refine gG X4 hx 31 hZ hown (host := "") (Or.inl (W 35 rfl)) Via.refl e4 F_v (B 17 rfl) rfl (fun T5 X5 e5 => ?_)
 refine gn X5 hx 32 (B 18 rfl) rfl rfl ?_
 refine gn X5 hx 33 (B 19 rfl) rfl rfl ?_
 refine ga X5 hx 34 (B 20 rfl) rfl rfl rfl ?_
 refine gl X5 hx 36 (B 21 rfl) rfl rfl ?_
 refine gS X5 hx 39 hZ hown (W 95 rfl) (W 96 rfl) (W 97 rfl) (W 98 rfl) (by decide) [(.ref t), (.int 0), (.int 4), (.ref bf), (.int 0)] [] (rm18 hw t bf c0 c1 c2 c3 kT kF h0 n0 Z0 g_bf V_t V_bf nc0 nc1 nc2 nc3 hc0 hc1 hc2 hc3 ne_t_bf) e5 0 rfl (M rfl) (lenOf pd14 rfl) (B 22 rfl) rfl rfl rfl (fun v T6 L X6 Y => ?_)
 obtain ⟨rfl, N6q, hR6⟩ := Y
 have N6 := Fr.app N4 N6q
 refine gg X6 hx 54 (B 23 rfl) rfl ?_
 exact g_retV X6 hx hret hlk (B 24 rfl) (by decide) (by decide) ⟨rfl, N6, hR6⟩
theorem own_pn7 : plainName "gleanwell/Window" = true := by first | (simp [plainName, overriddenIn]; done) | decide +kernel
def D20 : List (Nat × Instr × Nat) := [(0, .aload_n 0, 1), (1, .dup, 1), (2, .getfield 44, 3), (5, .iload_n 1, 1), (6, .iadd, 1), (7, .putfield 44, 3), (10, .aload_n 0, 1), (11, .aload_n 0, 1), (12, .getfield 44, 3), (15, .putfield 47, 3), (18, .return_, 1)]
theorem D20_ok : ∀ x ∈ D20, decode prog_52_method_3_code x.1 = .ok x.2 := by decide +kernel
set_option maxRecDepth 65536 in
set_option maxHeartbeats 40000000 in
theorem rm20 {l : Launch} {Z : State} {a0 : Array Value} (hw : ∀ d ∈ tables_1, d.before a0 Z = true) (a cp bf : Addr) (n lim ps nl ct : Int32) (h0 : Heap) (n0 : Nat) (Z0 : n0 ≤ h0.size) (g_a : n0 ≤ a) (E_a : Exa Z h0 a "gleanwell/Window") (W_countedPosition : Fld Z h0 a "gleanwell/Window" "countedPosition" "Lgleanwell/Position;" (.ref cp)) (W_limit : Fld Z h0 a "gleanwell/Window" "limit" "I" (.int lim)) (W_buf : Fld Z h0 a "gleanwell/Window" "buf" "[C" (.ref bf)) (W_pos : Fld Z h0 a "gleanwell/Window" "pos" "I" (.int ps)) (W_noLineEndFrom : Fld Z h0 a "gleanwell/Window" "noLineEndFrom" "I" (.int nl)) (W_counted : Fld Z h0 a "gleanwell/Window" "counted" "I" (.int ct)) :
  OwnMet l Z (⟨"gleanwell/Window", "moveBy", "(I)V"⟩ : MethodName) prog_52_method_3_code 2 none [] (⟨0, 0, 0, 0⟩ : Room) [(.ref a), (.int n)] h0 (fun v h L => v = none ∧ Fr n0 L ∧ Keep h0 h [a] ∧ Exa Z h a "gleanwell/Window" ∧ Fld Z h a "gleanwell/Window" "countedPosition" "Lgleanwell/Position;" (.ref cp) ∧ Fld Z h a "gleanwell/Window" "limit" "I" (.int lim) ∧ Fld Z h a "gleanwell/Window" "buf" "[C" (.ref bf) ∧ Fld Z h a "gleanwell/Window" "pos" "I" (.int (ps + n)) ∧ Fld Z h a "gleanwell/Window" "noLineEndFrom" "I" (.int (ps + n)) ∧ Fld Z h a "gleanwell/Window" "counted" "I" (.int ct)) := by
 refine own_body (Ls := #[A a, I n]) (plainFor_of_name own_pn7) (fun m => by first | (simp [entryFrame, mkF, argsToLocals, Value.category]; done) | rfl) (fun p e s m below meth cO T0 hx hby hml hown hnm hret hlk hZ X0 e0 => ?_)
 have hown : s.vm.findClass "gleanwell/Window" = some m.cls := hown
 have B {q r} (i : Nat) := own_B (q := q) (r := r) hby D20_ok i
 have W {d : Jvm.Cond} (i : Nat) (h : tables_1[i]? = some d) : d.before a0 Z = true := own_w hw i h
 have M {n : Nat} (h : n = _) : n = cO.maxLocals := h.trans hml.symm
 have N0 := Fr.nil n0
 have K0 := Keep.refl h0 [a]
 refine ga X0 hx 1 (B 0 rfl) rfl rfl rfl ?_
 refine g_dup X0 hx 2 (B 1 rfl) rfl rfl ?_
 refine gG X0 hx 5 hZ hown (host := "") (Or.inl (W 110 rfl)) Via.refl e0 W_pos (B 2 rfl) rfl (fun T1 X1 e1 => ?_)
 refine gn X1 hx 6 (B 3 rfl) rfl rfl ?_
 refine gp X1 hx 7 (ps + n) (B 4 rfl) rfl rfl ?_
 refine gP X1 hx 10 hZ hown (host := "") (Or.inl (W 110 rfl)) Via.refl e1 W_pos E_a (Or.inl (W 111 rfl)) (W 6 rfl) (ty := .int) (by decide) rfl rfl (B 5 rfl) rfl (fun T2 h2 X2 e2 W2 => ?_)
 have E_a := E_a.wr W2
 have W_countedPosition := W_countedPosition.other W2 (Or.inr (sn8 hw))
 have W_limit := W_limit.other W2 (Or.inr (sn9 hw))
 have W_buf := W_buf.other W2 (Or.inr (sn10 hw))
 have W_pos := W_pos.same W2
 have W_noLineEndFrom := W_noLineEndFrom.other W2 (Or.inr (sn11 hw))
 have W_counted := W_counted.other W2 (Or.inr (sn12 hw))
 have N2 := Fr.snoc X2 N0 g_a
 have Z2 : n0 ≤ h2.size := by rw [W2.size]; exact Z0
 have K2 := K0.wr W2 (Or.inl (List.mem_of_getElem? (i := 0) rfl))
 refine ga X2 hx 11 (B 6 rfl) rfl rfl rfl ?_
 refine ga X2 hx 12 (B 7 rfl) rfl rfl rfl ?_
 refine gG X2 hx 15 hZ hown (host := "") (Or.inl (W 110 rfl)) Via.refl e2 W_pos (B 8 rfl) rfl (fun T3 X3 e3 => ?_)
 refine gP X3 hx 18 hZ hown (host := "") (Or.inl (W 112 rfl)) Via.refl e3 W_noLineEndFrom E_a (Or.inl (W 113 rfl)) (W 6 rfl) (ty := .int) (by decide) rfl rfl (B 9 rfl) rfl (fun T4 h4 X4 e4 W4 => ?_)
 have E_a := E_a.wr W4
 have W_countedPosition := W_countedPosition.other W4 (Or.inr (sn13 hw))
 have W_limit := W_limit.other W4 (Or.inr (sn14 hw))
 have W_buf := W_buf.other W4 (Or.inr (sn15 hw))
 have W_pos := W_pos.other W4 (Or.inr (sn16 hw))
 have W_noLineEndFrom := W_noLineEndFrom.same W4
 have W_counted := W_counted.other W4 (Or.inr (sn17 hw))
 have N4 := Fr.snoc X4 N2 g_a
 have Z4 : n0 ≤ h4.size := by rw [W4.size]; exact Z2
 have K4 := K2.wr W4 (Or.inl (List.mem_of_getElem? (i := 0) rfl))
 exact g_retV X4 hx hret hlk (B 10 rfl) (by decide) (by decide) (by rw [e4]; exact ⟨rfl, N4, K4, E_a, W_countedPosition, W_limit, W_buf, W_pos, W_noLineEndFrom, W_counted⟩)
def D8 : List (Nat × Instr × Nat) := [(0, .aload_n 0, 1), (1, .invokespecial 3, 3), (4, .aload_n 0, 1), (5, .new 9, 3), (8, .dup, 1), (9, .invokespecial 11, 3), (12, .putfield 12, 3), (15, .aload_n 0, 1), (16, .aconst_null, 1), (17, .putfield 18, 3), (20, .aload_n 0, 1), (21, .aload_n 1, 1), (22, .invokevirtual 22, 3), (25, .putfield 28, 3), (28, .aload_n 0, 1), (29, .aload_n 0, 1), (30, .getfield 28, 3), (33, .iconst 1, 1), (34, .iadd, 1), (35, .newarray .char, 2), (37, .putfield 32, 3), (40, .aload_n 1, 1), (41, .iconst 0, 1), (42, .aload_n 0, 1), (43, .getfield 28, 3), (46, .aload_n 0, 1), (47, .getfield 32, 3), (50, .iconst 0, 1), (51, .invokevirtual 36, 3), (54, .aload_n 0, 1), (55, .iconst 1, 1), (56, .putfield 40, 3), (59, .return_, 1)]
theorem D8_ok : ∀ x ∈ D8, decode prog_52_method_1_code x.1 = .ok x.2 := by decide +kernel
theorem pd15 : parseMethodDescriptor "()V" = some ⟨[], none⟩ := by decide +kernel
theorem pd16 : parseMethodDescriptor "(II[CI)V" = some ⟨[.int, .int, (.array .char), .int], none⟩ := by decide +kernel
set_option maxRecDepth 65536 in
set_option maxHeartbeats 40000000 in
theorem rm8 {l : Launch} {Z : State} {a0 : Array Value} (hw : ∀ d ∈ tables_1, d.before a0 Z = true) (a sA t : Addr) (cs : Int32) (sio : Value) (c0 c1 c2 c3 : Int32) (kT : ClassId) (u0 u1 u2 u3 u4 : Value) (h0 : Heap) (n0 : Nat) (Z0 : n0 ≤ h0.size) (g_a : n0 ≤ a) (S_cs : Sta Z h0 "java/lang/String" "COMPACT_STRINGS" "Z" (.int cs)) (hcs : ¬ cs = 0) (S_sio : Sta Z h0 "jdk/internal/util/Preconditions" "SIOOBE_FORMATTER" "Ljava/util/function/BiFunction;" sio) (hsio : sio = .null ∨ ∃ r, sio = .ref r) (E_a : Exa Z h0 a "gleanwell/Window") (W_countedPosition : Fld Z h0 a "gleanwell/Window" "countedPosition" "Lgleanwell/Position;" u0) (W_source : Fld Z h0 a "gleanwell/Window" "source" "Ljava/lang/Readable;" u1) (W_limit : Fld Z h0 a "gleanwell/Window" "limit" "I" u2) (W_buf : Fld Z h0 a "gleanwell/Window" "buf" "[C" u3) (W_sourceExhausted : Fld Z h0 a "gleanwell/Window" "sourceExhausted" "Z" u4) (W_pos : Fld Z h0 a "gleanwell/Window" "pos" "I" (.int 0)) (W_noLineEndFrom : Fld Z h0 a "gleanwell/Window" "noLineEndFrom" "I" (.int 0)) (W_counted : Fld Z h0 a "gleanwell/Window" "counted" "I" (.int 0)) (E_s : Exa Z h0 sA "java/lang/String") (F_v : Fld Z h0 sA "java/lang/String" "value" "[B" (.ref t)) (F_c : Fld Z h0 sA "java/lang/String" "coder" "B" (.int 0)) (V_t : Arv Z h0 t kT .byte (4 : Int32) [(.int (nar .byte (c0.toInt8.toInt32))), (.int (nar .byte (c1.toInt8.toInt32))), (.int (nar .byte (c2.toInt8.toInt32))), (.int (nar .byte (c3.toInt8.toInt32)))] (.int 0)) (nc0 : nar .char c0 = c0) (nc1 : nar .char c1 = c1) (nc2 : nar .char c2 = c2) (nc3 : nar .char c3 = c3) (hc0 : ¬ 255 < c0) (hc1 : ¬ 255 < c1) (hc2 : ¬ 255 < c2) (hc3 : ¬ 255 < c3) :
  OwnMet l Z (⟨"gleanwell/Window", "<init>", "(Ljava/lang/String;)V"⟩ : MethodName) prog_52_method_1_code 2 none [] (⟨3, 2, 8, 60⟩ : Room) [(.ref a), (.ref sA)] h0 (fun v h L => v = none ∧ Fr n0 L ∧ Keep h0 h [a] ∧ ∃ (cp bf : Addr) (kF : ClassId), n0 ≤ cp ∧ h0.size ≤ cp ∧ h0.size ≤ bf ∧ Exa Z h a "gleanwell/Window" ∧ Fld Z h a "gleanwell/Window" "countedPosition" "Lgleanwell/Position;" (.ref cp) ∧ Fld Z h a "gleanwell/Window" "limit" "I" (.int 4) ∧ Fld Z h a "gleanwell/Window" "buf" "[C" (.ref bf) ∧ Fld Z h a "gleanwell/Window" "pos" "I" (.int 0) ∧ Fld Z h a "gleanwell/Window" "noLineEndFrom" "I" (.int 0) ∧ Fld Z h a "gleanwell/Window" "counted" "I" (.int 0) ∧ Exa Z h cp "gleanwell/Position" ∧ Fld Z h cp "gleanwell/Position" "line" "J" (.long 1) ∧ Fld Z h cp "gleanwell/Position" "column" "J" (.long 1) ∧ Fld Z h cp "gleanwell/Position" "last" "C" (.int 0) ∧ Arv Z h bf kF .char (5 : Int32) [(.int c0), (.int c1), (.int c2), (.int c3), (.int 0)] (.int 0)) := by
 refine own_body (Ls := #[A a, A sA]) (plainFor_of_name own_pn7) (fun m => by first | (simp [entryFrame, mkF, argsToLocals, Value.category]; done) | rfl) (fun p e s m below meth cO T0 hx hby hml hown hnm hret hlk hZ X0 e0 => ?_)
 have hown : s.vm.findClass "gleanwell/Window" = some m.cls := hown
 have B {q r} (i : Nat) := own_B (q := q) (r := r) hby D8_ok i
 have W {d : Jvm.Cond} (i : Nat) (h : tables_1[i]? = some d) : d.before a0 Z = true := own_w hw i h
 have w6 := W 6 rfl
 have w66 := W 66 rfl
 have M {n : Nat} (h : n = _) : n = cO.maxLocals := h.trans hml.symm
 have N0 := Fr.nil n0
 have K0 := Keep.refl h0 [a]
 have ne_s_a : sA ≠ a := Ne.symm (ne_exa E_a E_s (by decide))
 have ne_t_a : t ≠ a := Ne.symm (Exa.neArv E_a V_t w6)
 refine ga X0 hx 1 (B 0 rfl) rfl rfl rfl ?_
 refine g_initO X0 hx 4 hZ hown (W 40 rfl) (W 19 rfl) (W 20 rfl) e0 (by rw [hml]; rfl) (B 1 rfl) (by decide) 0 (Nat.le_of_eq rfl) (by decide) rfl (fun T1 X1 e1 => ?_)
 refine ga X1 hx 5 (B 2 rfl) rfl rfl rfl ?_
 refine g_new X1 hx 8 hZ hown (W 41 rfl) (W 42 rfl) (W 43 rfl) e1 (B 3 rfl) (by decide) (by decide) rfl (fun T2 h2 b2 g2 X2 e2 E2 A2 D2 => ?_)
 have ne_a_b2 : a ≠ b2 := Nat.ne_of_lt (Nat.lt_of_lt_of_le E_a.lt (Nat.le_of_eq g2.symm))
 have ne_sA_b2 : sA ≠ b2 := Nat.ne_of_lt (Nat.lt_of_lt_of_le E_s.lt (Nat.le_of_eq g2.symm))
 have ne_t_b2 : t ≠ b2 := Nat.ne_of_lt (Nat.lt_of_lt_of_le V_t.lt (Nat.le_of_eq g2.symm))
 have E_a := E_a.ext E2
 have W_countedPosition := W_countedPosition.ext E2
 have W_source := W_source.ext E2
 have W_limit := W_limit.ext E2
 have W_buf := W_buf.ext E2
 have W_sourceExhausted := W_sourceExhausted.ext E2
 have W_pos := W_pos.ext E2
 have W_noLineEndFrom := W_noLineEndFrom.ext E2
 have W_counted := W_counted.ext E2
 have E_s := E_s.ext E2
 have F_v := F_v.ext E2
 have F_c := F_c.ext E2
 have V_t := V_t.ext E2
 have S_cs := S_cs.ext E2
 have S_sio := S_sio.ext E2
 have G_b2 : n0 ≤ b2 := Nat.le_trans Z0 (Nat.le_of_eq g2.symm)
 have Z2 : n0 ≤ h2.size := Nat.le_trans Z0 E2.1
 have SZ_b2 : h0.size ≤ b2 := Nat.le_trans K0.1 (Nat.le_of_eq g2.symm)
 have K2 := K0.ext E2
 have E_b2 : Exa Z h2 b2 "gleanwell/Position" := A2
 have F_b2_line : Fld Z h2 b2 "gleanwell/Position" "line" "J" (.long (0 : Int64)) := D2 (Or.inl (W 49 rfl)) (ty := .long) (by decide)
 have F_b2_column : Fld Z h2 b2 "gleanwell/Position" "column" "J" (.long (0 : Int64)) := D2 (Or.inl (W 51 rfl)) (ty := .long) (by decide)
 have F_b2_last : Fld Z h2 b2 "gleanwell/Position" "last" "C" (.int 0) := D2 (Or.inl (W 143 rfl)) (ty := .char) (by decide)
 refine g_dup X2 hx 9 (B 4 rfl) rfl rfl ?_
 refine g_callI X2 hx 12 hZ rfl hown (W 44 rfl) (W 45 rfl) (W 43 rfl) (W 46 rfl) (by decide) b2 [] [(.ref b2), (.ref a)] (rm9 hw b2 _ _ h2 n0 Z2 G_b2 E_b2 F_b2_line F_b2_column F_b2_last) e2 2 (by decide) (by decide) (by decide) (by decide) (by rw [hml]; rfl) (lenOf pd15 rfl) (B 5 rfl) rfl (Nat.le_of_eq rfl) rfl (fun v T3 L X3 Y => ?_)
 obtain ⟨rfl, N3q, K3, E3x, Fl_b2, Fc_b2, Fa_b2⟩ := Y
 have N3 := Fr.app N0 N3q
 have S_cs := own_sta_keep' S_cs K3 (own_plain E_b2)
 have S_sio := own_sta_keep' S_sio K3 (own_plain E_b2)
 have E_a := E_a.keep K3
 have W_countedPosition := W_countedPosition.keep K3 (ninS ne_a_b2 nin0)
 have W_source := W_source.keep K3 (ninS ne_a_b2 nin0)
 have W_limit := W_limit.keep K3 (ninS ne_a_b2 nin0)
 have W_buf := W_buf.keep K3 (ninS ne_a_b2 nin0)
 have W_sourceExhausted := W_sourceExhausted.keep K3 (ninS ne_a_b2 nin0)
 have W_pos := W_pos.keep K3 (ninS ne_a_b2 nin0)
 have W_noLineEndFrom := W_noLineEndFrom.keep K3 (ninS ne_a_b2 nin0)
 have W_counted := W_counted.keep K3 (ninS ne_a_b2 nin0)
 have E_s := E_s.keep K3
 have F_v := F_v.keep K3 (ninS ne_sA_b2 nin0)
 have F_c := F_c.keep K3 (ninS ne_sA_b2 nin0)
 have V_t := V_t.keep K3 (ninS ne_t_b2 nin0)
 have E_b2 := E_b2.keep K3
 have KK3 := K2.trans K3 (allS (Or.inr SZ_b2) all0)
 have Z3 := Nat.le_trans Z2 K3.1
 refine gP X3 hx 15 hZ hown (host := "") (Or.inl (W 52 rfl)) Via.refl rfl W_countedPosition E_a (Or.inr ⟨(W 53 rfl), rfl, hnm⟩) w6 (ty := (.object "gleanwell/Position")) (by decide) rfl rfl (B 6 rfl) rfl (fun T4 h4 X4 e4 W4 => ?_)
 have E_a := E_a.wr W4
 have W_countedPosition := W_countedPosition.same W4
 have W_source := W_source.other W4 (Or.inr (sn18 hw))
 have W_limit := W_limit.other W4 (Or.inr (sn19 hw))
 have W_buf := W_buf.other W4 (Or.inr (sn20 hw))
 have W_sourceExhausted := W_sourceExhausted.other W4 (Or.inr (sn21 hw))
 have W_pos := W_pos.other W4 (Or.inr (sn22 hw))
 have W_noLineEndFrom := W_noLineEndFrom.other W4 (Or.inr (sn23 hw))
 have W_counted := W_counted.other W4 (Or.inr (sn24 hw))
 have E_s := E_s.wr W4
 have F_v := F_v.other W4 (Or.inl ne_s_a)
 have F_c := F_c.other W4 (Or.inl ne_s_a)
 have V_t := V_t.other W4 ne_t_a
 have E_b2 := E_b2.wr W4
 have S_cs := S_cs.wr W4
 have S_sio := S_sio.wr W4
 have Fl_b2 := Fl_b2.other W4 (Or.inl (Ne.symm ne_a_b2))
 have Fc_b2 := Fc_b2.other W4 (Or.inl (Ne.symm ne_a_b2))
 have Fa_b2 := Fa_b2.other W4 (Or.inl (Ne.symm ne_a_b2))
 have N4 := Fr.snoc X4 N3 g_a
 have Z4 : n0 ≤ h4.size := by rw [W4.size]; exact Z3
 have K4 := KK3.wr W4 (Or.inl (List.mem_of_getElem? (i := 0) rfl))
 refine ga X4 hx 16 (B 7 rfl) rfl rfl rfl ?_
 refine g_aconst_null X4 hx 17 (B 8 rfl) rfl ?_
 refine gP X4 hx 20 hZ hown (host := "") (Or.inl (W 54 rfl)) Via.refl e4 W_source E_a (Or.inr ⟨(W 55 rfl), rfl, hnm⟩) w6 (ty := (.object "java/lang/Readable")) (by decide) rfl rfl (B 9 rfl) rfl (fun T5 h5 X5 e5 W5 => ?_)
 have E_a := E_a.wr W5
 have W_countedPosition := W_countedPosition.other W5 (Or.inr (sn25 hw))
 have W_source := W_source.same W5
 have W_limit := W_limit.other W5 (Or.inr (sn26 hw))
 have W_buf := W_buf.other W5 (Or.inr (sn27 hw))
 have W_sourceExhausted := W_sourceExhausted.other W5 (Or.inr (sn28 hw))
 have W_pos := W_pos.other W5 (Or.inr (sn29 hw))
 have W_noLineEndFrom := W_noLineEndFrom.other W5 (Or.inr (sn30 hw))
 have W_counted := W_counted.other W5 (Or.inr (sn31 hw))
 have E_s := E_s.wr W5
 have F_v := F_v.other W5 (Or.inl ne_s_a)
 have F_c := F_c.other W5 (Or.inl ne_s_a)
 have V_t := V_t.other W5 ne_t_a
 have E_b2 := E_b2.wr W5
 have S_cs := S_cs.wr W5
 have S_sio := S_sio.wr W5
 have Fl_b2 := Fl_b2.other W5 (Or.inl (Ne.symm ne_a_b2))
 have Fc_b2 := Fc_b2.other W5 (Or.inl (Ne.symm ne_a_b2))
 have Fa_b2 := Fa_b2.other W5 (Or.inl (Ne.symm ne_a_b2))
 have N5 := Fr.snoc X5 N4 g_a
 have Z5 : n0 ≤ h5.size := by rw [W5.size]; exact Z4
 have K5 := K4.wr W5 (Or.inl (List.mem_of_getElem? (i := 0) rfl))
 refine ga X5 hx 21 (B 10 rfl) rfl rfl rfl ?_
 refine ga X5 hx 22 (B 11 rfl) rfl rfl rfl ?_
 refine gV X5 hx 25 hZ hown (W 56 rfl) (W 57 rfl) (W 59 rfl) (W 58 rfl) (W 10 rfl) (W 60 rfl) (by decide) sA E_s [] [(.ref a)] (rm10 hw sA t cs c0 c1 c2 c3 kT h5 n0 Z5 S_cs hcs E_s F_v F_c V_t) e5 1 rfl (M rfl) (lenOf pd10 rfl) (B 12 rfl) rfl rfl rfl (fun v T6 L X6 Y => ?_)
 obtain ⟨rfl, N6q, e6⟩ := Y
 have N6 := Fr.app N5 N6q
 refine gP X6 hx 28 hZ hown (host := "") (Or.inl w66) Via.refl e6 W_limit E_a (Or.inl (W 67 rfl)) w6 (ty := .int) (by decide) rfl rfl (B 13 rfl) rfl (fun T7 h7 X7 e7 W7 => ?_)
 have E_a := E_a.wr W7
 have W_countedPosition := W_countedPosition.other W7 (Or.inr (sn32 hw))
 have W_source := W_source.other W7 (Or.inr (sn33 hw))
 have W_limit := W_limit.same W7
 have W_buf := W_buf.other W7 (Or.inr (sn34 hw))
 have W_sourceExhausted := W_sourceExhausted.other W7 (Or.inr (sn35 hw))
 have W_pos := W_pos.other W7 (Or.inr (sn36 hw))
 have W_noLineEndFrom := W_noLineEndFrom.other W7 (Or.inr (sn37 hw))
 have W_counted := W_counted.other W7 (Or.inr (sn38 hw))
 have E_s := E_s.wr W7
 have F_v := F_v.other W7 (Or.inl ne_s_a)
 have F_c := F_c.other W7 (Or.inl ne_s_a)
 have V_t := V_t.other W7 ne_t_a
 have E_b2 := E_b2.wr W7
 have S_cs := S_cs.wr W7
 have S_sio := S_sio.wr W7
 have Fl_b2 := Fl_b2.other W7 (Or.inl (Ne.symm ne_a_b2))
 have Fc_b2 := Fc_b2.other W7 (Or.inl (Ne.symm ne_a_b2))
 have Fa_b2 := Fa_b2.other W7 (Or.inl (Ne.symm ne_a_b2))
 have N7 := Fr.snoc X7 N6 g_a
 have Z7 : n0 ≤ h7.size := by rw [W7.size]; exact Z5
 have K7 := K5.wr W7 (Or.inl (List.mem_of_getElem? (i := 0) rfl))
 refine ga X7 hx 29 (B 14 rfl) rfl rfl rfl ?_
 refine ga X7 hx 30 (B 15 rfl) rfl rfl rfl ?_
 refine gG X7 hx 33 hZ hown (host := "") (Or.inl w66) Via.refl e7 W_limit (B 16 rfl) rfl (fun T8 X8 e8 => ?_)
 refine gk X8 hx 34 1 (B 17 rfl) rfl rfl ?_
 refine gp X8 hx 35 (5 : Int32) (B 18 rfl) (by decide) rfl ?_
 refine g_newP X8 hx 37 hZ (W 0 rfl) e8 (B 19 rfl) (by decide) 5 (by decide) (by decide) (by decide) (by decide) rfl (fun T9 h9 b9 kl9 g9 X9 e9 E9 A9 => ?_)
 have ne_a_b9 : a ≠ b9 := Nat.ne_of_lt (Nat.lt_of_lt_of_le E_a.lt (Nat.le_of_eq g9.symm))
 have ne_sA_b9 : sA ≠ b9 := Nat.ne_of_lt (Nat.lt_of_lt_of_le E_s.lt (Nat.le_of_eq g9.symm))
 have ne_t_b9 : t ≠ b9 := Nat.ne_of_lt (Nat.lt_of_lt_of_le V_t.lt (Nat.le_of_eq g9.symm))
 have ne_b2_b9 : b2 ≠ b9 := Nat.ne_of_lt (Nat.lt_of_lt_of_le E_b2.lt (Nat.le_of_eq g9.symm))
 have E_a := E_a.ext E9
 have W_countedPosition := W_countedPosition.ext E9
 have W_source := W_source.ext E9
 have W_limit := W_limit.ext E9
 have W_buf := W_buf.ext E9
 have W_sourceExhausted := W_sourceExhausted.ext E9
 have W_pos := W_pos.ext E9
 have W_noLineEndFrom := W_noLineEndFrom.ext E9
 have W_counted := W_counted.ext E9
 have E_s := E_s.ext E9
 have F_v := F_v.ext E9
 have F_c := F_c.ext E9
 have V_t := V_t.ext E9
 have E_b2 := E_b2.ext E9
 have S_cs := S_cs.ext E9
 have S_sio := S_sio.ext E9
 have Fl_b2 := Fl_b2.ext E9
 have Fc_b2 := Fc_b2.ext E9
 have Fa_b2 := Fa_b2.ext E9
 have G_b9 : n0 ≤ b9 := Nat.le_trans Z7 (Nat.le_of_eq g9.symm)
 have Z9 : n0 ≤ h9.size := Nat.le_trans Z7 E9.1
 have SZ_b9 : h0.size ≤ b9 := Nat.le_trans K7.1 (Nat.le_of_eq g9.symm)
 have K9 := K7.ext E9
 have V_b9 : Arv Z h9 b9 kl9 .char (5 : Int32) [(.int 0), (.int 0), (.int 0), (.int 0), (.int 0)] (.int 0) := A9.pad (pad_rep [] (.int 0) 5)
 refine gP X9 hx 40 hZ hown (host := "") (Or.inl (W 68 rfl)) Via.refl e9 W_buf E_a (Or.inl (W 69 rfl)) w6 (ty := (.array .char)) (by decide) rfl rfl (B 20 rfl) rfl (fun T10 h10 X10 e10 W10 => ?_)
 have E_a := E_a.wr W10
 have W_countedPosition := W_countedPosition.other W10 (Or.inr (sn39 hw))
 have W_source := W_source.other W10 (Or.inr (sn40 hw))
 have W_limit := W_limit.other W10 (Or.inr (sn41 hw))
 have W_buf := W_buf.same W10
 have W_sourceExhausted := W_sourceExhausted.other W10 (Or.inr (sn42 hw))
 have W_pos := W_pos.other W10 (Or.inr (sn43 hw))
 have W_noLineEndFrom := W_noLineEndFrom.other W10 (Or.inr (sn44 hw))
 have W_counted := W_counted.other W10 (Or.inr (sn45 hw))
 have E_s := E_s.wr W10
 have F_v := F_v.other W10 (Or.inl ne_s_a)
 have F_c := F_c.other W10 (Or.inl ne_s_a)
 have V_t := V_t.other W10 ne_t_a
 have E_b2 := E_b2.wr W10
 have S_cs := S_cs.wr W10
 have S_sio := S_sio.wr W10
 have Fl_b2 := Fl_b2.other W10 (Or.inl (Ne.symm ne_a_b2))
 have Fc_b2 := Fc_b2.other W10 (Or.inl (Ne.symm ne_a_b2))
 have Fa_b2 := Fa_b2.other W10 (Or.inl (Ne.symm ne_a_b2))
 have V_b9 := V_b9.other W10 (Ne.symm ne_a_b9)
 have N10 := Fr.snoc X10 N7 g_a
 have Z10 : n0 ≤ h10.size := by rw [W10.size]; exact Z9
 have K10 := K9.wr W10 (Or.inl (List.mem_of_getElem? (i := 0) rfl))
 refine ga X10 hx 41 (B 21 rfl) rfl rfl rfl ?_
 refine gk X10 hx 42 0 (B 22 rfl) rfl rfl ?_
 refine ga X10 hx 43 (B 23 rfl) rfl rfl rfl ?_
 refine gG X10 hx 46 hZ hown (host := "") (Or.inl w66) Via.refl e10 W_limit (B 24 rfl) rfl (fun T11 X11 e11 => ?_)
 refine ga X11 hx 47 (B 25 rfl) rfl rfl rfl ?_
 refine gG X11 hx 50 hZ hown (host := "") (Or.inl (W 68 rfl)) Via.refl e11 W_buf (B 26 rfl) rfl (fun T12 X12 e12 => ?_)
 refine gk X12 hx 51 0 (B 27 rfl) rfl rfl ?_
 refine gV X12 hx 54 hZ hown (W 70 rfl) (W 71 rfl) (W 73 rfl) (W 72 rfl) (W 10 rfl) (W 74 rfl) (by decide) sA E_s [(.int 0), (.int 4), (.ref b9), (.int 0)] [] (rm12 hw sA t b9 cs sio c0 c1 c2 c3 kT kl9 h10 n0 Z10 S_cs hcs S_sio hsio E_s F_v F_c V_t G_b9 V_b9 nc0 nc1 nc2 nc3 hc0 hc1 hc2 hc3 ne_t_b9) e12 0 rfl (M rfl) (lenOf pd16 rfl) (B 28 rfl) rfl rfl rfl (fun v T13 L X13 Y => ?_)
 obtain ⟨rfl, N13q, K13, V_b9⟩ := Y
 have N13 := Fr.app N10 N13q
 have E_a := E_a.keep K13
 have W_countedPosition := W_countedPosition.keep K13 (ninS ne_a_b9 nin0)
 have W_source := W_source.keep K13 (ninS ne_a_b9 nin0)
 have W_limit := W_limit.keep K13 (ninS ne_a_b9 nin0)
 have W_buf := W_buf.keep K13 (ninS ne_a_b9 nin0)
 have W_sourceExhausted := W_sourceExhausted.keep K13 (ninS ne_a_b9 nin0)
 have W_pos := W_pos.keep K13 (ninS ne_a_b9 nin0)
 have W_noLineEndFrom := W_noLineEndFrom.keep K13 (ninS ne_a_b9 nin0)
 have W_counted := W_counted.keep K13 (ninS ne_a_b9 nin0)
 have E_s := E_s.keep K13
 have F_v := F_v.keep K13 (ninS ne_sA_b9 nin0)
 have F_c := F_c.keep K13 (ninS ne_sA_b9 nin0)
 have V_t := V_t.keep K13 (ninS ne_t_b9 nin0)
 have E_b2 := E_b2.keep K13
 have Fl_b2 := Fl_b2.keep K13 (ninS ne_b2_b9 nin0)
 have Fc_b2 := Fc_b2.keep K13 (ninS ne_b2_b9 nin0)
 have Fa_b2 := Fa_b2.keep K13 (ninS ne_b2_b9 nin0)
 have KK13 := K10.trans K13 (allS (Or.inr SZ_b9) all0)
 have Z13 := Nat.le_trans Z10 K13.1
 refine ga X13 hx 55 (B 29 rfl) rfl rfl rfl ?_
 refine gk X13 hx 56 1 (B 30 rfl) rfl rfl ?_
 refine gP X13 hx 59 hZ hown (host := "") (Or.inl (W 102 rfl)) Via.refl rfl W_sourceExhausted E_a (Or.inl (W 103 rfl)) w6 (ty := .boolean) (by decide) rfl rfl (B 31 rfl) rfl (fun T14 h14 X14 e14 W14 => ?_)
 have E_a := E_a.wr W14
 have W_countedPosition := W_countedPosition.other W14 (Or.inr (sn46 hw))
 have W_source := W_source.other W14 (Or.inr (sn47 hw))
 have W_limit := W_limit.other W14 (Or.inr (sn48 hw))
 have W_buf := W_buf.other W14 (Or.inr (sn49 hw))
 have W_sourceExhausted := W_sourceExhausted.same W14
 have W_pos := W_pos.other W14 (Or.inr (sn50 hw))
 have W_noLineEndFrom := W_noLineEndFrom.other W14 (Or.inr (sn51 hw))
 have W_counted := W_counted.other W14 (Or.inr (sn52 hw))
 have E_s := E_s.wr W14
 have F_v := F_v.other W14 (Or.inl ne_s_a)
 have F_c := F_c.other W14 (Or.inl ne_s_a)
 have V_t := V_t.other W14 ne_t_a
 have E_b2 := E_b2.wr W14
 have Fl_b2 := Fl_b2.other W14 (Or.inl (Ne.symm ne_a_b2))
 have Fc_b2 := Fc_b2.other W14 (Or.inl (Ne.symm ne_a_b2))
 have Fa_b2 := Fa_b2.other W14 (Or.inl (Ne.symm ne_a_b2))
 have V_b9 := V_b9.other W14 (Ne.symm ne_a_b9)
 have N14 := Fr.snoc X14 N13 g_a
 have Z14 : n0 ≤ h14.size := by rw [W14.size]; exact Z13
 have K14 := KK13.wr W14 (Or.inl (List.mem_of_getElem? (i := 0) rfl))
 exact g_retV X14 hx hret hlk (B 32 rfl) (by decide) (by decide) (by rw [e14]; exact ⟨rfl, N14, K14, b2, b9, kl9, G_b2, SZ_b2, SZ_b9, E_a, W_countedPosition, W_limit, W_buf, W_pos, W_noLineEndFrom, W_counted, E_b2, Fl_b2, Fc_b2, Fa_b2, V_b9⟩)
def own_ea (c p : Int32) : Int32 := if own_term c = 0 then 0 else if c = 13 then 1 else if p = 13 then 0 else 1
theorem own_ea01 (c p : Int32) : own_ea c p = 0 ∨ own_ea c p = 1 := by unfold own_ea; (repeat' split) <;> first | exact Or.inl rfl | exact Or.inr rfl
theorem own_step_ea (c p : Int32) (ln : Int64) : own_step c p ln = ln + (own_ea c p).toInt64 := by
  unfold own_step own_ea own_ends
  generalize own_term c = t
  by_cases h1 : t = 0 <;> by_cases h2 : c = 13 <;> by_cases h3 : p = 13 <;> simp [h1, h2, h3]
theorem own_255 (c : Int32) : ¬ (255 : Int32) < nar .char (c &&& 255) := by
  have e : nar .char (c &&& 255) = c &&& 255 := i2c_mask c
  rw [e, Int32.lt_iff_toInt_lt]
  have a : (c &&& 255).toBitVec.toNat ≤ 255 := by
    rw [Int32.toBitVec_and, BitVec.toNat_and]; exact Nat.and_le_right
  have z : (255 : Int32).toInt = 255 := rfl
  have b : (c &&& 255).toInt = ((c &&& 255).toBitVec.toNat : Int) := by
    show (c &&& 255).toBitVec.toInt = _
    rw [BitVec.toInt_eq_toNat_cond, if_pos (by omega)]
  omega
theorem own_ab (a b : Int32) (ha : ¬ a < 0 ∧ a < 5) (hb : ¬ b < 0 ∧ b < 5 - a) : a + b = 0 ∨ a + b = 1 ∨ a + b = 2 ∨ a + b = 3 ∨ a + b = 4 := by
  have z0 : (0 : Int32).toInt = 0 := rfl
  have z5 : (5 : Int32).toInt = 5 := rfl
  rw [Int32.lt_iff_toInt_lt, Int32.lt_iff_toInt_lt] at ha hb
  have e1 : (5 - a).toInt = 5 - a.toInt := by
    rw [Int32.toInt_sub, z5, Int.bmod_eq_of_le] <;> omega
  have e2 : (a + b).toInt = a.toInt + b.toInt := by
    rw [Int32.toInt_add, Int.bmod_eq_of_le] <;> omega
  simp only [← Int32.toInt_inj, e2]
  show a.toInt + b.toInt = 0 ∨ a.toInt + b.toInt = 1 ∨ a.toInt + b.toInt = 2 ∨ a.toInt + b.toInt = 3 ∨ a.toInt + b.toInt = 4
  omega
theorem own_5a (a : Int32) (ha : ¬ a < 0 ∧ a < 5) : 0 < 5 - a := by
  have z0 : (0 : Int32).toInt = 0 := rfl
  have z5 : (5 : Int32).toInt = 5 := rfl
  rw [Int32.lt_iff_toInt_lt, Int32.lt_iff_toInt_lt] at ha
  rw [Int32.lt_iff_toInt_lt, Int32.toInt_sub, z5, Int.bmod_eq_of_le] <;> omega
theorem own_5n (a : Int32) (ha : ¬ a < 0 ∧ a < 5) : 5 - a ≠ 0 := fun q => by
  have := own_5a a ha
  rw [q] at this
  exact absurd this (by decide)
def D1 : List (Nat × Instr × Nat) := [(0, .iload_n 0, 1), (1, .sipush 256, 3), (4, .iand, 1), (5, .ifCond .eq 17, 3), (22, .iload_n 0, 1), (23, .sipush 255, 3), (26, .iand, 1), (27, .i2c, 1), (28, .ireturn, 1), (8, .iload_n 0, 1), (9, .iconst 1, 1), (10, .iand, 1), (11, .ifCond .eq 8, 3), (19, .bipush 10, 2), (21, .ireturn, 1), (14, .bipush 13, 2), (16, .goto 5, 3)]
theorem D1_ok : ∀ x ∈ D1, decode method_2_code x.1 = .ok x.2 := by decide +kernel
set_option maxRecDepth 65536 in
set_option maxHeartbeats 40000000 in
theorem rm1 {l : Launch} {Z : State} {a0 : Array Value} (hw : ∀ d ∈ tables_1, d.before a0 Z = true) (x : Int32) (h0 : Heap) (n0 : Nat) (Z0 : n0 ≤ h0.size)  :
  OwnMet l Z (⟨"gleanwell/WindowMoveByPinLaw", "ch", "(I)C"⟩ : MethodName) method_2_code 1 (some .char) [] (⟨0, 0, 0, 0⟩ : Room) [(.int x)] h0 (fun v h L => (∃ z : Int32, v = some (.int z) ∧ nar .char z = z ∧ ¬ 255 < z) ∧ Fr n0 L ∧ h = h0) := by
 refine own_body (Ls := #[I x]) (plainFor_of_name own_pn1) (fun m => by first | (simp [entryFrame, mkF, argsToLocals, Value.category]; done) | rfl) (fun p e s m below meth cO T0 hx hby hml hown hnm hret hlk hZ X0 e0 => ?_)
 have hown : s.vm.findClass "gleanwell/WindowMoveByPinLaw" = some m.cls := hown
 have B {q r} (i : Nat) := own_B (q := q) (r := r) hby D1_ok i
 have W {d : Jvm.Cond} (i : Nat) (h : tables_1[i]? = some d) : d.before a0 Z = true := own_w hw i h
 have M {n : Nat} (h : n = _) : n = cO.maxLocals := h.trans hml.symm
 have N0 := Fr.nil n0
 refine gn X0 hx 1 (B 0 rfl) rfl rfl ?_
 refine g_sipush X0 hx 4 256 (B 1 rfl) rfl rfl ?_
 refine g_iand X0 hx 5 (x &&& 256) (B 2 rfl) rfl rfl ?_
 by_cases hc1 : (x &&& 256) = 0
 ·
  refine gt X0 hx 22 (B 3 rfl) ((if0 _ _).trans (teq hc1).1) rfl ?_
  refine gn X0 hx 23 (B 4 rfl) rfl rfl ?_
  refine g_sipush X0 hx 26 255 (B 5 rfl) rfl rfl ?_
  refine g_iand X0 hx 27 (x &&& 255) (B 6 rfl) rfl rfl ?_
  refine g_i2c X0 hx 28 ((x &&& 255).toUInt32.toUInt16.toUInt32.toInt32) (B 7 rfl) rfl rfl ?_
  exact g_retC X0 hx hret hlk (Jvm.Free.XT.narrow_c _) (B 8 rfl) (by decide) (by decide) ⟨⟨_, rfl, own_nar2 _, own_255 _⟩, N0, e0⟩
 ·
  refine gf X0 hx 8 (B 3 rfl) ((if0 _ _).trans (feq hc1).1) rfl ?_
  refine gn X0 hx 9 (B 9 rfl) rfl rfl ?_
  refine gk X0 hx 10 1 (B 10 rfl) rfl rfl ?_
  refine g_iand X0 hx 11 (x &&& 1) (B 11 rfl) rfl rfl ?_
  by_cases hc2 : (x &&& 1) = 0
  ·
   refine gt X0 hx 19 (B 12 rfl) ((if0 _ _).trans (teq hc2).1) rfl ?_
   refine gb X0 hx 21 10 (B 13 rfl) rfl rfl ?_
   exact g_retC X0 hx hret hlk rfl (B 14 rfl) (by decide) (by decide) ⟨⟨_, rfl, by decide, by decide⟩, N0, e0⟩
  ·
   refine gf X0 hx 14 (B 12 rfl) ((if0 _ _).trans (feq hc2).1) rfl ?_
   refine gb X0 hx 16 13 (B 15 rfl) rfl rfl ?_
   refine gg X0 hx 21 (B 16 rfl) rfl ?_
   exact g_retC X0 hx hret hlk rfl (B 14 rfl) (by decide) (by decide) ⟨⟨_, rfl, by decide, by decide⟩, N0, e0⟩
def D22 : List (Nat × Instr × Nat) := [(0, .iload_n 1, 1), (1, .iload_n 2, 1), (2, .if_icmp .lt 5, 3), (5, .iconst 0, 1), (6, .ireturn, 1), (7, .aload_n 0, 1), (8, .iload_n 1, 1), (9, .caload, 1), (10, .istore_n 3, 1), (11, .iload_n 1, 1), (12, .ifCond .le 11, 3), (23, .iconst 0, 1), (24, .istore 4, 2), (26, .iload_n 3, 1), (27, .invokestatic 7, 3), (30, .ifCond .eq 20, 3), (50, .iconst 0, 1), (51, .ireturn, 1), (33, .iload_n 3, 1), (34, .bipush 13, 2), (36, .if_icmp .eq 10, 3), (46, .iconst 1, 1), (47, .goto 4, 3), (39, .iload 4, 2), (41, .bipush 13, 2), (43, .if_icmp .eq 7, 3), (15, .aload_n 0, 1), (16, .iload_n 1, 1), (17, .iconst 1, 1), (18, .isub, 1), (19, .caload, 1), (20, .goto 4, 3)]
theorem D22_ok : ∀ x ∈ D22, decode method_4_code x.1 = .ok x.2 := by decide +kernel
set_option maxRecDepth 65536 in
set_option maxHeartbeats 40000000 in
theorem re_0_f {l : Launch} {Z : State} {a0 : Array Value} (hw : ∀ d ∈ tables_1, d.before a0 Z = true) (b : Addr) (q : Int32) (h0 : Heap) (n0 : Nat) (Z0 : n0 ≤ h0.size) (hq : ¬ (0 : Int32) < q) :
  OwnMet l Z (⟨"gleanwell/WindowMoveByPinLaw", "endsAt", "([CII)I"⟩ : MethodName) method_4_code 5 (some .int) [] (⟨0, 0, 0, 0⟩ : Room) [(.ref b), (.int 0), (.int q)] h0 (fun v h L => v = some (.int 0) ∧ Fr n0 L ∧ h = h0) := by
 refine own_body (Ls := #[A b, I 0, I q, U, U]) (plainFor_of_name own_pn1) (fun m => by first | (simp [entryFrame, mkF, argsToLocals, Value.category]; done) | rfl) (fun p e s m below meth cO T0 hx hby hml hown hnm hret hlk hZ X0 e0 => ?_)
 have hown : s.vm.findClass "gleanwell/WindowMoveByPinLaw" = some m.cls := hown
 have B {q r} (i : Nat) := own_B (q := q) (r := r) hby D22_ok i
 have W {d : Jvm.Cond} (i : Nat) (h : tables_1[i]? = some d) : d.before a0 Z = true := own_w hw i h
 have M {n : Nat} (h : n = _) : n = cO.maxLocals := h.trans hml.symm
 have N0 := Fr.nil n0
 refine gn X0 hx 1 (B 0 rfl) rfl rfl ?_
 refine gn X0 hx 2 (B 1 rfl) rfl rfl ?_
 have hk1 : ¬ ((0 : Int32) < q) := hq
 refine gF X0 hx 5 (B 2 rfl) (flt hk1).1 rfl ?_
 refine gk X0 hx 6 0 (B 3 rfl) rfl rfl ?_
 exact g_retI X0 hx hret hlk (B 4 rfl) (by decide) (by decide) ⟨rfl, N0, e0⟩
set_option maxRecDepth 65536 in
set_option maxHeartbeats 40000000 in
theorem re_0_t {l : Launch} {Z : State} {a0 : Array Value} (hw : ∀ d ∈ tables_1, d.before a0 Z = true) (b : Addr) (q : Int32) (c0 c1 c2 c3 : Int32) (kS : ClassId) (h0 : Heap) (n0 : Nat) (Z0 : n0 ≤ h0.size) (hq : (0 : Int32) < q) (V_b : Arv Z h0 b kS .char (4 : Int32) [(.int c0), (.int c1), (.int c2), (.int c3)] (.int 0)) :
  OwnMet l Z (⟨"gleanwell/WindowMoveByPinLaw", "endsAt", "([CII)I"⟩ : MethodName) method_4_code 5 (some .int) [] (⟨1, 0, 0, 12⟩ : Room) [(.ref b), (.int 0), (.int q)] h0 (fun v h L => v = some (.int (own_ea c0 (0 : Int32))) ∧ Fr n0 L ∧ h = h0) := by
 refine own_body (Ls := #[A b, I 0, I q, U, U]) (plainFor_of_name own_pn1) (fun m => by first | (simp [entryFrame, mkF, argsToLocals, Value.category]; done) | rfl) (fun p e s m below meth cO T0 hx hby hml hown hnm hret hlk hZ X0 e0 => ?_)
 have hown : s.vm.findClass "gleanwell/WindowMoveByPinLaw" = some m.cls := hown
 have B {q r} (i : Nat) := own_B (q := q) (r := r) hby D22_ok i
 have W {d : Jvm.Cond} (i : Nat) (h : tables_1[i]? = some d) : d.before a0 Z = true := own_w hw i h
 have M {n : Nat} (h : n = _) : n = cO.maxLocals := h.trans hml.symm
 have N0 := Fr.nil n0
 refine gn X0 hx 1 (B 0 rfl) rfl rfl ?_
 refine gn X0 hx 2 (B 1 rfl) rfl rfl ?_
 have hk1 : (0 : Int32) < q := hq
 refine gT X0 hx 7 (B 2 rfl) (tlt hk1).1 rfl ?_
 refine ga X0 hx 8 (B 5 rfl) rfl rfl rfl ?_
 refine gn X0 hx 9 (B 6 rfl) rfl rfl ?_
 refine gc X0 hx 10 hZ e0 V_b c0 rfl rfl (B 7 rfl) rfl ?_
 refine g_istoreN X0 hx 11 _ (B 8 rfl) rfl rfl ?_
 refine gn X0 hx 12 (B 9 rfl) rfl rfl ?_
 refine gt X0 hx 23 (B 10 rfl) (by decide) rfl ?_
 refine gk X0 hx 24 0 (B 11 rfl) rfl rfl ?_
 refine gs X0 hx 26 #[A b, I 0, I q, I c0, I 0] (B 12 rfl) rfl rfl ?_
 refine gn X0 hx 27 (B 13 rfl) rfl rfl ?_
 refine gS X0 hx 30 hZ hown (W 116 rfl) (W 117 rfl) (W 3 rfl) (W 118 rfl) (by decide) [(.int c0)] [] (rm21 hw c0 h0 n0 Z0) e0 0 rfl (M rfl) (lenOf pd0 rfl) (B 14 rfl) rfl rfl rfl (fun v T2 L X2 Y => ?_)
 obtain ⟨rfl, N2q, e2⟩ := Y
 have N2 := Fr.app N0 N2q
 by_cases hc3 : (own_term c0) = 0
 ·
  refine gt X2 hx 50 (B 15 rfl) ((if0 _ _).trans (teq hc3).1) rfl ?_
  refine gk X2 hx 51 0 (B 16 rfl) rfl rfl ?_
  exact g_retI X2 hx hret hlk (B 17 rfl) (by decide) (by decide) ⟨by unfold own_ea; rw [if_pos hc3], N2, e2⟩
 ·
  refine gf X2 hx 33 (B 15 rfl) ((if0 _ _).trans (feq hc3).1) rfl ?_
  refine gn X2 hx 34 (B 18 rfl) rfl rfl ?_
  refine gb X2 hx 36 13 (B 19 rfl) rfl rfl ?_
  by_cases hc4 : c0 = 13
  ·
   refine gT X2 hx 46 (B 20 rfl) (teq hc4).1 rfl ?_
   refine gk X2 hx 47 1 (B 21 rfl) rfl rfl ?_
   refine gg X2 hx 51 (B 22 rfl) rfl ?_
   exact g_retI X2 hx hret hlk (B 17 rfl) (by decide) (by decide) ⟨by unfold own_ea; rw [if_neg hc3, if_pos hc4], N2, e2⟩
  ·
   refine gF X2 hx 39 (B 20 rfl) (feq hc4).1 rfl ?_
   refine gl X2 hx 41 (B 23 rfl) rfl rfl ?_
   refine gb X2 hx 43 13 (B 24 rfl) rfl rfl ?_
   refine gF X2 hx 46 (B 25 rfl) (by decide) rfl ?_
   refine gk X2 hx 47 1 (B 21 rfl) rfl rfl ?_
   refine gg X2 hx 51 (B 22 rfl) rfl ?_
   exact g_retI X2 hx hret hlk (B 17 rfl) (by decide) (by decide) ⟨by unfold own_ea; rw [if_neg hc3, if_neg hc4, if_neg (by decide)], N2, e2⟩
set_option maxRecDepth 65536 in
set_option maxHeartbeats 40000000 in
theorem re_1_f {l : Launch} {Z : State} {a0 : Array Value} (hw : ∀ d ∈ tables_1, d.before a0 Z = true) (b : Addr) (q : Int32) (h0 : Heap) (n0 : Nat) (Z0 : n0 ≤ h0.size) (hq : ¬ (1 : Int32) < q) :
  OwnMet l Z (⟨"gleanwell/WindowMoveByPinLaw", "endsAt", "([CII)I"⟩ : MethodName) method_4_code 5 (some .int) [] (⟨0, 0, 0, 0⟩ : Room) [(.ref b), (.int 1), (.int q)] h0 (fun v h L => v = some (.int 0) ∧ Fr n0 L ∧ h = h0) := by
 refine own_body (Ls := #[A b, I 1, I q, U, U]) (plainFor_of_name own_pn1) (fun m => by first | (simp [entryFrame, mkF, argsToLocals, Value.category]; done) | rfl) (fun p e s m below meth cO T0 hx hby hml hown hnm hret hlk hZ X0 e0 => ?_)
 have hown : s.vm.findClass "gleanwell/WindowMoveByPinLaw" = some m.cls := hown
 have B {q r} (i : Nat) := own_B (q := q) (r := r) hby D22_ok i
 have W {d : Jvm.Cond} (i : Nat) (h : tables_1[i]? = some d) : d.before a0 Z = true := own_w hw i h
 have M {n : Nat} (h : n = _) : n = cO.maxLocals := h.trans hml.symm
 have N0 := Fr.nil n0
 refine gn X0 hx 1 (B 0 rfl) rfl rfl ?_
 refine gn X0 hx 2 (B 1 rfl) rfl rfl ?_
 have hk1 : ¬ ((1 : Int32) < q) := hq
 refine gF X0 hx 5 (B 2 rfl) (flt hk1).1 rfl ?_
 refine gk X0 hx 6 0 (B 3 rfl) rfl rfl ?_
 exact g_retI X0 hx hret hlk (B 4 rfl) (by decide) (by decide) ⟨rfl, N0, e0⟩
set_option maxRecDepth 65536 in
set_option maxHeartbeats 40000000 in
theorem re_1_t {l : Launch} {Z : State} {a0 : Array Value} (hw : ∀ d ∈ tables_1, d.before a0 Z = true) (b : Addr) (q : Int32) (c0 c1 c2 c3 : Int32) (kS : ClassId) (h0 : Heap) (n0 : Nat) (Z0 : n0 ≤ h0.size) (hq : (1 : Int32) < q) (V_b : Arv Z h0 b kS .char (4 : Int32) [(.int c0), (.int c1), (.int c2), (.int c3)] (.int 0)) :
  OwnMet l Z (⟨"gleanwell/WindowMoveByPinLaw", "endsAt", "([CII)I"⟩ : MethodName) method_4_code 5 (some .int) [] (⟨1, 0, 0, 12⟩ : Room) [(.ref b), (.int 1), (.int q)] h0 (fun v h L => v = some (.int (own_ea c1 c0)) ∧ Fr n0 L ∧ h = h0) := by
 refine own_body (Ls := #[A b, I 1, I q, U, U]) (plainFor_of_name own_pn1) (fun m => by first | (simp [entryFrame, mkF, argsToLocals, Value.category]; done) | rfl) (fun p e s m below meth cO T0 hx hby hml hown hnm hret hlk hZ X0 e0 => ?_)
 have hown : s.vm.findClass "gleanwell/WindowMoveByPinLaw" = some m.cls := hown
 have B {q r} (i : Nat) := own_B (q := q) (r := r) hby D22_ok i
 have W {d : Jvm.Cond} (i : Nat) (h : tables_1[i]? = some d) : d.before a0 Z = true := own_w hw i h
 have M {n : Nat} (h : n = _) : n = cO.maxLocals := h.trans hml.symm
 have N0 := Fr.nil n0
 refine gn X0 hx 1 (B 0 rfl) rfl rfl ?_
 refine gn X0 hx 2 (B 1 rfl) rfl rfl ?_
 have hk1 : (1 : Int32) < q := hq
 refine gT X0 hx 7 (B 2 rfl) (tlt hk1).1 rfl ?_
 refine ga X0 hx 8 (B 5 rfl) rfl rfl rfl ?_
 refine gn X0 hx 9 (B 6 rfl) rfl rfl ?_
 refine gc X0 hx 10 hZ e0 V_b c1 rfl rfl (B 7 rfl) rfl ?_
 refine g_istoreN X0 hx 11 _ (B 8 rfl) rfl rfl ?_
 refine gn X0 hx 12 (B 9 rfl) rfl rfl ?_
 refine gf X0 hx 15 (B 10 rfl) (by decide) rfl ?_
 refine ga X0 hx 16 (B 26 rfl) rfl rfl rfl ?_
 refine gn X0 hx 17 (B 27 rfl) rfl rfl ?_
 refine gk X0 hx 18 1 (B 28 rfl) rfl rfl ?_
 refine gm X0 hx 19 (0 : Int32) (B 29 rfl) (by decide) rfl ?_
 refine gc X0 hx 20 hZ e0 V_b c0 rfl rfl (B 30 rfl) rfl ?_
 refine gg X0 hx 24 (B 31 rfl) rfl ?_
 refine gs X0 hx 26 #[A b, I 1, I q, I c1, I c0] (B 12 rfl) rfl rfl ?_
 refine gn X0 hx 27 (B 13 rfl) rfl rfl ?_
 refine gS X0 hx 30 hZ hown (W 116 rfl) (W 117 rfl) (W 3 rfl) (W 118 rfl) (by decide) [(.int c1)] [] (rm21 hw c1 h0 n0 Z0) e0 0 rfl (M rfl) (lenOf pd0 rfl) (B 14 rfl) rfl rfl rfl (fun v T2 L X2 Y => ?_)
 obtain ⟨rfl, N2q, e2⟩ := Y
 have N2 := Fr.app N0 N2q
 by_cases hc3 : (own_term c1) = 0
 ·
  refine gt X2 hx 50 (B 15 rfl) ((if0 _ _).trans (teq hc3).1) rfl ?_
  refine gk X2 hx 51 0 (B 16 rfl) rfl rfl ?_
  exact g_retI X2 hx hret hlk (B 17 rfl) (by decide) (by decide) ⟨by unfold own_ea; rw [if_pos hc3], N2, e2⟩
 ·
  refine gf X2 hx 33 (B 15 rfl) ((if0 _ _).trans (feq hc3).1) rfl ?_
  refine gn X2 hx 34 (B 18 rfl) rfl rfl ?_
  refine gb X2 hx 36 13 (B 19 rfl) rfl rfl ?_
  by_cases hc4 : c1 = 13
  ·
   refine gT X2 hx 46 (B 20 rfl) (teq hc4).1 rfl ?_
   refine gk X2 hx 47 1 (B 21 rfl) rfl rfl ?_
   refine gg X2 hx 51 (B 22 rfl) rfl ?_
   exact g_retI X2 hx hret hlk (B 17 rfl) (by decide) (by decide) ⟨by unfold own_ea; rw [if_neg hc3, if_pos hc4], N2, e2⟩
  ·
   refine gF X2 hx 39 (B 20 rfl) (feq hc4).1 rfl ?_
   refine gl X2 hx 41 (B 23 rfl) rfl rfl ?_
   refine gb X2 hx 43 13 (B 24 rfl) rfl rfl ?_
   by_cases hc5 : c0 = 13
   ·
    refine gT X2 hx 50 (B 25 rfl) (teq hc5).1 rfl ?_
    refine gk X2 hx 51 0 (B 16 rfl) rfl rfl ?_
    exact g_retI X2 hx hret hlk (B 17 rfl) (by decide) (by decide) ⟨by unfold own_ea; rw [if_neg hc3, if_neg hc4, if_pos hc5], N2, e2⟩
   ·
    refine gF X2 hx 46 (B 25 rfl) (feq hc5).1 rfl ?_
    refine gk X2 hx 47 1 (B 21 rfl) rfl rfl ?_
    refine gg X2 hx 51 (B 22 rfl) rfl ?_
    exact g_retI X2 hx hret hlk (B 17 rfl) (by decide) (by decide) ⟨by unfold own_ea; rw [if_neg hc3, if_neg hc4, if_neg hc5], N2, e2⟩
set_option maxRecDepth 65536 in
set_option maxHeartbeats 40000000 in
theorem re_2_f {l : Launch} {Z : State} {a0 : Array Value} (hw : ∀ d ∈ tables_1, d.before a0 Z = true) (b : Addr) (q : Int32) (h0 : Heap) (n0 : Nat) (Z0 : n0 ≤ h0.size) (hq : ¬ (2 : Int32) < q) :
  OwnMet l Z (⟨"gleanwell/WindowMoveByPinLaw", "endsAt", "([CII)I"⟩ : MethodName) method_4_code 5 (some .int) [] (⟨0, 0, 0, 0⟩ : Room) [(.ref b), (.int 2), (.int q)] h0 (fun v h L => v = some (.int 0) ∧ Fr n0 L ∧ h = h0) := by
 refine own_body (Ls := #[A b, I 2, I q, U, U]) (plainFor_of_name own_pn1) (fun m => by first | (simp [entryFrame, mkF, argsToLocals, Value.category]; done) | rfl) (fun p e s m below meth cO T0 hx hby hml hown hnm hret hlk hZ X0 e0 => ?_)
 have hown : s.vm.findClass "gleanwell/WindowMoveByPinLaw" = some m.cls := hown
 have B {q r} (i : Nat) := own_B (q := q) (r := r) hby D22_ok i
 have W {d : Jvm.Cond} (i : Nat) (h : tables_1[i]? = some d) : d.before a0 Z = true := own_w hw i h
 have M {n : Nat} (h : n = _) : n = cO.maxLocals := h.trans hml.symm
 have N0 := Fr.nil n0
 refine gn X0 hx 1 (B 0 rfl) rfl rfl ?_
 refine gn X0 hx 2 (B 1 rfl) rfl rfl ?_
 have hk1 : ¬ ((2 : Int32) < q) := hq
 refine gF X0 hx 5 (B 2 rfl) (flt hk1).1 rfl ?_
 refine gk X0 hx 6 0 (B 3 rfl) rfl rfl ?_
 exact g_retI X0 hx hret hlk (B 4 rfl) (by decide) (by decide) ⟨rfl, N0, e0⟩
set_option maxRecDepth 65536 in
set_option maxHeartbeats 40000000 in
theorem re_2_t {l : Launch} {Z : State} {a0 : Array Value} (hw : ∀ d ∈ tables_1, d.before a0 Z = true) (b : Addr) (q : Int32) (c0 c1 c2 c3 : Int32) (kS : ClassId) (h0 : Heap) (n0 : Nat) (Z0 : n0 ≤ h0.size) (hq : (2 : Int32) < q) (V_b : Arv Z h0 b kS .char (4 : Int32) [(.int c0), (.int c1), (.int c2), (.int c3)] (.int 0)) :
  OwnMet l Z (⟨"gleanwell/WindowMoveByPinLaw", "endsAt", "([CII)I"⟩ : MethodName) method_4_code 5 (some .int) [] (⟨1, 0, 0, 12⟩ : Room) [(.ref b), (.int 2), (.int q)] h0 (fun v h L => v = some (.int (own_ea c2 c1)) ∧ Fr n0 L ∧ h = h0) := by
 refine own_body (Ls := #[A b, I 2, I q, U, U]) (plainFor_of_name own_pn1) (fun m => by first | (simp [entryFrame, mkF, argsToLocals, Value.category]; done) | rfl) (fun p e s m below meth cO T0 hx hby hml hown hnm hret hlk hZ X0 e0 => ?_)
 have hown : s.vm.findClass "gleanwell/WindowMoveByPinLaw" = some m.cls := hown
 have B {q r} (i : Nat) := own_B (q := q) (r := r) hby D22_ok i
 have W {d : Jvm.Cond} (i : Nat) (h : tables_1[i]? = some d) : d.before a0 Z = true := own_w hw i h
 have M {n : Nat} (h : n = _) : n = cO.maxLocals := h.trans hml.symm
 have N0 := Fr.nil n0
 refine gn X0 hx 1 (B 0 rfl) rfl rfl ?_
 refine gn X0 hx 2 (B 1 rfl) rfl rfl ?_
 have hk1 : (2 : Int32) < q := hq
 refine gT X0 hx 7 (B 2 rfl) (tlt hk1).1 rfl ?_
 refine ga X0 hx 8 (B 5 rfl) rfl rfl rfl ?_
 refine gn X0 hx 9 (B 6 rfl) rfl rfl ?_
 refine gc X0 hx 10 hZ e0 V_b c2 rfl rfl (B 7 rfl) rfl ?_
 refine g_istoreN X0 hx 11 _ (B 8 rfl) rfl rfl ?_
 refine gn X0 hx 12 (B 9 rfl) rfl rfl ?_
 refine gf X0 hx 15 (B 10 rfl) (by decide) rfl ?_
 refine ga X0 hx 16 (B 26 rfl) rfl rfl rfl ?_
 refine gn X0 hx 17 (B 27 rfl) rfl rfl ?_
 refine gk X0 hx 18 1 (B 28 rfl) rfl rfl ?_
 refine gm X0 hx 19 (1 : Int32) (B 29 rfl) (by decide) rfl ?_
 refine gc X0 hx 20 hZ e0 V_b c1 rfl rfl (B 30 rfl) rfl ?_
 refine gg X0 hx 24 (B 31 rfl) rfl ?_
 refine gs X0 hx 26 #[A b, I 2, I q, I c2, I c1] (B 12 rfl) rfl rfl ?_
 refine gn X0 hx 27 (B 13 rfl) rfl rfl ?_
 refine gS X0 hx 30 hZ hown (W 116 rfl) (W 117 rfl) (W 3 rfl) (W 118 rfl) (by decide) [(.int c2)] [] (rm21 hw c2 h0 n0 Z0) e0 0 rfl (M rfl) (lenOf pd0 rfl) (B 14 rfl) rfl rfl rfl (fun v T2 L X2 Y => ?_)
 obtain ⟨rfl, N2q, e2⟩ := Y
 have N2 := Fr.app N0 N2q
 by_cases hc3 : (own_term c2) = 0
 ·
  refine gt X2 hx 50 (B 15 rfl) ((if0 _ _).trans (teq hc3).1) rfl ?_
  refine gk X2 hx 51 0 (B 16 rfl) rfl rfl ?_
  exact g_retI X2 hx hret hlk (B 17 rfl) (by decide) (by decide) ⟨by unfold own_ea; rw [if_pos hc3], N2, e2⟩
 ·
  refine gf X2 hx 33 (B 15 rfl) ((if0 _ _).trans (feq hc3).1) rfl ?_
  refine gn X2 hx 34 (B 18 rfl) rfl rfl ?_
  refine gb X2 hx 36 13 (B 19 rfl) rfl rfl ?_
  by_cases hc4 : c2 = 13
  ·
   refine gT X2 hx 46 (B 20 rfl) (teq hc4).1 rfl ?_
   refine gk X2 hx 47 1 (B 21 rfl) rfl rfl ?_
   refine gg X2 hx 51 (B 22 rfl) rfl ?_
   exact g_retI X2 hx hret hlk (B 17 rfl) (by decide) (by decide) ⟨by unfold own_ea; rw [if_neg hc3, if_pos hc4], N2, e2⟩
  ·
   refine gF X2 hx 39 (B 20 rfl) (feq hc4).1 rfl ?_
   refine gl X2 hx 41 (B 23 rfl) rfl rfl ?_
   refine gb X2 hx 43 13 (B 24 rfl) rfl rfl ?_
   by_cases hc5 : c1 = 13
   ·
    refine gT X2 hx 50 (B 25 rfl) (teq hc5).1 rfl ?_
    refine gk X2 hx 51 0 (B 16 rfl) rfl rfl ?_
    exact g_retI X2 hx hret hlk (B 17 rfl) (by decide) (by decide) ⟨by unfold own_ea; rw [if_neg hc3, if_neg hc4, if_pos hc5], N2, e2⟩
   ·
    refine gF X2 hx 46 (B 25 rfl) (feq hc5).1 rfl ?_
    refine gk X2 hx 47 1 (B 21 rfl) rfl rfl ?_
    refine gg X2 hx 51 (B 22 rfl) rfl ?_
    exact g_retI X2 hx hret hlk (B 17 rfl) (by decide) (by decide) ⟨by unfold own_ea; rw [if_neg hc3, if_neg hc4, if_neg hc5], N2, e2⟩
set_option maxRecDepth 65536 in
set_option maxHeartbeats 40000000 in
theorem re_3_f {l : Launch} {Z : State} {a0 : Array Value} (hw : ∀ d ∈ tables_1, d.before a0 Z = true) (b : Addr) (q : Int32) (h0 : Heap) (n0 : Nat) (Z0 : n0 ≤ h0.size) (hq : ¬ (3 : Int32) < q) :
  OwnMet l Z (⟨"gleanwell/WindowMoveByPinLaw", "endsAt", "([CII)I"⟩ : MethodName) method_4_code 5 (some .int) [] (⟨0, 0, 0, 0⟩ : Room) [(.ref b), (.int 3), (.int q)] h0 (fun v h L => v = some (.int 0) ∧ Fr n0 L ∧ h = h0) := by
 refine own_body (Ls := #[A b, I 3, I q, U, U]) (plainFor_of_name own_pn1) (fun m => by first | (simp [entryFrame, mkF, argsToLocals, Value.category]; done) | rfl) (fun p e s m below meth cO T0 hx hby hml hown hnm hret hlk hZ X0 e0 => ?_)
 have hown : s.vm.findClass "gleanwell/WindowMoveByPinLaw" = some m.cls := hown
 have B {q r} (i : Nat) := own_B (q := q) (r := r) hby D22_ok i
 have W {d : Jvm.Cond} (i : Nat) (h : tables_1[i]? = some d) : d.before a0 Z = true := own_w hw i h
 have M {n : Nat} (h : n = _) : n = cO.maxLocals := h.trans hml.symm
 have N0 := Fr.nil n0
 refine gn X0 hx 1 (B 0 rfl) rfl rfl ?_
 refine gn X0 hx 2 (B 1 rfl) rfl rfl ?_
 have hk1 : ¬ ((3 : Int32) < q) := hq
 refine gF X0 hx 5 (B 2 rfl) (flt hk1).1 rfl ?_
 refine gk X0 hx 6 0 (B 3 rfl) rfl rfl ?_
 exact g_retI X0 hx hret hlk (B 4 rfl) (by decide) (by decide) ⟨rfl, N0, e0⟩
set_option maxRecDepth 65536 in
set_option maxHeartbeats 40000000 in
theorem re_3_t {l : Launch} {Z : State} {a0 : Array Value} (hw : ∀ d ∈ tables_1, d.before a0 Z = true) (b : Addr) (q : Int32) (c0 c1 c2 c3 : Int32) (kS : ClassId) (h0 : Heap) (n0 : Nat) (Z0 : n0 ≤ h0.size) (hq : (3 : Int32) < q) (V_b : Arv Z h0 b kS .char (4 : Int32) [(.int c0), (.int c1), (.int c2), (.int c3)] (.int 0)) :
  OwnMet l Z (⟨"gleanwell/WindowMoveByPinLaw", "endsAt", "([CII)I"⟩ : MethodName) method_4_code 5 (some .int) [] (⟨1, 0, 0, 12⟩ : Room) [(.ref b), (.int 3), (.int q)] h0 (fun v h L => v = some (.int (own_ea c3 c2)) ∧ Fr n0 L ∧ h = h0) := by
 refine own_body (Ls := #[A b, I 3, I q, U, U]) (plainFor_of_name own_pn1) (fun m => by first | (simp [entryFrame, mkF, argsToLocals, Value.category]; done) | rfl) (fun p e s m below meth cO T0 hx hby hml hown hnm hret hlk hZ X0 e0 => ?_)
 have hown : s.vm.findClass "gleanwell/WindowMoveByPinLaw" = some m.cls := hown
 have B {q r} (i : Nat) := own_B (q := q) (r := r) hby D22_ok i
 have W {d : Jvm.Cond} (i : Nat) (h : tables_1[i]? = some d) : d.before a0 Z = true := own_w hw i h
 have M {n : Nat} (h : n = _) : n = cO.maxLocals := h.trans hml.symm
 have N0 := Fr.nil n0
 refine gn X0 hx 1 (B 0 rfl) rfl rfl ?_
 refine gn X0 hx 2 (B 1 rfl) rfl rfl ?_
 have hk1 : (3 : Int32) < q := hq
 refine gT X0 hx 7 (B 2 rfl) (tlt hk1).1 rfl ?_
 refine ga X0 hx 8 (B 5 rfl) rfl rfl rfl ?_
 refine gn X0 hx 9 (B 6 rfl) rfl rfl ?_
 refine gc X0 hx 10 hZ e0 V_b c3 rfl rfl (B 7 rfl) rfl ?_
 refine g_istoreN X0 hx 11 _ (B 8 rfl) rfl rfl ?_
 refine gn X0 hx 12 (B 9 rfl) rfl rfl ?_
 refine gf X0 hx 15 (B 10 rfl) (by decide) rfl ?_
 refine ga X0 hx 16 (B 26 rfl) rfl rfl rfl ?_
 refine gn X0 hx 17 (B 27 rfl) rfl rfl ?_
 refine gk X0 hx 18 1 (B 28 rfl) rfl rfl ?_
 refine gm X0 hx 19 (2 : Int32) (B 29 rfl) (by decide) rfl ?_
 refine gc X0 hx 20 hZ e0 V_b c2 rfl rfl (B 30 rfl) rfl ?_
 refine gg X0 hx 24 (B 31 rfl) rfl ?_
 refine gs X0 hx 26 #[A b, I 3, I q, I c3, I c2] (B 12 rfl) rfl rfl ?_
 refine gn X0 hx 27 (B 13 rfl) rfl rfl ?_
 refine gS X0 hx 30 hZ hown (W 116 rfl) (W 117 rfl) (W 3 rfl) (W 118 rfl) (by decide) [(.int c3)] [] (rm21 hw c3 h0 n0 Z0) e0 0 rfl (M rfl) (lenOf pd0 rfl) (B 14 rfl) rfl rfl rfl (fun v T2 L X2 Y => ?_)
 obtain ⟨rfl, N2q, e2⟩ := Y
 have N2 := Fr.app N0 N2q
 by_cases hc3 : (own_term c3) = 0
 ·
  refine gt X2 hx 50 (B 15 rfl) ((if0 _ _).trans (teq hc3).1) rfl ?_
  refine gk X2 hx 51 0 (B 16 rfl) rfl rfl ?_
  exact g_retI X2 hx hret hlk (B 17 rfl) (by decide) (by decide) ⟨by unfold own_ea; rw [if_pos hc3], N2, e2⟩
 ·
  refine gf X2 hx 33 (B 15 rfl) ((if0 _ _).trans (feq hc3).1) rfl ?_
  refine gn X2 hx 34 (B 18 rfl) rfl rfl ?_
  refine gb X2 hx 36 13 (B 19 rfl) rfl rfl ?_
  by_cases hc4 : c3 = 13
  ·
   refine gT X2 hx 46 (B 20 rfl) (teq hc4).1 rfl ?_
   refine gk X2 hx 47 1 (B 21 rfl) rfl rfl ?_
   refine gg X2 hx 51 (B 22 rfl) rfl ?_
   exact g_retI X2 hx hret hlk (B 17 rfl) (by decide) (by decide) ⟨by unfold own_ea; rw [if_neg hc3, if_pos hc4], N2, e2⟩
  ·
   refine gF X2 hx 39 (B 20 rfl) (feq hc4).1 rfl ?_
   refine gl X2 hx 41 (B 23 rfl) rfl rfl ?_
   refine gb X2 hx 43 13 (B 24 rfl) rfl rfl ?_
   by_cases hc5 : c2 = 13
   ·
    refine gT X2 hx 50 (B 25 rfl) (teq hc5).1 rfl ?_
    refine gk X2 hx 51 0 (B 16 rfl) rfl rfl ?_
    exact g_retI X2 hx hret hlk (B 17 rfl) (by decide) (by decide) ⟨by unfold own_ea; rw [if_neg hc3, if_neg hc4, if_pos hc5], N2, e2⟩
   ·
    refine gF X2 hx 46 (B 25 rfl) (feq hc5).1 rfl ?_
    refine gk X2 hx 47 1 (B 21 rfl) rfl rfl ?_
    refine gg X2 hx 51 (B 22 rfl) rfl ?_
    exact g_retI X2 hx hret hlk (B 17 rfl) (by decide) (by decide) ⟨by unfold own_ea; rw [if_neg hc3, if_neg hc4, if_neg hc5], N2, e2⟩
set_option maxRecDepth 65536 in
set_option maxHeartbeats 40000000 in
theorem rp_same {l : Launch} {Z : State} {a0 : Array Value} (hw : ∀ d ∈ tables_1, d.before a0 Z = true) (a b : Addr) (f : Int32) (h0 : Heap) (n0 : Nat) (Z0 : n0 ≤ h0.size)  :
  OwnMet l Z (⟨"gleanwell/Position", "pass", "([CII)V"⟩ : MethodName) prog_33_method_9_code 11 none [] (⟨0, 0, 0, 0⟩ : Room) [(.ref a), (.ref b), (.int f), (.int f)] h0 (fun v h L => v = none ∧ Fr n0 L ∧ h = h0) := by
 refine own_body (Ls := #[A a, A b, I f, I f, U, U, U, U, U, U, U]) (plainFor_of_name own_pn0) (fun m => by first | (simp [entryFrame, mkF, argsToLocals, Value.category]; done) | rfl) (fun p e s m below meth cO T0 hx hby hml hown hnm hret hlk hZ X0 e0 => ?_)
 have hown : s.vm.findClass "gleanwell/Position" = some m.cls := hown
 have B {q r} (i : Nat) := own_B (q := q) (r := r) hby D24_ok i
 have W {d : Jvm.Cond} (i : Nat) (h : tables_1[i]? = some d) : d.before a0 Z = true := own_w hw i h
 have M {n : Nat} (h : n = _) : n = cO.maxLocals := h.trans hml.symm
 have N0 := Fr.nil n0
 refine gn X0 hx 1 (B 82 rfl) rfl rfl ?_
 refine gn X0 hx 2 (B 83 rfl) rfl rfl ?_
 have hk1 : ¬ (f < f) := Int32.lt_irrefl
 refine gF X0 hx 5 (B 84 rfl) (flt hk1).1 rfl ?_
 exact g_retV X0 hx hret hlk (B 94 rfl) (by decide) (by decide) ⟨rfl, N0, e0⟩
def D27 : List (Nat × Instr × Nat) := [(0, .new 8, 3), (3, .dup, 1), (4, .invokespecial 20, 3), (7, .astore_n 1, 1), (8, .aload_n 1, 1), (9, .aload_n 0, 1), (10, .getfield 7, 3), (13, .putfield 7, 3), (16, .aload_n 1, 1), (17, .aload_n 0, 1), (18, .getfield 13, 3), (21, .putfield 13, 3), (24, .aload_n 1, 1), (25, .aload_n 0, 1), (26, .getfield 16, 3), (29, .putfield 16, 3), (32, .aload_n 1, 1), (33, .areturn, 1)]
theorem D27_ok : ∀ x ∈ D27, decode prog_33_method_8_code x.1 = .ok x.2 := by decide +kernel
set_option maxRecDepth 65536 in
set_option maxHeartbeats 40000000 in
theorem rm27 {l : Launch} {Z : State} {a0 : Array Value} (hw : ∀ d ∈ tables_1, d.before a0 Z = true) (a : Addr) (ln co : Int64) (la : Int32) (h0 : Heap) (n0 : Nat) (Z0 : n0 ≤ h0.size) (hla : nar .char la = la) (E_a : Exa Z h0 a "gleanwell/Position") (F_ln : Fld Z h0 a "gleanwell/Position" "line" "J" (.long ln)) (F_co : Fld Z h0 a "gleanwell/Position" "column" "J" (.long co)) (F_la : Fld Z h0 a "gleanwell/Position" "last" "C" (.int la)) :
  OwnMet l Z (⟨"gleanwell/Position", "copy", "()Lgleanwell/Position;"⟩ : MethodName) prog_33_method_8_code 2 (some (.object "gleanwell/Position")) [] (⟨2, 1, 3, 25⟩ : Room) [(.ref a)] h0 (fun v h L => ∃ p, v = some (.ref p) ∧ Fr n0 L ∧ Keep h0 h [] ∧ Exa Z h p "gleanwell/Position" ∧ Fld Z h p "gleanwell/Position" "line" "J" (.long ln) ∧ Fld Z h p "gleanwell/Position" "column" "J" (.long co) ∧ Fld Z h p "gleanwell/Position" "last" "C" (.int la)) := by
 refine own_body (Ls := #[A a, U]) (plainFor_of_name own_pn0) (fun m => by first | (simp [entryFrame, mkF, argsToLocals, Value.category]; done) | rfl) (fun p e s m below meth cO T0 hx hby hml hown hnm hret hlk hZ X0 e0 => ?_)
 have hown : s.vm.findClass "gleanwell/Position" = some m.cls := hown
 have B {q r} (i : Nat) := own_B (q := q) (r := r) hby D27_ok i
 have W {d : Jvm.Cond} (i : Nat) (h : tables_1[i]? = some d) : d.before a0 Z = true := own_w hw i h
 have w42 := W 42 rfl
 have M {n : Nat} (h : n = _) : n = cO.maxLocals := h.trans hml.symm
 have N0 := Fr.nil n0
 have K0 := Keep.refl h0 []
 refine g_new X0 hx 3 hZ hown (W 149 rfl) w42 (W 43 rfl) e0 (B 0 rfl) (by decide) (by decide) rfl (fun T1 h1 b1 g1 X1 e1 E1 A1 D1 => ?_)
 have ne_a_b1 : a ≠ b1 := Nat.ne_of_lt (Nat.lt_of_lt_of_le E_a.lt (Nat.le_of_eq g1.symm))
 have E_a := E_a.ext E1
 have F_ln := F_ln.ext E1
 have F_co := F_co.ext E1
 have F_la := F_la.ext E1
 have G_b1 : n0 ≤ b1 := Nat.le_trans Z0 (Nat.le_of_eq g1.symm)
 have Z1 : n0 ≤ h1.size := Nat.le_trans Z0 E1.1
 have SZ_b1 : h0.size ≤ b1 := Nat.le_trans K0.1 (Nat.le_of_eq g1.symm)
 have K1 := K0.ext E1
 have E_b1 : Exa Z h1 b1 "gleanwell/Position" := A1
 have F_b1_line : Fld Z h1 b1 "gleanwell/Position" "line" "J" (.long (0 : Int64)) := D1 (Or.inl (W 49 rfl)) (ty := .long) (by decide)
 have F_b1_column : Fld Z h1 b1 "gleanwell/Position" "column" "J" (.long (0 : Int64)) := D1 (Or.inl (W 51 rfl)) (ty := .long) (by decide)
 have F_b1_last : Fld Z h1 b1 "gleanwell/Position" "last" "C" (.int 0) := D1 (Or.inl (W 143 rfl)) (ty := .char) (by decide)
 refine g_dup X1 hx 4 (B 1 rfl) rfl rfl ?_
 refine g_callI X1 hx 7 hZ rfl hown (W 150 rfl) (W 45 rfl) (W 43 rfl) (W 46 rfl) (by decide) b1 [] [(.ref b1)] (rm9 hw b1 _ _ h1 n0 Z1 G_b1 E_b1 F_b1_line F_b1_column F_b1_last) e1 1 (by decide) (by decide) (by decide) (by decide) (by rw [hml]; rfl) (lenOf pd15 rfl) (B 2 rfl) rfl (Nat.le_of_eq rfl) rfl (fun v T2 L X2 Y => ?_)
 obtain ⟨rfl, N2q, K2, E2x, Fl_b1, Fc_b1, Fa_b1⟩ := Y
 have N2 := Fr.app N0 N2q
 have E_a := E_a.keep K2
 have F_ln := F_ln.keep K2 (ninS ne_a_b1 nin0)
 have F_co := F_co.keep K2 (ninS ne_a_b1 nin0)
 have F_la := F_la.keep K2 (ninS ne_a_b1 nin0)
 have E_b1 := E_b1.keep K2
 have KK2 := K1.trans K2 (allS (Or.inr SZ_b1) all0)
 have Z2 := Nat.le_trans Z1 K2.1
 refine g_astoreN X2 hx 8 _ (B 3 rfl) rfl rfl rfl ?_
 refine ga X2 hx 9 (B 4 rfl) rfl rfl rfl ?_
 refine ga X2 hx 10 (B 5 rfl) rfl rfl rfl ?_
 refine gG X2 hx 13 hZ hown (host := "") (Or.inl (W 48 rfl)) Via.refl rfl F_ln (B 6 rfl) rfl (fun T3 X3 e3 => ?_)
 refine gP X3 hx 16 hZ hown (host := "") (Or.inl (W 48 rfl)) Via.refl e3 Fl_b1 E_b1 (Or.inl (W 49 rfl)) w42 (ty := .long) (by decide) rfl rfl (B 7 rfl) rfl (fun T4 h4 X4 e4 W4 => ?_)
 have E_a := E_a.wr W4
 have F_ln := F_ln.other W4 (Or.inl ne_a_b1)
 have F_co := F_co.other W4 (Or.inl ne_a_b1)
 have F_la := F_la.other W4 (Or.inl ne_a_b1)
 have E_b1 := E_b1.wr W4
 have Fl_b1 := Fl_b1.same W4
 have Fc_b1 := Fc_b1.other W4 (Or.inr (sn0 hw))
 have Fa_b1 := Fa_b1.other W4 (Or.inr (sn1 hw))
 have N4 := Fr.snoc X4 N2 G_b1
 have Z4 : n0 ≤ h4.size := by rw [W4.size]; exact Z2
 have K4 := KK2.wr W4 (Or.inr SZ_b1)
 refine ga X4 hx 17 (B 8 rfl) rfl rfl rfl ?_
 refine ga X4 hx 18 (B 9 rfl) rfl rfl rfl ?_
 refine gG X4 hx 21 hZ hown (host := "") (Or.inl (W 50 rfl)) Via.refl e4 F_co (B 10 rfl) rfl (fun T5 X5 e5 => ?_)
 refine gP X5 hx 24 hZ hown (host := "") (Or.inl (W 50 rfl)) Via.refl e5 Fc_b1 E_b1 (Or.inl (W 51 rfl)) w42 (ty := .long) (by decide) rfl rfl (B 11 rfl) rfl (fun T6 h6 X6 e6 W6 => ?_)
 have E_a := E_a.wr W6
 have F_ln := F_ln.other W6 (Or.inl ne_a_b1)
 have F_co := F_co.other W6 (Or.inl ne_a_b1)
 have F_la := F_la.other W6 (Or.inl ne_a_b1)
 have E_b1 := E_b1.wr W6
 have Fl_b1 := Fl_b1.other W6 (Or.inr (sn2 hw))
 have Fc_b1 := Fc_b1.same W6
 have Fa_b1 := Fa_b1.other W6 (Or.inr (sn3 hw))
 have N6 := Fr.snoc X6 N4 G_b1
 have Z6 : n0 ≤ h6.size := by rw [W6.size]; exact Z4
 have K6 := K4.wr W6 (Or.inr SZ_b1)
 refine ga X6 hx 25 (B 12 rfl) rfl rfl rfl ?_
 refine ga X6 hx 26 (B 13 rfl) rfl rfl rfl ?_
 refine gG X6 hx 29 hZ hown (host := "") (Or.inl (W 142 rfl)) Via.refl e6 F_la (B 14 rfl) rfl (fun T7 X7 e7 => ?_)
 refine gP X7 hx 32 hZ hown (host := "") (Or.inl (W 142 rfl)) Via.refl e7 Fa_b1 E_b1 (Or.inl (W 143 rfl)) w42 (ty := .char) (by decide) (own_nrw hla) (own_fit hla) (B 15 rfl) rfl (fun T8 h8 X8 e8 W8 => ?_)
 have E_a := E_a.wr W8
 have F_ln := F_ln.other W8 (Or.inl ne_a_b1)
 have F_co := F_co.other W8 (Or.inl ne_a_b1)
 have F_la := F_la.other W8 (Or.inl ne_a_b1)
 have E_b1 := E_b1.wr W8
 have Fl_b1 := Fl_b1.other W8 (Or.inr (sn4 hw))
 have Fc_b1 := Fc_b1.other W8 (Or.inr (sn5 hw))
 have Fa_b1 := Fa_b1.same W8
 have N8 := Fr.snoc X8 N6 G_b1
 have Z8 : n0 ≤ h8.size := by rw [W8.size]; exact Z6
 have K8 := K6.wr W8 (Or.inr SZ_b1)
 refine ga X8 hx 33 (B 16 rfl) rfl rfl rfl ?_
 exact g_retA X8 hx hret hlk rfl rfl rfl (B 17 rfl) (by decide) (by decide) (by rw [e8]; exact ⟨b1, rfl, N8, K8, E_b1, Fl_b1, Fc_b1, Fa_b1⟩)
def D32 : List (Nat × Instr × Nat) := [(0, .iload_n 3, 1), (1, .ifCond .lt 73, 3), (4, .aload_n 0, 1), (5, .getfield 50, 3), (8, .aload_n 0, 1), (9, .getfield 47, 3), (12, .if_icmp .ge 22, 3), (34, .aload_n 0, 1), (35, .getfield 12, 3), (38, .iload_n 2, 1), (39, .i2l, 1), (40, .aload_n 0, 1), (41, .getfield 32, 3), (44, .aload_n 0, 1), (45, .getfield 44, 3), (48, .iload_n 3, 1), (49, .iadd, 1), (50, .iconst 1, 1), (51, .isub, 1), (52, .caload, 1), (53, .invokevirtual 57, 3), (56, .aload_n 0, 1), (57, .aload_n 0, 1), (58, .getfield 44, 3), (61, .iload_n 3, 1), (62, .iadd, 1), (63, .putfield 50, 3), (66, .aload_n 0, 1), (67, .aload_n 0, 1), (68, .getfield 50, 3), (71, .putfield 47, 3), (74, .aload_n 0, 1), (75, .dup, 1), (76, .getfield 44, 3), (79, .iload_n 1, 1), (80, .iadd, 1), (81, .putfield 44, 3), (84, .return_, 1), (15, .aload_n 0, 1), (16, .getfield 12, 3), (19, .aload_n 0, 1), (20, .getfield 32, 3), (23, .aload_n 0, 1), (24, .getfield 50, 3), (27, .aload_n 0, 1), (28, .getfield 47, 3), (31, .invokevirtual 53, 3)]
theorem D32_ok : ∀ x ∈ D32, decode prog_52_method_4_code x.1 = .ok x.2 := by decide +kernel
theorem pd17 : parseMethodDescriptor "(JC)V" = some ⟨[.long, .char], none⟩ := by decide +kernel
set_option maxRecDepth 65536 in
set_option maxHeartbeats 40000000 in
theorem mo_0_0 {l : Launch} {Z : State} {a0 : Array Value} (hw : ∀ d ∈ tables_1, d.before a0 Z = true) (a cp bf : Addr) (en : Int32) (c0 c1 c2 c3 : Int32) (kF : ClassId) (h0 : Heap) (n0 : Nat) (Z0 : n0 ≤ h0.size) (g_a : n0 ≤ a) (g_cp : n0 ≤ cp) (E_a : Exa Z h0 a "gleanwell/Window") (W_countedPosition : Fld Z h0 a "gleanwell/Window" "countedPosition" "Lgleanwell/Position;" (.ref cp)) (W_limit : Fld Z h0 a "gleanwell/Window" "limit" "I" (.int 4)) (W_buf : Fld Z h0 a "gleanwell/Window" "buf" "[C" (.ref bf)) (W_pos : Fld Z h0 a "gleanwell/Window" "pos" "I" (.int 0)) (W_noLineEndFrom : Fld Z h0 a "gleanwell/Window" "noLineEndFrom" "I" (.int 0)) (W_counted : Fld Z h0 a "gleanwell/Window" "counted" "I" (.int 0)) (E_cp : Exa Z h0 cp "gleanwell/Position") (F_ln : Fld Z h0 cp "gleanwell/Position" "line" "J" (.long 1)) (F_co : Fld Z h0 cp "gleanwell/Position" "column" "J" (.long 1)) (F_la : Fld Z h0 cp "gleanwell/Position" "last" "C" (.int 0)) (V_bf : Arv Z h0 bf kF .char (5 : Int32) [(.int c0), (.int c1), (.int c2), (.int c3), (.int 0)] (.int 0)) (nc0 : nar .char c0 = c0) (nc1 : nar .char c1 = c1) (nc2 : nar .char c2 = c2) (nc3 : nar .char c3 = c3) (hc0 : ¬ 255 < c0) (hc1 : ¬ 255 < c1) (hc2 : ¬ 255 < c2) (hc3 : ¬ 255 < c3) :
  OwnMet l Z (⟨"gleanwell/Window", "moveOverLines", "(III)V"⟩ : MethodName) prog_52_method_4_code 4 none [] (⟨3, 0, 0, 48⟩ : Room) [(.ref a), (.int 1), (.int en), (.int 1)] h0 (fun v h L => v = none ∧ Fr n0 L ∧ Keep h0 h [a, cp] ∧ Exa Z h a "gleanwell/Window" ∧ Fld Z h a "gleanwell/Window" "countedPosition" "Lgleanwell/Position;" (.ref cp) ∧ Fld Z h a "gleanwell/Window" "limit" "I" (.int 4) ∧ Fld Z h a "gleanwell/Window" "buf" "[C" (.ref bf) ∧ Fld Z h a "gleanwell/Window" "pos" "I" (.int 1) ∧ Fld Z h a "gleanwell/Window" "noLineEndFrom" "I" (.int 1) ∧ Fld Z h a "gleanwell/Window" "counted" "I" (.int 1) ∧ Exa Z h cp "gleanwell/Position" ∧ Fld Z h cp "gleanwell/Position" "line" "J" (.long ((1 : Int64) + en.toInt64)) ∧ Fld Z h cp "gleanwell/Position" "column" "J" (.long 1) ∧ Fld Z h cp "gleanwell/Position" "last" "C" (.int c0)) := by
 refine own_body (Ls := #[A a, I 1, I en, I 1]) (plainFor_of_name own_pn7) (fun m => by first | (simp [entryFrame, mkF, argsToLocals, Value.category]; done) | rfl) (fun p e s m below meth cO T0 hx hby hml hown hnm hret hlk hZ X0 e0 => ?_)
 have hown : s.vm.findClass "gleanwell/Window" = some m.cls := hown
 have B {q r} (i : Nat) := own_B (q := q) (r := r) hby D32_ok i
 have W {d : Jvm.Cond} (i : Nat) (h : tables_1[i]? = some d) : d.before a0 Z = true := own_w hw i h
 have w6 := W 6 rfl
 have w110 := W 110 rfl
 have M {n : Nat} (h : n = _) : n = cO.maxLocals := h.trans hml.symm
 have N0 := Fr.nil n0
 have K0 := Keep.refl h0 [a, cp]
 have ne_cp_a : cp ≠ a := Ne.symm (ne_exa E_a E_cp (by decide))
 have ne_bf_a : bf ≠ a := Ne.symm (Exa.neArv E_a V_bf w6)
 have ne_bf_cp : bf ≠ cp := Ne.symm (Exa.neArv E_cp V_bf (W 42 rfl))
 refine gn X0 hx 1 (B 0 rfl) rfl rfl ?_
 refine gf X0 hx 4 (B 1 rfl) (by decide) rfl ?_
 refine ga X0 hx 5 (B 2 rfl) rfl rfl rfl ?_
 refine gG X0 hx 8 hZ hown (host := "") (Or.inl (W 127 rfl)) Via.refl e0 W_counted (B 3 rfl) rfl (fun T1 X1 e1 => ?_)
 refine ga X1 hx 9 (B 4 rfl) rfl rfl rfl ?_
 refine gG X1 hx 12 hZ hown (host := "") (Or.inl (W 112 rfl)) Via.refl e1 W_noLineEndFrom (B 5 rfl) rfl (fun T2 X2 e2 => ?_)
 refine gT X2 hx 34 (B 6 rfl) (by decide) rfl ?_
 refine ga X2 hx 35 (B 7 rfl) rfl rfl rfl ?_
 refine gG X2 hx 38 hZ hown (host := "") (Or.inl (W 52 rfl)) Via.refl e2 W_countedPosition (B 8 rfl) rfl (fun T3 X3 e3 => ?_)
 refine gn X3 hx 39 (B 9 rfl) rfl rfl ?_
 refine gL X3 hx 40 (en.toInt64) (B 10 rfl) rfl rfl ?_
 refine ga X3 hx 41 (B 11 rfl) rfl rfl rfl ?_
 refine gG X3 hx 44 hZ hown (host := "") (Or.inl (W 68 rfl)) Via.refl e3 W_buf (B 12 rfl) rfl (fun T4 X4 e4 => ?_)
 refine ga X4 hx 45 (B 13 rfl) rfl rfl rfl ?_
 refine gG X4 hx 48 hZ hown (host := "") (Or.inl w110) Via.refl e4 W_pos (B 14 rfl) rfl (fun T5 X5 e5 => ?_)
 refine gn X5 hx 49 (B 15 rfl) rfl rfl ?_
 refine gp X5 hx 50 (1 : Int32) (B 16 rfl) (by decide) rfl ?_
 refine gk X5 hx 51 1 (B 17 rfl) rfl rfl ?_
 refine gm X5 hx 52 (0 : Int32) (B 18 rfl) (by decide) rfl ?_
 refine gc X5 hx 53 hZ e5 V_bf c0 rfl rfl (B 19 rfl) rfl ?_
 refine gV X5 hx 56 hZ hown (W 173 rfl) (W 174 rfl) (W 176 rfl) (W 175 rfl) (W 43 rfl) (W 177 rfl) (by decide) cp E_cp [(.long (en.toInt64)), (.int c0)] [] (rm33 hw cp (en.toInt64) (1 : Int64) c0 _ _ h0 n0 Z0 g_cp nc0 E_cp F_ln F_co F_la) e5 0 rfl (M rfl) (lenOf pd17 rfl) (B 20 rfl) rfl rfl rfl (fun v T6 L X6 Y => ?_)
 obtain ⟨rfl, N6q, K6, E6x, Fl6, Fc6, Fa6⟩ := Y
 have N6 := Fr.app N0 N6q
 have E_a := E_a.keep K6
 have W_countedPosition := W_countedPosition.keep K6 (ninS (Ne.symm ne_cp_a) nin0)
 have W_limit := W_limit.keep K6 (ninS (Ne.symm ne_cp_a) nin0)
 have W_buf := W_buf.keep K6 (ninS (Ne.symm ne_cp_a) nin0)
 have W_pos := W_pos.keep K6 (ninS (Ne.symm ne_cp_a) nin0)
 have W_noLineEndFrom := W_noLineEndFrom.keep K6 (ninS (Ne.symm ne_cp_a) nin0)
 have W_counted := W_counted.keep K6 (ninS (Ne.symm ne_cp_a) nin0)
 have E_cp := E_cp.keep K6
 have V_bf := V_bf.keep K6 (ninS ne_bf_cp nin0)
 have KK6 := K0.trans K6 (allS (Or.inl (List.mem_of_getElem? (i := 1) rfl)) all0)
 have Z6 := Nat.le_trans Z0 K6.1
 refine ga X6 hx 57 (B 21 rfl) rfl rfl rfl ?_
 refine ga X6 hx 58 (B 22 rfl) rfl rfl rfl ?_
 refine gG X6 hx 61 hZ hown (host := "") (Or.inl w110) Via.refl rfl W_pos (B 23 rfl) rfl (fun T7 X7 e7 => ?_)
 refine gn X7 hx 62 (B 24 rfl) rfl rfl ?_
 refine gp X7 hx 63 (1 : Int32) (B 25 rfl) (by decide) rfl ?_
 refine gP X7 hx 66 hZ hown (host := "") (Or.inl (W 127 rfl)) Via.refl e7 W_counted E_a (Or.inl (W 128 rfl)) w6 (ty := .int) (by decide) rfl rfl (B 26 rfl) rfl (fun T8 h8 X8 e8 W8 => ?_)
 have E_a := E_a.wr W8
 have W_countedPosition := W_countedPosition.other W8 (Or.inr (sn53 hw))
 have W_limit := W_limit.other W8 (Or.inr (sn54 hw))
 have W_buf := W_buf.other W8 (Or.inr (sn55 hw))
 have W_pos := W_pos.other W8 (Or.inr (sn56 hw))
 have W_noLineEndFrom := W_noLineEndFrom.other W8 (Or.inr (sn57 hw))
 have W_counted := W_counted.same W8
 have E_cp := E_cp.wr W8
 have V_bf := V_bf.other W8 ne_bf_a
 have Fl6 := Fl6.other W8 (Or.inl ne_cp_a)
 have Fc6 := Fc6.other W8 (Or.inl ne_cp_a)
 have Fa6 := Fa6.other W8 (Or.inl ne_cp_a)
 have N8 := Fr.snoc X8 N6 g_a
 have Z8 : n0 ≤ h8.size := by rw [W8.size]; exact Z6
 have K8 := KK6.wr W8 (Or.inl (List.mem_of_getElem? (i := 0) rfl))
 refine ga X8 hx 67 (B 27 rfl) rfl rfl rfl ?_
 refine ga X8 hx 68 (B 28 rfl) rfl rfl rfl ?_
 refine gG X8 hx 71 hZ hown (host := "") (Or.inl (W 127 rfl)) Via.refl e8 W_counted (B 29 rfl) rfl (fun T9 X9 e9 => ?_)
 refine gP X9 hx 74 hZ hown (host := "") (Or.inl (W 112 rfl)) Via.refl e9 W_noLineEndFrom E_a (Or.inl (W 113 rfl)) w6 (ty := .int) (by decide) rfl rfl (B 30 rfl) rfl (fun T10 h10 X10 e10 W10 => ?_)
 have E_a := E_a.wr W10
 have W_countedPosition := W_countedPosition.other W10 (Or.inr (sn13 hw))
 have W_limit := W_limit.other W10 (Or.inr (sn14 hw))
 have W_buf := W_buf.other W10 (Or.inr (sn15 hw))
 have W_pos := W_pos.other W10 (Or.inr (sn16 hw))
 have W_noLineEndFrom := W_noLineEndFrom.same W10
 have W_counted := W_counted.other W10 (Or.inr (sn17 hw))
 have E_cp := E_cp.wr W10
 have V_bf := V_bf.other W10 ne_bf_a
 have Fl6 := Fl6.other W10 (Or.inl ne_cp_a)
 have Fc6 := Fc6.other W10 (Or.inl ne_cp_a)
 have Fa6 := Fa6.other W10 (Or.inl ne_cp_a)
 have N10 := Fr.snoc X10 N8 g_a
 have Z10 : n0 ≤ h10.size := by rw [W10.size]; exact Z8
 have K10 := K8.wr W10 (Or.inl (List.mem_of_getElem? (i := 0) rfl))
 refine ga X10 hx 75 (B 31 rfl) rfl rfl rfl ?_
 refine g_dup X10 hx 76 (B 32 rfl) rfl rfl ?_
 refine gG X10 hx 79 hZ hown (host := "") (Or.inl w110) Via.refl e10 W_pos (B 33 rfl) rfl (fun T11 X11 e11 => ?_)
 refine gn X11 hx 80 (B 34 rfl) rfl rfl ?_
 refine gp X11 hx 81 (1 : Int32) (B 35 rfl) (by decide) rfl ?_
 refine gP X11 hx 84 hZ hown (host := "") (Or.inl w110) Via.refl e11 W_pos E_a (Or.inl (W 111 rfl)) w6 (ty := .int) (by decide) rfl rfl (B 36 rfl) rfl (fun T12 h12 X12 e12 W12 => ?_)
 have E_a := E_a.wr W12
 have W_countedPosition := W_countedPosition.other W12 (Or.inr (sn8 hw))
 have W_limit := W_limit.other W12 (Or.inr (sn9 hw))
 have W_buf := W_buf.other W12 (Or.inr (sn10 hw))
 have W_pos := W_pos.same W12
 have W_noLineEndFrom := W_noLineEndFrom.other W12 (Or.inr (sn11 hw))
 have W_counted := W_counted.other W12 (Or.inr (sn12 hw))
 have E_cp := E_cp.wr W12
 have V_bf := V_bf.other W12 ne_bf_a
 have Fl6 := Fl6.other W12 (Or.inl ne_cp_a)
 have Fc6 := Fc6.other W12 (Or.inl ne_cp_a)
 have Fa6 := Fa6.other W12 (Or.inl ne_cp_a)
 have N12 := Fr.snoc X12 N10 g_a
 have Z12 : n0 ≤ h12.size := by rw [W12.size]; exact Z10
 have K12 := K10.wr W12 (Or.inl (List.mem_of_getElem? (i := 0) rfl))
 exact g_retV X12 hx hret hlk (B 37 rfl) (by decide) (by decide) (by rw [e12]; exact ⟨rfl, N12, K12, E_a, W_countedPosition, W_limit, W_buf, W_pos, W_noLineEndFrom, W_counted, E_cp, Fl6, Fc6, Fa6⟩)
set_option maxRecDepth 65536 in
set_option maxHeartbeats 40000000 in
theorem mo_0_1 {l : Launch} {Z : State} {a0 : Array Value} (hw : ∀ d ∈ tables_1, d.before a0 Z = true) (a cp bf : Addr) (en : Int32) (c0 c1 c2 c3 : Int32) (kF : ClassId) (h0 : Heap) (n0 : Nat) (Z0 : n0 ≤ h0.size) (g_a : n0 ≤ a) (g_cp : n0 ≤ cp) (E_a : Exa Z h0 a "gleanwell/Window") (W_countedPosition : Fld Z h0 a "gleanwell/Window" "countedPosition" "Lgleanwell/Position;" (.ref cp)) (W_limit : Fld Z h0 a "gleanwell/Window" "limit" "I" (.int 4)) (W_buf : Fld Z h0 a "gleanwell/Window" "buf" "[C" (.ref bf)) (W_pos : Fld Z h0 a "gleanwell/Window" "pos" "I" (.int 0)) (W_noLineEndFrom : Fld Z h0 a "gleanwell/Window" "noLineEndFrom" "I" (.int 0)) (W_counted : Fld Z h0 a "gleanwell/Window" "counted" "I" (.int 0)) (E_cp : Exa Z h0 cp "gleanwell/Position") (F_ln : Fld Z h0 cp "gleanwell/Position" "line" "J" (.long 1)) (F_co : Fld Z h0 cp "gleanwell/Position" "column" "J" (.long 1)) (F_la : Fld Z h0 cp "gleanwell/Position" "last" "C" (.int 0)) (V_bf : Arv Z h0 bf kF .char (5 : Int32) [(.int c0), (.int c1), (.int c2), (.int c3), (.int 0)] (.int 0)) (nc0 : nar .char c0 = c0) (nc1 : nar .char c1 = c1) (nc2 : nar .char c2 = c2) (nc3 : nar .char c3 = c3) (hc0 : ¬ 255 < c0) (hc1 : ¬ 255 < c1) (hc2 : ¬ 255 < c2) (hc3 : ¬ 255 < c3) :
  OwnMet l Z (⟨"gleanwell/Window", "moveOverLines", "(III)V"⟩ : MethodName) prog_52_method_4_code 4 none [] (⟨3, 0, 0, 48⟩ : Room) [(.ref a), (.int 2), (.int en), (.int 2)] h0 (fun v h L => v = none ∧ Fr n0 L ∧ Keep h0 h [a, cp] ∧ Exa Z h a "gleanwell/Window" ∧ Fld Z h a "gleanwell/Window" "countedPosition" "Lgleanwell/Position;" (.ref cp) ∧ Fld Z h a "gleanwell/Window" "limit" "I" (.int 4) ∧ Fld Z h a "gleanwell/Window" "buf" "[C" (.ref bf) ∧ Fld Z h a "gleanwell/Window" "pos" "I" (.int 2) ∧ Fld Z h a "gleanwell/Window" "noLineEndFrom" "I" (.int 2) ∧ Fld Z h a "gleanwell/Window" "counted" "I" (.int 2) ∧ Exa Z h cp "gleanwell/Position" ∧ Fld Z h cp "gleanwell/Position" "line" "J" (.long ((1 : Int64) + en.toInt64)) ∧ Fld Z h cp "gleanwell/Position" "column" "J" (.long 1) ∧ Fld Z h cp "gleanwell/Position" "last" "C" (.int c1)) := by
 refine own_body (Ls := #[A a, I 2, I en, I 2]) (plainFor_of_name own_pn7) (fun m => by first | (simp [entryFrame, mkF, argsToLocals, Value.category]; done) | rfl) (fun p e s m below meth cO T0 hx hby hml hown hnm hret hlk hZ X0 e0 => ?_)
 have hown : s.vm.findClass "gleanwell/Window" = some m.cls := hown
 have B {q r} (i : Nat) := own_B (q := q) (r := r) hby D32_ok i
 have W {d : Jvm.Cond} (i : Nat) (h : tables_1[i]? = some d) : d.before a0 Z = true := own_w hw i h
 have w6 := W 6 rfl
 have w110 := W 110 rfl
 have M {n : Nat} (h : n = _) : n = cO.maxLocals := h.trans hml.symm
 have N0 := Fr.nil n0
 have K0 := Keep.refl h0 [a, cp]
 have ne_cp_a : cp ≠ a := Ne.symm (ne_exa E_a E_cp (by decide))
 have ne_bf_a : bf ≠ a := Ne.symm (Exa.neArv E_a V_bf w6)
 have ne_bf_cp : bf ≠ cp := Ne.symm (Exa.neArv E_cp V_bf (W 42 rfl))
 refine gn X0 hx 1 (B 0 rfl) rfl rfl ?_
 refine gf X0 hx 4 (B 1 rfl) (by decide) rfl ?_
 refine ga X0 hx 5 (B 2 rfl) rfl rfl rfl ?_
 refine gG X0 hx 8 hZ hown (host := "") (Or.inl (W 127 rfl)) Via.refl e0 W_counted (B 3 rfl) rfl (fun T1 X1 e1 => ?_)
 refine ga X1 hx 9 (B 4 rfl) rfl rfl rfl ?_
 refine gG X1 hx 12 hZ hown (host := "") (Or.inl (W 112 rfl)) Via.refl e1 W_noLineEndFrom (B 5 rfl) rfl (fun T2 X2 e2 => ?_)
 refine gT X2 hx 34 (B 6 rfl) (by decide) rfl ?_
 refine ga X2 hx 35 (B 7 rfl) rfl rfl rfl ?_
 refine gG X2 hx 38 hZ hown (host := "") (Or.inl (W 52 rfl)) Via.refl e2 W_countedPosition (B 8 rfl) rfl (fun T3 X3 e3 => ?_)
 refine gn X3 hx 39 (B 9 rfl) rfl rfl ?_
 refine gL X3 hx 40 (en.toInt64) (B 10 rfl) rfl rfl ?_
 refine ga X3 hx 41 (B 11 rfl) rfl rfl rfl ?_
 refine gG X3 hx 44 hZ hown (host := "") (Or.inl (W 68 rfl)) Via.refl e3 W_buf (B 12 rfl) rfl (fun T4 X4 e4 => ?_)
 refine ga X4 hx 45 (B 13 rfl) rfl rfl rfl ?_
 refine gG X4 hx 48 hZ hown (host := "") (Or.inl w110) Via.refl e4 W_pos (B 14 rfl) rfl (fun T5 X5 e5 => ?_)
 refine gn X5 hx 49 (B 15 rfl) rfl rfl ?_
 refine gp X5 hx 50 (2 : Int32) (B 16 rfl) (by decide) rfl ?_
 refine gk X5 hx 51 1 (B 17 rfl) rfl rfl ?_
 refine gm X5 hx 52 (1 : Int32) (B 18 rfl) (by decide) rfl ?_
 refine gc X5 hx 53 hZ e5 V_bf c1 rfl rfl (B 19 rfl) rfl ?_
 refine gV X5 hx 56 hZ hown (W 173 rfl) (W 174 rfl) (W 176 rfl) (W 175 rfl) (W 43 rfl) (W 177 rfl) (by decide) cp E_cp [(.long (en.toInt64)), (.int c1)] [] (rm33 hw cp (en.toInt64) (1 : Int64) c1 _ _ h0 n0 Z0 g_cp nc1 E_cp F_ln F_co F_la) e5 0 rfl (M rfl) (lenOf pd17 rfl) (B 20 rfl) rfl rfl rfl (fun v T6 L X6 Y => ?_)
 obtain ⟨rfl, N6q, K6, E6x, Fl6, Fc6, Fa6⟩ := Y
 have N6 := Fr.app N0 N6q
 have E_a := E_a.keep K6
 have W_countedPosition := W_countedPosition.keep K6 (ninS (Ne.symm ne_cp_a) nin0)
 have W_limit := W_limit.keep K6 (ninS (Ne.symm ne_cp_a) nin0)
 have W_buf := W_buf.keep K6 (ninS (Ne.symm ne_cp_a) nin0)
 have W_pos := W_pos.keep K6 (ninS (Ne.symm ne_cp_a) nin0)
 have W_noLineEndFrom := W_noLineEndFrom.keep K6 (ninS (Ne.symm ne_cp_a) nin0)
 have W_counted := W_counted.keep K6 (ninS (Ne.symm ne_cp_a) nin0)
 have E_cp := E_cp.keep K6
 have V_bf := V_bf.keep K6 (ninS ne_bf_cp nin0)
 have KK6 := K0.trans K6 (allS (Or.inl (List.mem_of_getElem? (i := 1) rfl)) all0)
 have Z6 := Nat.le_trans Z0 K6.1
 refine ga X6 hx 57 (B 21 rfl) rfl rfl rfl ?_
 refine ga X6 hx 58 (B 22 rfl) rfl rfl rfl ?_
 refine gG X6 hx 61 hZ hown (host := "") (Or.inl w110) Via.refl rfl W_pos (B 23 rfl) rfl (fun T7 X7 e7 => ?_)
 refine gn X7 hx 62 (B 24 rfl) rfl rfl ?_
 refine gp X7 hx 63 (2 : Int32) (B 25 rfl) (by decide) rfl ?_
 refine gP X7 hx 66 hZ hown (host := "") (Or.inl (W 127 rfl)) Via.refl e7 W_counted E_a (Or.inl (W 128 rfl)) w6 (ty := .int) (by decide) rfl rfl (B 26 rfl) rfl (fun T8 h8 X8 e8 W8 => ?_)
 have E_a := E_a.wr W8
 have W_countedPosition := W_countedPosition.other W8 (Or.inr (sn53 hw))
 have W_limit := W_limit.other W8 (Or.inr (sn54 hw))
 have W_buf := W_buf.other W8 (Or.inr (sn55 hw))
 have W_pos := W_pos.other W8 (Or.inr (sn56 hw))
 have W_noLineEndFrom := W_noLineEndFrom.other W8 (Or.inr (sn57 hw))
 have W_counted := W_counted.same W8
 have E_cp := E_cp.wr W8
 have V_bf := V_bf.other W8 ne_bf_a
 have Fl6 := Fl6.other W8 (Or.inl ne_cp_a)
 have Fc6 := Fc6.other W8 (Or.inl ne_cp_a)
 have Fa6 := Fa6.other W8 (Or.inl ne_cp_a)
 have N8 := Fr.snoc X8 N6 g_a
 have Z8 : n0 ≤ h8.size := by rw [W8.size]; exact Z6
 have K8 := KK6.wr W8 (Or.inl (List.mem_of_getElem? (i := 0) rfl))
 refine ga X8 hx 67 (B 27 rfl) rfl rfl rfl ?_
 refine ga X8 hx 68 (B 28 rfl) rfl rfl rfl ?_
 refine gG X8 hx 71 hZ hown (host := "") (Or.inl (W 127 rfl)) Via.refl e8 W_counted (B 29 rfl) rfl (fun T9 X9 e9 => ?_)
 refine gP X9 hx 74 hZ hown (host := "") (Or.inl (W 112 rfl)) Via.refl e9 W_noLineEndFrom E_a (Or.inl (W 113 rfl)) w6 (ty := .int) (by decide) rfl rfl (B 30 rfl) rfl (fun T10 h10 X10 e10 W10 => ?_)
 have E_a := E_a.wr W10
 have W_countedPosition := W_countedPosition.other W10 (Or.inr (sn13 hw))
 have W_limit := W_limit.other W10 (Or.inr (sn14 hw))
 have W_buf := W_buf.other W10 (Or.inr (sn15 hw))
 have W_pos := W_pos.other W10 (Or.inr (sn16 hw))
 have W_noLineEndFrom := W_noLineEndFrom.same W10
 have W_counted := W_counted.other W10 (Or.inr (sn17 hw))
 have E_cp := E_cp.wr W10
 have V_bf := V_bf.other W10 ne_bf_a
 have Fl6 := Fl6.other W10 (Or.inl ne_cp_a)
 have Fc6 := Fc6.other W10 (Or.inl ne_cp_a)
 have Fa6 := Fa6.other W10 (Or.inl ne_cp_a)
 have N10 := Fr.snoc X10 N8 g_a
 have Z10 : n0 ≤ h10.size := by rw [W10.size]; exact Z8
 have K10 := K8.wr W10 (Or.inl (List.mem_of_getElem? (i := 0) rfl))
 refine ga X10 hx 75 (B 31 rfl) rfl rfl rfl ?_
 refine g_dup X10 hx 76 (B 32 rfl) rfl rfl ?_
 refine gG X10 hx 79 hZ hown (host := "") (Or.inl w110) Via.refl e10 W_pos (B 33 rfl) rfl (fun T11 X11 e11 => ?_)
 refine gn X11 hx 80 (B 34 rfl) rfl rfl ?_
 refine gp X11 hx 81 (2 : Int32) (B 35 rfl) (by decide) rfl ?_
 refine gP X11 hx 84 hZ hown (host := "") (Or.inl w110) Via.refl e11 W_pos E_a (Or.inl (W 111 rfl)) w6 (ty := .int) (by decide) rfl rfl (B 36 rfl) rfl (fun T12 h12 X12 e12 W12 => ?_)
 have E_a := E_a.wr W12
 have W_countedPosition := W_countedPosition.other W12 (Or.inr (sn8 hw))
 have W_limit := W_limit.other W12 (Or.inr (sn9 hw))
 have W_buf := W_buf.other W12 (Or.inr (sn10 hw))
 have W_pos := W_pos.same W12
 have W_noLineEndFrom := W_noLineEndFrom.other W12 (Or.inr (sn11 hw))
 have W_counted := W_counted.other W12 (Or.inr (sn12 hw))
 have E_cp := E_cp.wr W12
 have V_bf := V_bf.other W12 ne_bf_a
 have Fl6 := Fl6.other W12 (Or.inl ne_cp_a)
 have Fc6 := Fc6.other W12 (Or.inl ne_cp_a)
 have Fa6 := Fa6.other W12 (Or.inl ne_cp_a)
 have N12 := Fr.snoc X12 N10 g_a
 have Z12 : n0 ≤ h12.size := by rw [W12.size]; exact Z10
 have K12 := K10.wr W12 (Or.inl (List.mem_of_getElem? (i := 0) rfl))
 exact g_retV X12 hx hret hlk (B 37 rfl) (by decide) (by decide) (by rw [e12]; exact ⟨rfl, N12, K12, E_a, W_countedPosition, W_limit, W_buf, W_pos, W_noLineEndFrom, W_counted, E_cp, Fl6, Fc6, Fa6⟩)
set_option maxRecDepth 65536 in
set_option maxHeartbeats 40000000 in
theorem mo_0_2 {l : Launch} {Z : State} {a0 : Array Value} (hw : ∀ d ∈ tables_1, d.before a0 Z = true) (a cp bf : Addr) (en : Int32) (c0 c1 c2 c3 : Int32) (kF : ClassId) (h0 : Heap) (n0 : Nat) (Z0 : n0 ≤ h0.size) (g_a : n0 ≤ a) (g_cp : n0 ≤ cp) (E_a : Exa Z h0 a "gleanwell/Window") (W_countedPosition : Fld Z h0 a "gleanwell/Window" "countedPosition" "Lgleanwell/Position;" (.ref cp)) (W_limit : Fld Z h0 a "gleanwell/Window" "limit" "I" (.int 4)) (W_buf : Fld Z h0 a "gleanwell/Window" "buf" "[C" (.ref bf)) (W_pos : Fld Z h0 a "gleanwell/Window" "pos" "I" (.int 0)) (W_noLineEndFrom : Fld Z h0 a "gleanwell/Window" "noLineEndFrom" "I" (.int 0)) (W_counted : Fld Z h0 a "gleanwell/Window" "counted" "I" (.int 0)) (E_cp : Exa Z h0 cp "gleanwell/Position") (F_ln : Fld Z h0 cp "gleanwell/Position" "line" "J" (.long 1)) (F_co : Fld Z h0 cp "gleanwell/Position" "column" "J" (.long 1)) (F_la : Fld Z h0 cp "gleanwell/Position" "last" "C" (.int 0)) (V_bf : Arv Z h0 bf kF .char (5 : Int32) [(.int c0), (.int c1), (.int c2), (.int c3), (.int 0)] (.int 0)) (nc0 : nar .char c0 = c0) (nc1 : nar .char c1 = c1) (nc2 : nar .char c2 = c2) (nc3 : nar .char c3 = c3) (hc0 : ¬ 255 < c0) (hc1 : ¬ 255 < c1) (hc2 : ¬ 255 < c2) (hc3 : ¬ 255 < c3) :
  OwnMet l Z (⟨"gleanwell/Window", "moveOverLines", "(III)V"⟩ : MethodName) prog_52_method_4_code 4 none [] (⟨3, 0, 0, 48⟩ : Room) [(.ref a), (.int 3), (.int en), (.int 3)] h0 (fun v h L => v = none ∧ Fr n0 L ∧ Keep h0 h [a, cp] ∧ Exa Z h a "gleanwell/Window" ∧ Fld Z h a "gleanwell/Window" "countedPosition" "Lgleanwell/Position;" (.ref cp) ∧ Fld Z h a "gleanwell/Window" "limit" "I" (.int 4) ∧ Fld Z h a "gleanwell/Window" "buf" "[C" (.ref bf) ∧ Fld Z h a "gleanwell/Window" "pos" "I" (.int 3) ∧ Fld Z h a "gleanwell/Window" "noLineEndFrom" "I" (.int 3) ∧ Fld Z h a "gleanwell/Window" "counted" "I" (.int 3) ∧ Exa Z h cp "gleanwell/Position" ∧ Fld Z h cp "gleanwell/Position" "line" "J" (.long ((1 : Int64) + en.toInt64)) ∧ Fld Z h cp "gleanwell/Position" "column" "J" (.long 1) ∧ Fld Z h cp "gleanwell/Position" "last" "C" (.int c2)) := by
 refine own_body (Ls := #[A a, I 3, I en, I 3]) (plainFor_of_name own_pn7) (fun m => by first | (simp [entryFrame, mkF, argsToLocals, Value.category]; done) | rfl) (fun p e s m below meth cO T0 hx hby hml hown hnm hret hlk hZ X0 e0 => ?_)
 have hown : s.vm.findClass "gleanwell/Window" = some m.cls := hown
 have B {q r} (i : Nat) := own_B (q := q) (r := r) hby D32_ok i
 have W {d : Jvm.Cond} (i : Nat) (h : tables_1[i]? = some d) : d.before a0 Z = true := own_w hw i h
 have w6 := W 6 rfl
 have w110 := W 110 rfl
 have M {n : Nat} (h : n = _) : n = cO.maxLocals := h.trans hml.symm
 have N0 := Fr.nil n0
 have K0 := Keep.refl h0 [a, cp]
 have ne_cp_a : cp ≠ a := Ne.symm (ne_exa E_a E_cp (by decide))
 have ne_bf_a : bf ≠ a := Ne.symm (Exa.neArv E_a V_bf w6)
 have ne_bf_cp : bf ≠ cp := Ne.symm (Exa.neArv E_cp V_bf (W 42 rfl))
 refine gn X0 hx 1 (B 0 rfl) rfl rfl ?_
 refine gf X0 hx 4 (B 1 rfl) (by decide) rfl ?_
 refine ga X0 hx 5 (B 2 rfl) rfl rfl rfl ?_
 refine gG X0 hx 8 hZ hown (host := "") (Or.inl (W 127 rfl)) Via.refl e0 W_counted (B 3 rfl) rfl (fun T1 X1 e1 => ?_)
 refine ga X1 hx 9 (B 4 rfl) rfl rfl rfl ?_
 refine gG X1 hx 12 hZ hown (host := "") (Or.inl (W 112 rfl)) Via.refl e1 W_noLineEndFrom (B 5 rfl) rfl (fun T2 X2 e2 => ?_)
 refine gT X2 hx 34 (B 6 rfl) (by decide) rfl ?_
 refine ga X2 hx 35 (B 7 rfl) rfl rfl rfl ?_
 refine gG X2 hx 38 hZ hown (host := "") (Or.inl (W 52 rfl)) Via.refl e2 W_countedPosition (B 8 rfl) rfl (fun T3 X3 e3 => ?_)
 refine gn X3 hx 39 (B 9 rfl) rfl rfl ?_
 refine gL X3 hx 40 (en.toInt64) (B 10 rfl) rfl rfl ?_
 refine ga X3 hx 41 (B 11 rfl) rfl rfl rfl ?_
 refine gG X3 hx 44 hZ hown (host := "") (Or.inl (W 68 rfl)) Via.refl e3 W_buf (B 12 rfl) rfl (fun T4 X4 e4 => ?_)
 refine ga X4 hx 45 (B 13 rfl) rfl rfl rfl ?_
 refine gG X4 hx 48 hZ hown (host := "") (Or.inl w110) Via.refl e4 W_pos (B 14 rfl) rfl (fun T5 X5 e5 => ?_)
 refine gn X5 hx 49 (B 15 rfl) rfl rfl ?_
 refine gp X5 hx 50 (3 : Int32) (B 16 rfl) (by decide) rfl ?_
 refine gk X5 hx 51 1 (B 17 rfl) rfl rfl ?_
 refine gm X5 hx 52 (2 : Int32) (B 18 rfl) (by decide) rfl ?_
 refine gc X5 hx 53 hZ e5 V_bf c2 rfl rfl (B 19 rfl) rfl ?_
 refine gV X5 hx 56 hZ hown (W 173 rfl) (W 174 rfl) (W 176 rfl) (W 175 rfl) (W 43 rfl) (W 177 rfl) (by decide) cp E_cp [(.long (en.toInt64)), (.int c2)] [] (rm33 hw cp (en.toInt64) (1 : Int64) c2 _ _ h0 n0 Z0 g_cp nc2 E_cp F_ln F_co F_la) e5 0 rfl (M rfl) (lenOf pd17 rfl) (B 20 rfl) rfl rfl rfl (fun v T6 L X6 Y => ?_)
 obtain ⟨rfl, N6q, K6, E6x, Fl6, Fc6, Fa6⟩ := Y
 have N6 := Fr.app N0 N6q
 have E_a := E_a.keep K6
 have W_countedPosition := W_countedPosition.keep K6 (ninS (Ne.symm ne_cp_a) nin0)
 have W_limit := W_limit.keep K6 (ninS (Ne.symm ne_cp_a) nin0)
 have W_buf := W_buf.keep K6 (ninS (Ne.symm ne_cp_a) nin0)
 have W_pos := W_pos.keep K6 (ninS (Ne.symm ne_cp_a) nin0)
 have W_noLineEndFrom := W_noLineEndFrom.keep K6 (ninS (Ne.symm ne_cp_a) nin0)
 have W_counted := W_counted.keep K6 (ninS (Ne.symm ne_cp_a) nin0)
 have E_cp := E_cp.keep K6
 have V_bf := V_bf.keep K6 (ninS ne_bf_cp nin0)
 have KK6 := K0.trans K6 (allS (Or.inl (List.mem_of_getElem? (i := 1) rfl)) all0)
 have Z6 := Nat.le_trans Z0 K6.1
 refine ga X6 hx 57 (B 21 rfl) rfl rfl rfl ?_
 refine ga X6 hx 58 (B 22 rfl) rfl rfl rfl ?_
 refine gG X6 hx 61 hZ hown (host := "") (Or.inl w110) Via.refl rfl W_pos (B 23 rfl) rfl (fun T7 X7 e7 => ?_)
 refine gn X7 hx 62 (B 24 rfl) rfl rfl ?_
 refine gp X7 hx 63 (3 : Int32) (B 25 rfl) (by decide) rfl ?_
 refine gP X7 hx 66 hZ hown (host := "") (Or.inl (W 127 rfl)) Via.refl e7 W_counted E_a (Or.inl (W 128 rfl)) w6 (ty := .int) (by decide) rfl rfl (B 26 rfl) rfl (fun T8 h8 X8 e8 W8 => ?_)
 have E_a := E_a.wr W8
 have W_countedPosition := W_countedPosition.other W8 (Or.inr (sn53 hw))
 have W_limit := W_limit.other W8 (Or.inr (sn54 hw))
 have W_buf := W_buf.other W8 (Or.inr (sn55 hw))
 have W_pos := W_pos.other W8 (Or.inr (sn56 hw))
 have W_noLineEndFrom := W_noLineEndFrom.other W8 (Or.inr (sn57 hw))
 have W_counted := W_counted.same W8
 have E_cp := E_cp.wr W8
 have V_bf := V_bf.other W8 ne_bf_a
 have Fl6 := Fl6.other W8 (Or.inl ne_cp_a)
 have Fc6 := Fc6.other W8 (Or.inl ne_cp_a)
 have Fa6 := Fa6.other W8 (Or.inl ne_cp_a)
 have N8 := Fr.snoc X8 N6 g_a
 have Z8 : n0 ≤ h8.size := by rw [W8.size]; exact Z6
 have K8 := KK6.wr W8 (Or.inl (List.mem_of_getElem? (i := 0) rfl))
 refine ga X8 hx 67 (B 27 rfl) rfl rfl rfl ?_
 refine ga X8 hx 68 (B 28 rfl) rfl rfl rfl ?_
 refine gG X8 hx 71 hZ hown (host := "") (Or.inl (W 127 rfl)) Via.refl e8 W_counted (B 29 rfl) rfl (fun T9 X9 e9 => ?_)
 refine gP X9 hx 74 hZ hown (host := "") (Or.inl (W 112 rfl)) Via.refl e9 W_noLineEndFrom E_a (Or.inl (W 113 rfl)) w6 (ty := .int) (by decide) rfl rfl (B 30 rfl) rfl (fun T10 h10 X10 e10 W10 => ?_)
 have E_a := E_a.wr W10
 have W_countedPosition := W_countedPosition.other W10 (Or.inr (sn13 hw))
 have W_limit := W_limit.other W10 (Or.inr (sn14 hw))
 have W_buf := W_buf.other W10 (Or.inr (sn15 hw))
 have W_pos := W_pos.other W10 (Or.inr (sn16 hw))
 have W_noLineEndFrom := W_noLineEndFrom.same W10
 have W_counted := W_counted.other W10 (Or.inr (sn17 hw))
 have E_cp := E_cp.wr W10
 have V_bf := V_bf.other W10 ne_bf_a
 have Fl6 := Fl6.other W10 (Or.inl ne_cp_a)
 have Fc6 := Fc6.other W10 (Or.inl ne_cp_a)
 have Fa6 := Fa6.other W10 (Or.inl ne_cp_a)
 have N10 := Fr.snoc X10 N8 g_a
 have Z10 : n0 ≤ h10.size := by rw [W10.size]; exact Z8
 have K10 := K8.wr W10 (Or.inl (List.mem_of_getElem? (i := 0) rfl))
 refine ga X10 hx 75 (B 31 rfl) rfl rfl rfl ?_
 refine g_dup X10 hx 76 (B 32 rfl) rfl rfl ?_
 refine gG X10 hx 79 hZ hown (host := "") (Or.inl w110) Via.refl e10 W_pos (B 33 rfl) rfl (fun T11 X11 e11 => ?_)
 refine gn X11 hx 80 (B 34 rfl) rfl rfl ?_
 refine gp X11 hx 81 (3 : Int32) (B 35 rfl) (by decide) rfl ?_
 refine gP X11 hx 84 hZ hown (host := "") (Or.inl w110) Via.refl e11 W_pos E_a (Or.inl (W 111 rfl)) w6 (ty := .int) (by decide) rfl rfl (B 36 rfl) rfl (fun T12 h12 X12 e12 W12 => ?_)
 have E_a := E_a.wr W12
 have W_countedPosition := W_countedPosition.other W12 (Or.inr (sn8 hw))
 have W_limit := W_limit.other W12 (Or.inr (sn9 hw))
 have W_buf := W_buf.other W12 (Or.inr (sn10 hw))
 have W_pos := W_pos.same W12
 have W_noLineEndFrom := W_noLineEndFrom.other W12 (Or.inr (sn11 hw))
 have W_counted := W_counted.other W12 (Or.inr (sn12 hw))
 have E_cp := E_cp.wr W12
 have V_bf := V_bf.other W12 ne_bf_a
 have Fl6 := Fl6.other W12 (Or.inl ne_cp_a)
 have Fc6 := Fc6.other W12 (Or.inl ne_cp_a)
 have Fa6 := Fa6.other W12 (Or.inl ne_cp_a)
 have N12 := Fr.snoc X12 N10 g_a
 have Z12 : n0 ≤ h12.size := by rw [W12.size]; exact Z10
 have K12 := K10.wr W12 (Or.inl (List.mem_of_getElem? (i := 0) rfl))
 exact g_retV X12 hx hret hlk (B 37 rfl) (by decide) (by decide) (by rw [e12]; exact ⟨rfl, N12, K12, E_a, W_countedPosition, W_limit, W_buf, W_pos, W_noLineEndFrom, W_counted, E_cp, Fl6, Fc6, Fa6⟩)
set_option maxRecDepth 65536 in
set_option maxHeartbeats 40000000 in
theorem mo_0_3 {l : Launch} {Z : State} {a0 : Array Value} (hw : ∀ d ∈ tables_1, d.before a0 Z = true) (a cp bf : Addr) (en : Int32) (c0 c1 c2 c3 : Int32) (kF : ClassId) (h0 : Heap) (n0 : Nat) (Z0 : n0 ≤ h0.size) (g_a : n0 ≤ a) (g_cp : n0 ≤ cp) (E_a : Exa Z h0 a "gleanwell/Window") (W_countedPosition : Fld Z h0 a "gleanwell/Window" "countedPosition" "Lgleanwell/Position;" (.ref cp)) (W_limit : Fld Z h0 a "gleanwell/Window" "limit" "I" (.int 4)) (W_buf : Fld Z h0 a "gleanwell/Window" "buf" "[C" (.ref bf)) (W_pos : Fld Z h0 a "gleanwell/Window" "pos" "I" (.int 0)) (W_noLineEndFrom : Fld Z h0 a "gleanwell/Window" "noLineEndFrom" "I" (.int 0)) (W_counted : Fld Z h0 a "gleanwell/Window" "counted" "I" (.int 0)) (E_cp : Exa Z h0 cp "gleanwell/Position") (F_ln : Fld Z h0 cp "gleanwell/Position" "line" "J" (.long 1)) (F_co : Fld Z h0 cp "gleanwell/Position" "column" "J" (.long 1)) (F_la : Fld Z h0 cp "gleanwell/Position" "last" "C" (.int 0)) (V_bf : Arv Z h0 bf kF .char (5 : Int32) [(.int c0), (.int c1), (.int c2), (.int c3), (.int 0)] (.int 0)) (nc0 : nar .char c0 = c0) (nc1 : nar .char c1 = c1) (nc2 : nar .char c2 = c2) (nc3 : nar .char c3 = c3) (hc0 : ¬ 255 < c0) (hc1 : ¬ 255 < c1) (hc2 : ¬ 255 < c2) (hc3 : ¬ 255 < c3) :
  OwnMet l Z (⟨"gleanwell/Window", "moveOverLines", "(III)V"⟩ : MethodName) prog_52_method_4_code 4 none [] (⟨3, 0, 0, 48⟩ : Room) [(.ref a), (.int 4), (.int en), (.int 4)] h0 (fun v h L => v = none ∧ Fr n0 L ∧ Keep h0 h [a, cp] ∧ Exa Z h a "gleanwell/Window" ∧ Fld Z h a "gleanwell/Window" "countedPosition" "Lgleanwell/Position;" (.ref cp) ∧ Fld Z h a "gleanwell/Window" "limit" "I" (.int 4) ∧ Fld Z h a "gleanwell/Window" "buf" "[C" (.ref bf) ∧ Fld Z h a "gleanwell/Window" "pos" "I" (.int 4) ∧ Fld Z h a "gleanwell/Window" "noLineEndFrom" "I" (.int 4) ∧ Fld Z h a "gleanwell/Window" "counted" "I" (.int 4) ∧ Exa Z h cp "gleanwell/Position" ∧ Fld Z h cp "gleanwell/Position" "line" "J" (.long ((1 : Int64) + en.toInt64)) ∧ Fld Z h cp "gleanwell/Position" "column" "J" (.long 1) ∧ Fld Z h cp "gleanwell/Position" "last" "C" (.int c3)) := by
 refine own_body (Ls := #[A a, I 4, I en, I 4]) (plainFor_of_name own_pn7) (fun m => by first | (simp [entryFrame, mkF, argsToLocals, Value.category]; done) | rfl) (fun p e s m below meth cO T0 hx hby hml hown hnm hret hlk hZ X0 e0 => ?_)
 have hown : s.vm.findClass "gleanwell/Window" = some m.cls := hown
 have B {q r} (i : Nat) := own_B (q := q) (r := r) hby D32_ok i
 have W {d : Jvm.Cond} (i : Nat) (h : tables_1[i]? = some d) : d.before a0 Z = true := own_w hw i h
 have w6 := W 6 rfl
 have w110 := W 110 rfl
 have M {n : Nat} (h : n = _) : n = cO.maxLocals := h.trans hml.symm
 have N0 := Fr.nil n0
 have K0 := Keep.refl h0 [a, cp]
 have ne_cp_a : cp ≠ a := Ne.symm (ne_exa E_a E_cp (by decide))
 have ne_bf_a : bf ≠ a := Ne.symm (Exa.neArv E_a V_bf w6)
 have ne_bf_cp : bf ≠ cp := Ne.symm (Exa.neArv E_cp V_bf (W 42 rfl))
 refine gn X0 hx 1 (B 0 rfl) rfl rfl ?_
 refine gf X0 hx 4 (B 1 rfl) (by decide) rfl ?_
 refine ga X0 hx 5 (B 2 rfl) rfl rfl rfl ?_
 refine gG X0 hx 8 hZ hown (host := "") (Or.inl (W 127 rfl)) Via.refl e0 W_counted (B 3 rfl) rfl (fun T1 X1 e1 => ?_)
 refine ga X1 hx 9 (B 4 rfl) rfl rfl rfl ?_
 refine gG X1 hx 12 hZ hown (host := "") (Or.inl (W 112 rfl)) Via.refl e1 W_noLineEndFrom (B 5 rfl) rfl (fun T2 X2 e2 => ?_)
 refine gT X2 hx 34 (B 6 rfl) (by decide) rfl ?_
 refine ga X2 hx 35 (B 7 rfl) rfl rfl rfl ?_
 refine gG X2 hx 38 hZ hown (host := "") (Or.inl (W 52 rfl)) Via.refl e2 W_countedPosition (B 8 rfl) rfl (fun T3 X3 e3 => ?_)
 refine gn X3 hx 39 (B 9 rfl) rfl rfl ?_
 refine gL X3 hx 40 (en.toInt64) (B 10 rfl) rfl rfl ?_
 refine ga X3 hx 41 (B 11 rfl) rfl rfl rfl ?_
 refine gG X3 hx 44 hZ hown (host := "") (Or.inl (W 68 rfl)) Via.refl e3 W_buf (B 12 rfl) rfl (fun T4 X4 e4 => ?_)
 refine ga X4 hx 45 (B 13 rfl) rfl rfl rfl ?_
 refine gG X4 hx 48 hZ hown (host := "") (Or.inl w110) Via.refl e4 W_pos (B 14 rfl) rfl (fun T5 X5 e5 => ?_)
 refine gn X5 hx 49 (B 15 rfl) rfl rfl ?_
 refine gp X5 hx 50 (4 : Int32) (B 16 rfl) (by decide) rfl ?_
 refine gk X5 hx 51 1 (B 17 rfl) rfl rfl ?_
 refine gm X5 hx 52 (3 : Int32) (B 18 rfl) (by decide) rfl ?_
 refine gc X5 hx 53 hZ e5 V_bf c3 rfl rfl (B 19 rfl) rfl ?_
 refine gV X5 hx 56 hZ hown (W 173 rfl) (W 174 rfl) (W 176 rfl) (W 175 rfl) (W 43 rfl) (W 177 rfl) (by decide) cp E_cp [(.long (en.toInt64)), (.int c3)] [] (rm33 hw cp (en.toInt64) (1 : Int64) c3 _ _ h0 n0 Z0 g_cp nc3 E_cp F_ln F_co F_la) e5 0 rfl (M rfl) (lenOf pd17 rfl) (B 20 rfl) rfl rfl rfl (fun v T6 L X6 Y => ?_)
 obtain ⟨rfl, N6q, K6, E6x, Fl6, Fc6, Fa6⟩ := Y
 have N6 := Fr.app N0 N6q
 have E_a := E_a.keep K6
 have W_countedPosition := W_countedPosition.keep K6 (ninS (Ne.symm ne_cp_a) nin0)
 have W_limit := W_limit.keep K6 (ninS (Ne.symm ne_cp_a) nin0)
 have W_buf := W_buf.keep K6 (ninS (Ne.symm ne_cp_a) nin0)
 have W_pos := W_pos.keep K6 (ninS (Ne.symm ne_cp_a) nin0)
 have W_noLineEndFrom := W_noLineEndFrom.keep K6 (ninS (Ne.symm ne_cp_a) nin0)
 have W_counted := W_counted.keep K6 (ninS (Ne.symm ne_cp_a) nin0)
 have E_cp := E_cp.keep K6
 have V_bf := V_bf.keep K6 (ninS ne_bf_cp nin0)
 have KK6 := K0.trans K6 (allS (Or.inl (List.mem_of_getElem? (i := 1) rfl)) all0)
 have Z6 := Nat.le_trans Z0 K6.1
 refine ga X6 hx 57 (B 21 rfl) rfl rfl rfl ?_
 refine ga X6 hx 58 (B 22 rfl) rfl rfl rfl ?_
 refine gG X6 hx 61 hZ hown (host := "") (Or.inl w110) Via.refl rfl W_pos (B 23 rfl) rfl (fun T7 X7 e7 => ?_)
 refine gn X7 hx 62 (B 24 rfl) rfl rfl ?_
 refine gp X7 hx 63 (4 : Int32) (B 25 rfl) (by decide) rfl ?_
 refine gP X7 hx 66 hZ hown (host := "") (Or.inl (W 127 rfl)) Via.refl e7 W_counted E_a (Or.inl (W 128 rfl)) w6 (ty := .int) (by decide) rfl rfl (B 26 rfl) rfl (fun T8 h8 X8 e8 W8 => ?_)
 have E_a := E_a.wr W8
 have W_countedPosition := W_countedPosition.other W8 (Or.inr (sn53 hw))
 have W_limit := W_limit.other W8 (Or.inr (sn54 hw))
 have W_buf := W_buf.other W8 (Or.inr (sn55 hw))
 have W_pos := W_pos.other W8 (Or.inr (sn56 hw))
 have W_noLineEndFrom := W_noLineEndFrom.other W8 (Or.inr (sn57 hw))
 have W_counted := W_counted.same W8
 have E_cp := E_cp.wr W8
 have V_bf := V_bf.other W8 ne_bf_a
 have Fl6 := Fl6.other W8 (Or.inl ne_cp_a)
 have Fc6 := Fc6.other W8 (Or.inl ne_cp_a)
 have Fa6 := Fa6.other W8 (Or.inl ne_cp_a)
 have N8 := Fr.snoc X8 N6 g_a
 have Z8 : n0 ≤ h8.size := by rw [W8.size]; exact Z6
 have K8 := KK6.wr W8 (Or.inl (List.mem_of_getElem? (i := 0) rfl))
 refine ga X8 hx 67 (B 27 rfl) rfl rfl rfl ?_
 refine ga X8 hx 68 (B 28 rfl) rfl rfl rfl ?_
 refine gG X8 hx 71 hZ hown (host := "") (Or.inl (W 127 rfl)) Via.refl e8 W_counted (B 29 rfl) rfl (fun T9 X9 e9 => ?_)
 refine gP X9 hx 74 hZ hown (host := "") (Or.inl (W 112 rfl)) Via.refl e9 W_noLineEndFrom E_a (Or.inl (W 113 rfl)) w6 (ty := .int) (by decide) rfl rfl (B 30 rfl) rfl (fun T10 h10 X10 e10 W10 => ?_)
 have E_a := E_a.wr W10
 have W_countedPosition := W_countedPosition.other W10 (Or.inr (sn13 hw))
 have W_limit := W_limit.other W10 (Or.inr (sn14 hw))
 have W_buf := W_buf.other W10 (Or.inr (sn15 hw))
 have W_pos := W_pos.other W10 (Or.inr (sn16 hw))
 have W_noLineEndFrom := W_noLineEndFrom.same W10
 have W_counted := W_counted.other W10 (Or.inr (sn17 hw))
 have E_cp := E_cp.wr W10
 have V_bf := V_bf.other W10 ne_bf_a
 have Fl6 := Fl6.other W10 (Or.inl ne_cp_a)
 have Fc6 := Fc6.other W10 (Or.inl ne_cp_a)
 have Fa6 := Fa6.other W10 (Or.inl ne_cp_a)
 have N10 := Fr.snoc X10 N8 g_a
 have Z10 : n0 ≤ h10.size := by rw [W10.size]; exact Z8
 have K10 := K8.wr W10 (Or.inl (List.mem_of_getElem? (i := 0) rfl))
 refine ga X10 hx 75 (B 31 rfl) rfl rfl rfl ?_
 refine g_dup X10 hx 76 (B 32 rfl) rfl rfl ?_
 refine gG X10 hx 79 hZ hown (host := "") (Or.inl w110) Via.refl e10 W_pos (B 33 rfl) rfl (fun T11 X11 e11 => ?_)
 refine gn X11 hx 80 (B 34 rfl) rfl rfl ?_
 refine gp X11 hx 81 (4 : Int32) (B 35 rfl) (by decide) rfl ?_
 refine gP X11 hx 84 hZ hown (host := "") (Or.inl w110) Via.refl e11 W_pos E_a (Or.inl (W 111 rfl)) w6 (ty := .int) (by decide) rfl rfl (B 36 rfl) rfl (fun T12 h12 X12 e12 W12 => ?_)
 have E_a := E_a.wr W12
 have W_countedPosition := W_countedPosition.other W12 (Or.inr (sn8 hw))
 have W_limit := W_limit.other W12 (Or.inr (sn9 hw))
 have W_buf := W_buf.other W12 (Or.inr (sn10 hw))
 have W_pos := W_pos.same W12
 have W_noLineEndFrom := W_noLineEndFrom.other W12 (Or.inr (sn11 hw))
 have W_counted := W_counted.other W12 (Or.inr (sn12 hw))
 have E_cp := E_cp.wr W12
 have V_bf := V_bf.other W12 ne_bf_a
 have Fl6 := Fl6.other W12 (Or.inl ne_cp_a)
 have Fc6 := Fc6.other W12 (Or.inl ne_cp_a)
 have Fa6 := Fa6.other W12 (Or.inl ne_cp_a)
 have N12 := Fr.snoc X12 N10 g_a
 have Z12 : n0 ≤ h12.size := by rw [W12.size]; exact Z10
 have K12 := K10.wr W12 (Or.inl (List.mem_of_getElem? (i := 0) rfl))
 exact g_retV X12 hx hret hlk (B 37 rfl) (by decide) (by decide) (by rw [e12]; exact ⟨rfl, N12, K12, E_a, W_countedPosition, W_limit, W_buf, W_pos, W_noLineEndFrom, W_counted, E_cp, Fl6, Fc6, Fa6⟩)
theorem pd18 : parseMethodDescriptor "([CII)V" = some ⟨[(.array .char), .int, .int], none⟩ := by decide +kernel
set_option maxRecDepth 65536 in
set_option maxHeartbeats 40000000 in
theorem mo_1_1 {l : Launch} {Z : State} {a0 : Array Value} (hw : ∀ d ∈ tables_1, d.before a0 Z = true) (a cp bf : Addr) (en : Int32) (c0 c1 c2 c3 : Int32) (kF : ClassId) (h0 : Heap) (n0 : Nat) (Z0 : n0 ≤ h0.size) (g_a : n0 ≤ a) (g_cp : n0 ≤ cp) (E_a : Exa Z h0 a "gleanwell/Window") (W_countedPosition : Fld Z h0 a "gleanwell/Window" "countedPosition" "Lgleanwell/Position;" (.ref cp)) (W_limit : Fld Z h0 a "gleanwell/Window" "limit" "I" (.int 4)) (W_buf : Fld Z h0 a "gleanwell/Window" "buf" "[C" (.ref bf)) (W_pos : Fld Z h0 a "gleanwell/Window" "pos" "I" (.int 1)) (W_noLineEndFrom : Fld Z h0 a "gleanwell/Window" "noLineEndFrom" "I" (.int 1)) (W_counted : Fld Z h0 a "gleanwell/Window" "counted" "I" (.int 0)) (E_cp : Exa Z h0 cp "gleanwell/Position") (F_ln : Fld Z h0 cp "gleanwell/Position" "line" "J" (.long 1)) (F_co : Fld Z h0 cp "gleanwell/Position" "column" "J" (.long 1)) (F_la : Fld Z h0 cp "gleanwell/Position" "last" "C" (.int 0)) (V_bf : Arv Z h0 bf kF .char (5 : Int32) [(.int c0), (.int c1), (.int c2), (.int c3), (.int 0)] (.int 0)) (nc0 : nar .char c0 = c0) (nc1 : nar .char c1 = c1) (nc2 : nar .char c2 = c2) (nc3 : nar .char c3 = c3) (hc0 : ¬ 255 < c0) (hc1 : ¬ 255 < c1) (hc2 : ¬ 255 < c2) (hc3 : ¬ 255 < c3) :
  OwnMet l Z (⟨"gleanwell/Window", "moveOverLines", "(III)V"⟩ : MethodName) prog_52_method_4_code 4 none [] (⟨3, 0, 0, 48⟩ : Room) [(.ref a), (.int 1), (.int en), (.int 1)] h0 (fun v h L => v = none ∧ Fr n0 L ∧ Keep h0 h [a, cp] ∧ Exa Z h a "gleanwell/Window" ∧ Fld Z h a "gleanwell/Window" "countedPosition" "Lgleanwell/Position;" (.ref cp) ∧ Fld Z h a "gleanwell/Window" "limit" "I" (.int 4) ∧ Fld Z h a "gleanwell/Window" "buf" "[C" (.ref bf) ∧ Fld Z h a "gleanwell/Window" "pos" "I" (.int 2) ∧ Fld Z h a "gleanwell/Window" "noLineEndFrom" "I" (.int 2) ∧ Fld Z h a "gleanwell/Window" "counted" "I" (.int 2) ∧ Exa Z h cp "gleanwell/Position" ∧ Fld Z h cp "gleanwell/Position" "line" "J" (.long ((own_step c0 0 (1 : Int64)) + en.toInt64)) ∧ Fld Z h cp "gleanwell/Position" "column" "J" (.long 1) ∧ Fld Z h cp "gleanwell/Position" "last" "C" (.int c1)) := by
 refine own_body (Ls := #[A a, I 1, I en, I 1]) (plainFor_of_name own_pn7) (fun m => by first | (simp [entryFrame, mkF, argsToLocals, Value.category]; done) | rfl) (fun p e s m below meth cO T0 hx hby hml hown hnm hret hlk hZ X0 e0 => ?_)
 have hown : s.vm.findClass "gleanwell/Window" = some m.cls := hown
 have B {q r} (i : Nat) := own_B (q := q) (r := r) hby D32_ok i
 have W {d : Jvm.Cond} (i : Nat) (h : tables_1[i]? = some d) : d.before a0 Z = true := own_w hw i h
 have w6 := W 6 rfl
 have w127 := W 127 rfl
 have w110 := W 110 rfl
 have M {n : Nat} (h : n = _) : n = cO.maxLocals := h.trans hml.symm
 have N0 := Fr.nil n0
 have K0 := Keep.refl h0 [a, cp]
 have ne_cp_a : cp ≠ a := Ne.symm (ne_exa E_a E_cp (by decide))
 have ne_bf_a : bf ≠ a := Ne.symm (Exa.neArv E_a V_bf w6)
 have ne_bf_cp : bf ≠ cp := Ne.symm (Exa.neArv E_cp V_bf (W 42 rfl))
 refine gn X0 hx 1 (B 0 rfl) rfl rfl ?_
 refine gf X0 hx 4 (B 1 rfl) (by decide) rfl ?_
 refine ga X0 hx 5 (B 2 rfl) rfl rfl rfl ?_
 refine gG X0 hx 8 hZ hown (host := "") (Or.inl w127) Via.refl e0 W_counted (B 3 rfl) rfl (fun T1 X1 e1 => ?_)
 refine ga X1 hx 9 (B 4 rfl) rfl rfl rfl ?_
 refine gG X1 hx 12 hZ hown (host := "") (Or.inl (W 112 rfl)) Via.refl e1 W_noLineEndFrom (B 5 rfl) rfl (fun T2 X2 e2 => ?_)
 refine gF X2 hx 15 (B 6 rfl) (by decide) rfl ?_
 refine ga X2 hx 16 (B 38 rfl) rfl rfl rfl ?_
 refine gG X2 hx 19 hZ hown (host := "") (Or.inl (W 52 rfl)) Via.refl e2 W_countedPosition (B 39 rfl) rfl (fun T3 X3 e3 => ?_)
 refine ga X3 hx 20 (B 40 rfl) rfl rfl rfl ?_
 refine gG X3 hx 23 hZ hown (host := "") (Or.inl (W 68 rfl)) Via.refl e3 W_buf (B 41 rfl) rfl (fun T4 X4 e4 => ?_)
 refine ga X4 hx 24 (B 42 rfl) rfl rfl rfl ?_
 refine gG X4 hx 27 hZ hown (host := "") (Or.inl w127) Via.refl e4 W_counted (B 43 rfl) rfl (fun T5 X5 e5 => ?_)
 refine ga X5 hx 28 (B 44 rfl) rfl rfl rfl ?_
 refine gG X5 hx 31 hZ hown (host := "") (Or.inl (W 112 rfl)) Via.refl e5 W_noLineEndFrom (B 45 rfl) rfl (fun T6 X6 e6 => ?_)
 refine gV X6 hx 34 hZ hown (W 129 rfl) (W 130 rfl) (W 132 rfl) (W 131 rfl) (W 43 rfl) (W 133 rfl) (by decide) cp E_cp [(.ref bf), (.int 0), (.int 1)] [] (rp_1 hw cp bf (1 : Int64) c0 c1 c2 c3 kF h0 n0 Z0 g_cp E_cp F_ln F_co F_la V_bf nc0 nc1 nc2 nc3 hc0 hc1 hc2 hc3 (Ne.symm ne_bf_cp)) e6 0 rfl (M rfl) (lenOf pd18 rfl) (B 46 rfl) rfl rfl rfl (fun v T7 L X7 Y => ?_)
 obtain ⟨rfl, N7q, K7, E7x, Fl7, Fc7, Fa7⟩ := Y
 have N7 := Fr.app N0 N7q
 have E_a := E_a.keep K7
 have W_countedPosition := W_countedPosition.keep K7 (ninS (Ne.symm ne_cp_a) nin0)
 have W_limit := W_limit.keep K7 (ninS (Ne.symm ne_cp_a) nin0)
 have W_buf := W_buf.keep K7 (ninS (Ne.symm ne_cp_a) nin0)
 have W_pos := W_pos.keep K7 (ninS (Ne.symm ne_cp_a) nin0)
 have W_noLineEndFrom := W_noLineEndFrom.keep K7 (ninS (Ne.symm ne_cp_a) nin0)
 have W_counted := W_counted.keep K7 (ninS (Ne.symm ne_cp_a) nin0)
 have E_cp := E_cp.keep K7
 have V_bf := V_bf.keep K7 (ninS ne_bf_cp nin0)
 have KK7 := K0.trans K7 (allS (Or.inl (List.mem_of_getElem? (i := 1) rfl)) all0)
 have Z7 := Nat.le_trans Z0 K7.1
 refine ga X7 hx 35 (B 7 rfl) rfl rfl rfl ?_
 refine gG X7 hx 38 hZ hown (host := "") (Or.inl (W 52 rfl)) Via.refl rfl W_countedPosition (B 8 rfl) rfl (fun T8 X8 e8 => ?_)
 refine gn X8 hx 39 (B 9 rfl) rfl rfl ?_
 refine gL X8 hx 40 (en.toInt64) (B 10 rfl) rfl rfl ?_
 refine ga X8 hx 41 (B 11 rfl) rfl rfl rfl ?_
 refine gG X8 hx 44 hZ hown (host := "") (Or.inl (W 68 rfl)) Via.refl e8 W_buf (B 12 rfl) rfl (fun T9 X9 e9 => ?_)
 refine ga X9 hx 45 (B 13 rfl) rfl rfl rfl ?_
 refine gG X9 hx 48 hZ hown (host := "") (Or.inl w110) Via.refl e9 W_pos (B 14 rfl) rfl (fun T10 X10 e10 => ?_)
 refine gn X10 hx 49 (B 15 rfl) rfl rfl ?_
 refine gp X10 hx 50 (2 : Int32) (B 16 rfl) (by decide) rfl ?_
 refine gk X10 hx 51 1 (B 17 rfl) rfl rfl ?_
 refine gm X10 hx 52 (1 : Int32) (B 18 rfl) (by decide) rfl ?_
 refine gc X10 hx 53 hZ e10 V_bf c1 rfl rfl (B 19 rfl) rfl ?_
 refine gV X10 hx 56 hZ hown (W 173 rfl) (W 174 rfl) (W 176 rfl) (W 175 rfl) (W 43 rfl) (W 177 rfl) (by decide) cp E_cp [(.long (en.toInt64)), (.int c1)] [] (rm33 hw cp (en.toInt64) (own_step c0 0 (1 : Int64)) c1 _ _ T7.heap n0 Z7 g_cp nc1 E_cp Fl7 Fc7 Fa7) e10 0 rfl (M rfl) (lenOf pd17 rfl) (B 20 rfl) rfl rfl rfl (fun v T11 L X11 Y => ?_)
 obtain ⟨rfl, N11q, K11, E11x, Fl11, Fc11, Fa11⟩ := Y
 have N11 := Fr.app N7 N11q
 have E_a := E_a.keep K11
 have W_countedPosition := W_countedPosition.keep K11 (ninS (Ne.symm ne_cp_a) nin0)
 have W_limit := W_limit.keep K11 (ninS (Ne.symm ne_cp_a) nin0)
 have W_buf := W_buf.keep K11 (ninS (Ne.symm ne_cp_a) nin0)
 have W_pos := W_pos.keep K11 (ninS (Ne.symm ne_cp_a) nin0)
 have W_noLineEndFrom := W_noLineEndFrom.keep K11 (ninS (Ne.symm ne_cp_a) nin0)
 have W_counted := W_counted.keep K11 (ninS (Ne.symm ne_cp_a) nin0)
 have E_cp := E_cp.keep K11
 have V_bf := V_bf.keep K11 (ninS ne_bf_cp nin0)
 have KK11 := KK7.trans K11 (allS (Or.inl (List.mem_of_getElem? (i := 1) rfl)) all0)
 have Z11 := Nat.le_trans Z7 K11.1
 refine ga X11 hx 57 (B 21 rfl) rfl rfl rfl ?_
 refine ga X11 hx 58 (B 22 rfl) rfl rfl rfl ?_
 refine gG X11 hx 61 hZ hown (host := "") (Or.inl w110) Via.refl rfl W_pos (B 23 rfl) rfl (fun T12 X12 e12 => ?_)
 refine gn X12 hx 62 (B 24 rfl) rfl rfl ?_
 refine gp X12 hx 63 (2 : Int32) (B 25 rfl) (by decide) rfl ?_
 refine gP X12 hx 66 hZ hown (host := "") (Or.inl w127) Via.refl e12 W_counted E_a (Or.inl (W 128 rfl)) w6 (ty := .int) (by decide) rfl rfl (B 26 rfl) rfl (fun T13 h13 X13 e13 W13 => ?_)
 have E_a := E_a.wr W13
 have W_countedPosition := W_countedPosition.other W13 (Or.inr (sn53 hw))
 have W_limit := W_limit.other W13 (Or.inr (sn54 hw))
 have W_buf := W_buf.other W13 (Or.inr (sn55 hw))
 have W_pos := W_pos.other W13 (Or.inr (sn56 hw))
 have W_noLineEndFrom := W_noLineEndFrom.other W13 (Or.inr (sn57 hw))
 have W_counted := W_counted.same W13
 have E_cp := E_cp.wr W13
 have V_bf := V_bf.other W13 ne_bf_a
 have Fl11 := Fl11.other W13 (Or.inl ne_cp_a)
 have Fc11 := Fc11.other W13 (Or.inl ne_cp_a)
 have Fa11 := Fa11.other W13 (Or.inl ne_cp_a)
 have N13 := Fr.snoc X13 N11 g_a
 have Z13 : n0 ≤ h13.size := by rw [W13.size]; exact Z11
 have K13 := KK11.wr W13 (Or.inl (List.mem_of_getElem? (i := 0) rfl))
 refine ga X13 hx 67 (B 27 rfl) rfl rfl rfl ?_
 refine ga X13 hx 68 (B 28 rfl) rfl rfl rfl ?_
 refine gG X13 hx 71 hZ hown (host := "") (Or.inl w127) Via.refl e13 W_counted (B 29 rfl) rfl (fun T14 X14 e14 => ?_)
 refine gP X14 hx 74 hZ hown (host := "") (Or.inl (W 112 rfl)) Via.refl e14 W_noLineEndFrom E_a (Or.inl (W 113 rfl)) w6 (ty := .int) (by decide) rfl rfl (B 30 rfl) rfl (fun T15 h15 X15 e15 W15 => ?_)
 have E_a := E_a.wr W15
 have W_countedPosition := W_countedPosition.other W15 (Or.inr (sn13 hw))
 have W_limit := W_limit.other W15 (Or.inr (sn14 hw))
 have W_buf := W_buf.other W15 (Or.inr (sn15 hw))
 have W_pos := W_pos.other W15 (Or.inr (sn16 hw))
 have W_noLineEndFrom := W_noLineEndFrom.same W15
 have W_counted := W_counted.other W15 (Or.inr (sn17 hw))
 have E_cp := E_cp.wr W15
 have V_bf := V_bf.other W15 ne_bf_a
 have Fl11 := Fl11.other W15 (Or.inl ne_cp_a)
 have Fc11 := Fc11.other W15 (Or.inl ne_cp_a)
 have Fa11 := Fa11.other W15 (Or.inl ne_cp_a)
 have N15 := Fr.snoc X15 N13 g_a
 have Z15 : n0 ≤ h15.size := by rw [W15.size]; exact Z13
 have K15 := K13.wr W15 (Or.inl (List.mem_of_getElem? (i := 0) rfl))
 refine ga X15 hx 75 (B 31 rfl) rfl rfl rfl ?_
 refine g_dup X15 hx 76 (B 32 rfl) rfl rfl ?_
 refine gG X15 hx 79 hZ hown (host := "") (Or.inl w110) Via.refl e15 W_pos (B 33 rfl) rfl (fun T16 X16 e16 => ?_)
 refine gn X16 hx 80 (B 34 rfl) rfl rfl ?_
 refine gp X16 hx 81 (2 : Int32) (B 35 rfl) (by decide) rfl ?_
 refine gP X16 hx 84 hZ hown (host := "") (Or.inl w110) Via.refl e16 W_pos E_a (Or.inl (W 111 rfl)) w6 (ty := .int) (by decide) rfl rfl (B 36 rfl) rfl (fun T17 h17 X17 e17 W17 => ?_)
 have E_a := E_a.wr W17
 have W_countedPosition := W_countedPosition.other W17 (Or.inr (sn8 hw))
 have W_limit := W_limit.other W17 (Or.inr (sn9 hw))
 have W_buf := W_buf.other W17 (Or.inr (sn10 hw))
 have W_pos := W_pos.same W17
 have W_noLineEndFrom := W_noLineEndFrom.other W17 (Or.inr (sn11 hw))
 have W_counted := W_counted.other W17 (Or.inr (sn12 hw))
 have E_cp := E_cp.wr W17
 have V_bf := V_bf.other W17 ne_bf_a
 have Fl11 := Fl11.other W17 (Or.inl ne_cp_a)
 have Fc11 := Fc11.other W17 (Or.inl ne_cp_a)
 have Fa11 := Fa11.other W17 (Or.inl ne_cp_a)
 have N17 := Fr.snoc X17 N15 g_a
 have Z17 : n0 ≤ h17.size := by rw [W17.size]; exact Z15
 have K17 := K15.wr W17 (Or.inl (List.mem_of_getElem? (i := 0) rfl))
 exact g_retV X17 hx hret hlk (B 37 rfl) (by decide) (by decide) (by rw [e17]; exact ⟨rfl, N17, K17, E_a, W_countedPosition, W_limit, W_buf, W_pos, W_noLineEndFrom, W_counted, E_cp, Fl11, Fc11, Fa11⟩)
set_option maxRecDepth 65536 in
set_option maxHeartbeats 40000000 in
theorem mo_1_2 {l : Launch} {Z : State} {a0 : Array Value} (hw : ∀ d ∈ tables_1, d.before a0 Z = true) (a cp bf : Addr) (en : Int32) (c0 c1 c2 c3 : Int32) (kF : ClassId) (h0 : Heap) (n0 : Nat) (Z0 : n0 ≤ h0.size) (g_a : n0 ≤ a) (g_cp : n0 ≤ cp) (E_a : Exa Z h0 a "gleanwell/Window") (W_countedPosition : Fld Z h0 a "gleanwell/Window" "countedPosition" "Lgleanwell/Position;" (.ref cp)) (W_limit : Fld Z h0 a "gleanwell/Window" "limit" "I" (.int 4)) (W_buf : Fld Z h0 a "gleanwell/Window" "buf" "[C" (.ref bf)) (W_pos : Fld Z h0 a "gleanwell/Window" "pos" "I" (.int 1)) (W_noLineEndFrom : Fld Z h0 a "gleanwell/Window" "noLineEndFrom" "I" (.int 1)) (W_counted : Fld Z h0 a "gleanwell/Window" "counted" "I" (.int 0)) (E_cp : Exa Z h0 cp "gleanwell/Position") (F_ln : Fld Z h0 cp "gleanwell/Position" "line" "J" (.long 1)) (F_co : Fld Z h0 cp "gleanwell/Position" "column" "J" (.long 1)) (F_la : Fld Z h0 cp "gleanwell/Position" "last" "C" (.int 0)) (V_bf : Arv Z h0 bf kF .char (5 : Int32) [(.int c0), (.int c1), (.int c2), (.int c3), (.int 0)] (.int 0)) (nc0 : nar .char c0 = c0) (nc1 : nar .char c1 = c1) (nc2 : nar .char c2 = c2) (nc3 : nar .char c3 = c3) (hc0 : ¬ 255 < c0) (hc1 : ¬ 255 < c1) (hc2 : ¬ 255 < c2) (hc3 : ¬ 255 < c3) :
  OwnMet l Z (⟨"gleanwell/Window", "moveOverLines", "(III)V"⟩ : MethodName) prog_52_method_4_code 4 none [] (⟨3, 0, 0, 48⟩ : Room) [(.ref a), (.int 2), (.int en), (.int 2)] h0 (fun v h L => v = none ∧ Fr n0 L ∧ Keep h0 h [a, cp] ∧ Exa Z h a "gleanwell/Window" ∧ Fld Z h a "gleanwell/Window" "countedPosition" "Lgleanwell/Position;" (.ref cp) ∧ Fld Z h a "gleanwell/Window" "limit" "I" (.int 4) ∧ Fld Z h a "gleanwell/Window" "buf" "[C" (.ref bf) ∧ Fld Z h a "gleanwell/Window" "pos" "I" (.int 3) ∧ Fld Z h a "gleanwell/Window" "noLineEndFrom" "I" (.int 3) ∧ Fld Z h a "gleanwell/Window" "counted" "I" (.int 3) ∧ Exa Z h cp "gleanwell/Position" ∧ Fld Z h cp "gleanwell/Position" "line" "J" (.long ((own_step c0 0 (1 : Int64)) + en.toInt64)) ∧ Fld Z h cp "gleanwell/Position" "column" "J" (.long 1) ∧ Fld Z h cp "gleanwell/Position" "last" "C" (.int c2)) := by
 refine own_body (Ls := #[A a, I 2, I en, I 2]) (plainFor_of_name own_pn7) (fun m => by first | (simp [entryFrame, mkF, argsToLocals, Value.category]; done) | rfl) (fun p e s m below meth cO T0 hx hby hml hown hnm hret hlk hZ X0 e0 => ?_)
 have hown : s.vm.findClass "gleanwell/Window" = some m.cls := hown
 have B {q r} (i : Nat) := own_B (q := q) (r := r) hby D32_ok i
 have W {d : Jvm.Cond} (i : Nat) (h : tables_1[i]? = some d) : d.before a0 Z = true := own_w hw i h
 have w6 := W 6 rfl
 have w127 := W 127 rfl
 have w110 := W 110 rfl
 have M {n : Nat} (h : n = _) : n = cO.maxLocals := h.trans hml.symm
 have N0 := Fr.nil n0
 have K0 := Keep.refl h0 [a, cp]
 have ne_cp_a : cp ≠ a := Ne.symm (ne_exa E_a E_cp (by decide))
 have ne_bf_a : bf ≠ a := Ne.symm (Exa.neArv E_a V_bf w6)
 have ne_bf_cp : bf ≠ cp := Ne.symm (Exa.neArv E_cp V_bf (W 42 rfl))
 refine gn X0 hx 1 (B 0 rfl) rfl rfl ?_
 refine gf X0 hx 4 (B 1 rfl) (by decide) rfl ?_
 refine ga X0 hx 5 (B 2 rfl) rfl rfl rfl ?_
 refine gG X0 hx 8 hZ hown (host := "") (Or.inl w127) Via.refl e0 W_counted (B 3 rfl) rfl (fun T1 X1 e1 => ?_)
 refine ga X1 hx 9 (B 4 rfl) rfl rfl rfl ?_
 refine gG X1 hx 12 hZ hown (host := "") (Or.inl (W 112 rfl)) Via.refl e1 W_noLineEndFrom (B 5 rfl) rfl (fun T2 X2 e2 => ?_)
 refine gF X2 hx 15 (B 6 rfl) (by decide) rfl ?_
 refine ga X2 hx 16 (B 38 rfl) rfl rfl rfl ?_
 refine gG X2 hx 19 hZ hown (host := "") (Or.inl (W 52 rfl)) Via.refl e2 W_countedPosition (B 39 rfl) rfl (fun T3 X3 e3 => ?_)
 refine ga X3 hx 20 (B 40 rfl) rfl rfl rfl ?_
 refine gG X3 hx 23 hZ hown (host := "") (Or.inl (W 68 rfl)) Via.refl e3 W_buf (B 41 rfl) rfl (fun T4 X4 e4 => ?_)
 refine ga X4 hx 24 (B 42 rfl) rfl rfl rfl ?_
 refine gG X4 hx 27 hZ hown (host := "") (Or.inl w127) Via.refl e4 W_counted (B 43 rfl) rfl (fun T5 X5 e5 => ?_)
 refine ga X5 hx 28 (B 44 rfl) rfl rfl rfl ?_
 refine gG X5 hx 31 hZ hown (host := "") (Or.inl (W 112 rfl)) Via.refl e5 W_noLineEndFrom (B 45 rfl) rfl (fun T6 X6 e6 => ?_)
 refine gV X6 hx 34 hZ hown (W 129 rfl) (W 130 rfl) (W 132 rfl) (W 131 rfl) (W 43 rfl) (W 133 rfl) (by decide) cp E_cp [(.ref bf), (.int 0), (.int 1)] [] (rp_1 hw cp bf (1 : Int64) c0 c1 c2 c3 kF h0 n0 Z0 g_cp E_cp F_ln F_co F_la V_bf nc0 nc1 nc2 nc3 hc0 hc1 hc2 hc3 (Ne.symm ne_bf_cp)) e6 0 rfl (M rfl) (lenOf pd18 rfl) (B 46 rfl) rfl rfl rfl (fun v T7 L X7 Y => ?_)
 obtain ⟨rfl, N7q, K7, E7x, Fl7, Fc7, Fa7⟩ := Y
 have N7 := Fr.app N0 N7q
 have E_a := E_a.keep K7
 have W_countedPosition := W_countedPosition.keep K7 (ninS (Ne.symm ne_cp_a) nin0)
 have W_limit := W_limit.keep K7 (ninS (Ne.symm ne_cp_a) nin0)
 have W_buf := W_buf.keep K7 (ninS (Ne.symm ne_cp_a) nin0)
 have W_pos := W_pos.keep K7 (ninS (Ne.symm ne_cp_a) nin0)
 have W_noLineEndFrom := W_noLineEndFrom.keep K7 (ninS (Ne.symm ne_cp_a) nin0)
 have W_counted := W_counted.keep K7 (ninS (Ne.symm ne_cp_a) nin0)
 have E_cp := E_cp.keep K7
 have V_bf := V_bf.keep K7 (ninS ne_bf_cp nin0)
 have KK7 := K0.trans K7 (allS (Or.inl (List.mem_of_getElem? (i := 1) rfl)) all0)
 have Z7 := Nat.le_trans Z0 K7.1
 refine ga X7 hx 35 (B 7 rfl) rfl rfl rfl ?_
 refine gG X7 hx 38 hZ hown (host := "") (Or.inl (W 52 rfl)) Via.refl rfl W_countedPosition (B 8 rfl) rfl (fun T8 X8 e8 => ?_)
 refine gn X8 hx 39 (B 9 rfl) rfl rfl ?_
 refine gL X8 hx 40 (en.toInt64) (B 10 rfl) rfl rfl ?_
 refine ga X8 hx 41 (B 11 rfl) rfl rfl rfl ?_
 refine gG X8 hx 44 hZ hown (host := "") (Or.inl (W 68 rfl)) Via.refl e8 W_buf (B 12 rfl) rfl (fun T9 X9 e9 => ?_)
 refine ga X9 hx 45 (B 13 rfl) rfl rfl rfl ?_
 refine gG X9 hx 48 hZ hown (host := "") (Or.inl w110) Via.refl e9 W_pos (B 14 rfl) rfl (fun T10 X10 e10 => ?_)
 refine gn X10 hx 49 (B 15 rfl) rfl rfl ?_
 refine gp X10 hx 50 (3 : Int32) (B 16 rfl) (by decide) rfl ?_
 refine gk X10 hx 51 1 (B 17 rfl) rfl rfl ?_
 refine gm X10 hx 52 (2 : Int32) (B 18 rfl) (by decide) rfl ?_
 refine gc X10 hx 53 hZ e10 V_bf c2 rfl rfl (B 19 rfl) rfl ?_
 refine gV X10 hx 56 hZ hown (W 173 rfl) (W 174 rfl) (W 176 rfl) (W 175 rfl) (W 43 rfl) (W 177 rfl) (by decide) cp E_cp [(.long (en.toInt64)), (.int c2)] [] (rm33 hw cp (en.toInt64) (own_step c0 0 (1 : Int64)) c2 _ _ T7.heap n0 Z7 g_cp nc2 E_cp Fl7 Fc7 Fa7) e10 0 rfl (M rfl) (lenOf pd17 rfl) (B 20 rfl) rfl rfl rfl (fun v T11 L X11 Y => ?_)
 obtain ⟨rfl, N11q, K11, E11x, Fl11, Fc11, Fa11⟩ := Y
 have N11 := Fr.app N7 N11q
 have E_a := E_a.keep K11
 have W_countedPosition := W_countedPosition.keep K11 (ninS (Ne.symm ne_cp_a) nin0)
 have W_limit := W_limit.keep K11 (ninS (Ne.symm ne_cp_a) nin0)
 have W_buf := W_buf.keep K11 (ninS (Ne.symm ne_cp_a) nin0)
 have W_pos := W_pos.keep K11 (ninS (Ne.symm ne_cp_a) nin0)
 have W_noLineEndFrom := W_noLineEndFrom.keep K11 (ninS (Ne.symm ne_cp_a) nin0)
 have W_counted := W_counted.keep K11 (ninS (Ne.symm ne_cp_a) nin0)
 have E_cp := E_cp.keep K11
 have V_bf := V_bf.keep K11 (ninS ne_bf_cp nin0)
 have KK11 := KK7.trans K11 (allS (Or.inl (List.mem_of_getElem? (i := 1) rfl)) all0)
 have Z11 := Nat.le_trans Z7 K11.1
 refine ga X11 hx 57 (B 21 rfl) rfl rfl rfl ?_
 refine ga X11 hx 58 (B 22 rfl) rfl rfl rfl ?_
 refine gG X11 hx 61 hZ hown (host := "") (Or.inl w110) Via.refl rfl W_pos (B 23 rfl) rfl (fun T12 X12 e12 => ?_)
 refine gn X12 hx 62 (B 24 rfl) rfl rfl ?_
 refine gp X12 hx 63 (3 : Int32) (B 25 rfl) (by decide) rfl ?_
 refine gP X12 hx 66 hZ hown (host := "") (Or.inl w127) Via.refl e12 W_counted E_a (Or.inl (W 128 rfl)) w6 (ty := .int) (by decide) rfl rfl (B 26 rfl) rfl (fun T13 h13 X13 e13 W13 => ?_)
 have E_a := E_a.wr W13
 have W_countedPosition := W_countedPosition.other W13 (Or.inr (sn53 hw))
 have W_limit := W_limit.other W13 (Or.inr (sn54 hw))
 have W_buf := W_buf.other W13 (Or.inr (sn55 hw))
 have W_pos := W_pos.other W13 (Or.inr (sn56 hw))
 have W_noLineEndFrom := W_noLineEndFrom.other W13 (Or.inr (sn57 hw))
 have W_counted := W_counted.same W13
 have E_cp := E_cp.wr W13
 have V_bf := V_bf.other W13 ne_bf_a
 have Fl11 := Fl11.other W13 (Or.inl ne_cp_a)
 have Fc11 := Fc11.other W13 (Or.inl ne_cp_a)
 have Fa11 := Fa11.other W13 (Or.inl ne_cp_a)
 have N13 := Fr.snoc X13 N11 g_a
 have Z13 : n0 ≤ h13.size := by rw [W13.size]; exact Z11
 have K13 := KK11.wr W13 (Or.inl (List.mem_of_getElem? (i := 0) rfl))
 refine ga X13 hx 67 (B 27 rfl) rfl rfl rfl ?_
 refine ga X13 hx 68 (B 28 rfl) rfl rfl rfl ?_
 refine gG X13 hx 71 hZ hown (host := "") (Or.inl w127) Via.refl e13 W_counted (B 29 rfl) rfl (fun T14 X14 e14 => ?_)
 refine gP X14 hx 74 hZ hown (host := "") (Or.inl (W 112 rfl)) Via.refl e14 W_noLineEndFrom E_a (Or.inl (W 113 rfl)) w6 (ty := .int) (by decide) rfl rfl (B 30 rfl) rfl (fun T15 h15 X15 e15 W15 => ?_)
 have E_a := E_a.wr W15
 have W_countedPosition := W_countedPosition.other W15 (Or.inr (sn13 hw))
 have W_limit := W_limit.other W15 (Or.inr (sn14 hw))
 have W_buf := W_buf.other W15 (Or.inr (sn15 hw))
 have W_pos := W_pos.other W15 (Or.inr (sn16 hw))
 have W_noLineEndFrom := W_noLineEndFrom.same W15
 have W_counted := W_counted.other W15 (Or.inr (sn17 hw))
 have E_cp := E_cp.wr W15
 have V_bf := V_bf.other W15 ne_bf_a
 have Fl11 := Fl11.other W15 (Or.inl ne_cp_a)
 have Fc11 := Fc11.other W15 (Or.inl ne_cp_a)
 have Fa11 := Fa11.other W15 (Or.inl ne_cp_a)
 have N15 := Fr.snoc X15 N13 g_a
 have Z15 : n0 ≤ h15.size := by rw [W15.size]; exact Z13
 have K15 := K13.wr W15 (Or.inl (List.mem_of_getElem? (i := 0) rfl))
 refine ga X15 hx 75 (B 31 rfl) rfl rfl rfl ?_
 refine g_dup X15 hx 76 (B 32 rfl) rfl rfl ?_
 refine gG X15 hx 79 hZ hown (host := "") (Or.inl w110) Via.refl e15 W_pos (B 33 rfl) rfl (fun T16 X16 e16 => ?_)
 refine gn X16 hx 80 (B 34 rfl) rfl rfl ?_
 refine gp X16 hx 81 (3 : Int32) (B 35 rfl) (by decide) rfl ?_
 refine gP X16 hx 84 hZ hown (host := "") (Or.inl w110) Via.refl e16 W_pos E_a (Or.inl (W 111 rfl)) w6 (ty := .int) (by decide) rfl rfl (B 36 rfl) rfl (fun T17 h17 X17 e17 W17 => ?_)
 have E_a := E_a.wr W17
 have W_countedPosition := W_countedPosition.other W17 (Or.inr (sn8 hw))
 have W_limit := W_limit.other W17 (Or.inr (sn9 hw))
 have W_buf := W_buf.other W17 (Or.inr (sn10 hw))
 have W_pos := W_pos.same W17
 have W_noLineEndFrom := W_noLineEndFrom.other W17 (Or.inr (sn11 hw))
 have W_counted := W_counted.other W17 (Or.inr (sn12 hw))
 have E_cp := E_cp.wr W17
 have V_bf := V_bf.other W17 ne_bf_a
 have Fl11 := Fl11.other W17 (Or.inl ne_cp_a)
 have Fc11 := Fc11.other W17 (Or.inl ne_cp_a)
 have Fa11 := Fa11.other W17 (Or.inl ne_cp_a)
 have N17 := Fr.snoc X17 N15 g_a
 have Z17 : n0 ≤ h17.size := by rw [W17.size]; exact Z15
 have K17 := K15.wr W17 (Or.inl (List.mem_of_getElem? (i := 0) rfl))
 exact g_retV X17 hx hret hlk (B 37 rfl) (by decide) (by decide) (by rw [e17]; exact ⟨rfl, N17, K17, E_a, W_countedPosition, W_limit, W_buf, W_pos, W_noLineEndFrom, W_counted, E_cp, Fl11, Fc11, Fa11⟩)
set_option maxRecDepth 65536 in
set_option maxHeartbeats 40000000 in
theorem mo_1_3 {l : Launch} {Z : State} {a0 : Array Value} (hw : ∀ d ∈ tables_1, d.before a0 Z = true) (a cp bf : Addr) (en : Int32) (c0 c1 c2 c3 : Int32) (kF : ClassId) (h0 : Heap) (n0 : Nat) (Z0 : n0 ≤ h0.size) (g_a : n0 ≤ a) (g_cp : n0 ≤ cp) (E_a : Exa Z h0 a "gleanwell/Window") (W_countedPosition : Fld Z h0 a "gleanwell/Window" "countedPosition" "Lgleanwell/Position;" (.ref cp)) (W_limit : Fld Z h0 a "gleanwell/Window" "limit" "I" (.int 4)) (W_buf : Fld Z h0 a "gleanwell/Window" "buf" "[C" (.ref bf)) (W_pos : Fld Z h0 a "gleanwell/Window" "pos" "I" (.int 1)) (W_noLineEndFrom : Fld Z h0 a "gleanwell/Window" "noLineEndFrom" "I" (.int 1)) (W_counted : Fld Z h0 a "gleanwell/Window" "counted" "I" (.int 0)) (E_cp : Exa Z h0 cp "gleanwell/Position") (F_ln : Fld Z h0 cp "gleanwell/Position" "line" "J" (.long 1)) (F_co : Fld Z h0 cp "gleanwell/Position" "column" "J" (.long 1)) (F_la : Fld Z h0 cp "gleanwell/Position" "last" "C" (.int 0)) (V_bf : Arv Z h0 bf kF .char (5 : Int32) [(.int c0), (.int c1), (.int c2), (.int c3), (.int 0)] (.int 0)) (nc0 : nar .char c0 = c0) (nc1 : nar .char c1 = c1) (nc2 : nar .char c2 = c2) (nc3 : nar .char c3 = c3) (hc0 : ¬ 255 < c0) (hc1 : ¬ 255 < c1) (hc2 : ¬ 255 < c2) (hc3 : ¬ 255 < c3) :
  OwnMet l Z (⟨"gleanwell/Window", "moveOverLines", "(III)V"⟩ : MethodName) prog_52_method_4_code 4 none [] (⟨3, 0, 0, 48⟩ : Room) [(.ref a), (.int 3), (.int en), (.int 3)] h0 (fun v h L => v = none ∧ Fr n0 L ∧ Keep h0 h [a, cp] ∧ Exa Z h a "gleanwell/Window" ∧ Fld Z h a "gleanwell/Window" "countedPosition" "Lgleanwell/Position;" (.ref cp) ∧ Fld Z h a "gleanwell/Window" "limit" "I" (.int 4) ∧ Fld Z h a "gleanwell/Window" "buf" "[C" (.ref bf) ∧ Fld Z h a "gleanwell/Window" "pos" "I" (.int 4) ∧ Fld Z h a "gleanwell/Window" "noLineEndFrom" "I" (.int 4) ∧ Fld Z h a "gleanwell/Window" "counted" "I" (.int 4) ∧ Exa Z h cp "gleanwell/Position" ∧ Fld Z h cp "gleanwell/Position" "line" "J" (.long ((own_step c0 0 (1 : Int64)) + en.toInt64)) ∧ Fld Z h cp "gleanwell/Position" "column" "J" (.long 1) ∧ Fld Z h cp "gleanwell/Position" "last" "C" (.int c3)) := by
 refine own_body (Ls := #[A a, I 3, I en, I 3]) (plainFor_of_name own_pn7) (fun m => by first | (simp [entryFrame, mkF, argsToLocals, Value.category]; done) | rfl) (fun p e s m below meth cO T0 hx hby hml hown hnm hret hlk hZ X0 e0 => ?_)
 have hown : s.vm.findClass "gleanwell/Window" = some m.cls := hown
 have B {q r} (i : Nat) := own_B (q := q) (r := r) hby D32_ok i
 have W {d : Jvm.Cond} (i : Nat) (h : tables_1[i]? = some d) : d.before a0 Z = true := own_w hw i h
 have w6 := W 6 rfl
 have w127 := W 127 rfl
 have w110 := W 110 rfl
 have M {n : Nat} (h : n = _) : n = cO.maxLocals := h.trans hml.symm
 have N0 := Fr.nil n0
 have K0 := Keep.refl h0 [a, cp]
 have ne_cp_a : cp ≠ a := Ne.symm (ne_exa E_a E_cp (by decide))
 have ne_bf_a : bf ≠ a := Ne.symm (Exa.neArv E_a V_bf w6)
 have ne_bf_cp : bf ≠ cp := Ne.symm (Exa.neArv E_cp V_bf (W 42 rfl))
 refine gn X0 hx 1 (B 0 rfl) rfl rfl ?_
 refine gf X0 hx 4 (B 1 rfl) (by decide) rfl ?_
 refine ga X0 hx 5 (B 2 rfl) rfl rfl rfl ?_
 refine gG X0 hx 8 hZ hown (host := "") (Or.inl w127) Via.refl e0 W_counted (B 3 rfl) rfl (fun T1 X1 e1 => ?_)
 refine ga X1 hx 9 (B 4 rfl) rfl rfl rfl ?_
 refine gG X1 hx 12 hZ hown (host := "") (Or.inl (W 112 rfl)) Via.refl e1 W_noLineEndFrom (B 5 rfl) rfl (fun T2 X2 e2 => ?_)
 refine gF X2 hx 15 (B 6 rfl) (by decide) rfl ?_
 refine ga X2 hx 16 (B 38 rfl) rfl rfl rfl ?_
 refine gG X2 hx 19 hZ hown (host := "") (Or.inl (W 52 rfl)) Via.refl e2 W_countedPosition (B 39 rfl) rfl (fun T3 X3 e3 => ?_)
 refine ga X3 hx 20 (B 40 rfl) rfl rfl rfl ?_
 refine gG X3 hx 23 hZ hown (host := "") (Or.inl (W 68 rfl)) Via.refl e3 W_buf (B 41 rfl) rfl (fun T4 X4 e4 => ?_)
 refine ga X4 hx 24 (B 42 rfl) rfl rfl rfl ?_
 refine gG X4 hx 27 hZ hown (host := "") (Or.inl w127) Via.refl e4 W_counted (B 43 rfl) rfl (fun T5 X5 e5 => ?_)
 refine ga X5 hx 28 (B 44 rfl) rfl rfl rfl ?_
 refine gG X5 hx 31 hZ hown (host := "") (Or.inl (W 112 rfl)) Via.refl e5 W_noLineEndFrom (B 45 rfl) rfl (fun T6 X6 e6 => ?_)
 refine gV X6 hx 34 hZ hown (W 129 rfl) (W 130 rfl) (W 132 rfl) (W 131 rfl) (W 43 rfl) (W 133 rfl) (by decide) cp E_cp [(.ref bf), (.int 0), (.int 1)] [] (rp_1 hw cp bf (1 : Int64) c0 c1 c2 c3 kF h0 n0 Z0 g_cp E_cp F_ln F_co F_la V_bf nc0 nc1 nc2 nc3 hc0 hc1 hc2 hc3 (Ne.symm ne_bf_cp)) e6 0 rfl (M rfl) (lenOf pd18 rfl) (B 46 rfl) rfl rfl rfl (fun v T7 L X7 Y => ?_)
 obtain ⟨rfl, N7q, K7, E7x, Fl7, Fc7, Fa7⟩ := Y
 have N7 := Fr.app N0 N7q
 have E_a := E_a.keep K7
 have W_countedPosition := W_countedPosition.keep K7 (ninS (Ne.symm ne_cp_a) nin0)
 have W_limit := W_limit.keep K7 (ninS (Ne.symm ne_cp_a) nin0)
 have W_buf := W_buf.keep K7 (ninS (Ne.symm ne_cp_a) nin0)
 have W_pos := W_pos.keep K7 (ninS (Ne.symm ne_cp_a) nin0)
 have W_noLineEndFrom := W_noLineEndFrom.keep K7 (ninS (Ne.symm ne_cp_a) nin0)
 have W_counted := W_counted.keep K7 (ninS (Ne.symm ne_cp_a) nin0)
 have E_cp := E_cp.keep K7
 have V_bf := V_bf.keep K7 (ninS ne_bf_cp nin0)
 have KK7 := K0.trans K7 (allS (Or.inl (List.mem_of_getElem? (i := 1) rfl)) all0)
 have Z7 := Nat.le_trans Z0 K7.1
 refine ga X7 hx 35 (B 7 rfl) rfl rfl rfl ?_
 refine gG X7 hx 38 hZ hown (host := "") (Or.inl (W 52 rfl)) Via.refl rfl W_countedPosition (B 8 rfl) rfl (fun T8 X8 e8 => ?_)
 refine gn X8 hx 39 (B 9 rfl) rfl rfl ?_
 refine gL X8 hx 40 (en.toInt64) (B 10 rfl) rfl rfl ?_
 refine ga X8 hx 41 (B 11 rfl) rfl rfl rfl ?_
 refine gG X8 hx 44 hZ hown (host := "") (Or.inl (W 68 rfl)) Via.refl e8 W_buf (B 12 rfl) rfl (fun T9 X9 e9 => ?_)
 refine ga X9 hx 45 (B 13 rfl) rfl rfl rfl ?_
 refine gG X9 hx 48 hZ hown (host := "") (Or.inl w110) Via.refl e9 W_pos (B 14 rfl) rfl (fun T10 X10 e10 => ?_)
 refine gn X10 hx 49 (B 15 rfl) rfl rfl ?_
 refine gp X10 hx 50 (4 : Int32) (B 16 rfl) (by decide) rfl ?_
 refine gk X10 hx 51 1 (B 17 rfl) rfl rfl ?_
 refine gm X10 hx 52 (3 : Int32) (B 18 rfl) (by decide) rfl ?_
 refine gc X10 hx 53 hZ e10 V_bf c3 rfl rfl (B 19 rfl) rfl ?_
 refine gV X10 hx 56 hZ hown (W 173 rfl) (W 174 rfl) (W 176 rfl) (W 175 rfl) (W 43 rfl) (W 177 rfl) (by decide) cp E_cp [(.long (en.toInt64)), (.int c3)] [] (rm33 hw cp (en.toInt64) (own_step c0 0 (1 : Int64)) c3 _ _ T7.heap n0 Z7 g_cp nc3 E_cp Fl7 Fc7 Fa7) e10 0 rfl (M rfl) (lenOf pd17 rfl) (B 20 rfl) rfl rfl rfl (fun v T11 L X11 Y => ?_)
 obtain ⟨rfl, N11q, K11, E11x, Fl11, Fc11, Fa11⟩ := Y
 have N11 := Fr.app N7 N11q
 have E_a := E_a.keep K11
 have W_countedPosition := W_countedPosition.keep K11 (ninS (Ne.symm ne_cp_a) nin0)
 have W_limit := W_limit.keep K11 (ninS (Ne.symm ne_cp_a) nin0)
 have W_buf := W_buf.keep K11 (ninS (Ne.symm ne_cp_a) nin0)
 have W_pos := W_pos.keep K11 (ninS (Ne.symm ne_cp_a) nin0)
 have W_noLineEndFrom := W_noLineEndFrom.keep K11 (ninS (Ne.symm ne_cp_a) nin0)
 have W_counted := W_counted.keep K11 (ninS (Ne.symm ne_cp_a) nin0)
 have E_cp := E_cp.keep K11
 have V_bf := V_bf.keep K11 (ninS ne_bf_cp nin0)
 have KK11 := KK7.trans K11 (allS (Or.inl (List.mem_of_getElem? (i := 1) rfl)) all0)
 have Z11 := Nat.le_trans Z7 K11.1
 refine ga X11 hx 57 (B 21 rfl) rfl rfl rfl ?_
 refine ga X11 hx 58 (B 22 rfl) rfl rfl rfl ?_
 refine gG X11 hx 61 hZ hown (host := "") (Or.inl w110) Via.refl rfl W_pos (B 23 rfl) rfl (fun T12 X12 e12 => ?_)
 refine gn X12 hx 62 (B 24 rfl) rfl rfl ?_
 refine gp X12 hx 63 (4 : Int32) (B 25 rfl) (by decide) rfl ?_
 refine gP X12 hx 66 hZ hown (host := "") (Or.inl w127) Via.refl e12 W_counted E_a (Or.inl (W 128 rfl)) w6 (ty := .int) (by decide) rfl rfl (B 26 rfl) rfl (fun T13 h13 X13 e13 W13 => ?_)
 have E_a := E_a.wr W13
 have W_countedPosition := W_countedPosition.other W13 (Or.inr (sn53 hw))
 have W_limit := W_limit.other W13 (Or.inr (sn54 hw))
 have W_buf := W_buf.other W13 (Or.inr (sn55 hw))
 have W_pos := W_pos.other W13 (Or.inr (sn56 hw))
 have W_noLineEndFrom := W_noLineEndFrom.other W13 (Or.inr (sn57 hw))
 have W_counted := W_counted.same W13
 have E_cp := E_cp.wr W13
 have V_bf := V_bf.other W13 ne_bf_a
 have Fl11 := Fl11.other W13 (Or.inl ne_cp_a)
 have Fc11 := Fc11.other W13 (Or.inl ne_cp_a)
 have Fa11 := Fa11.other W13 (Or.inl ne_cp_a)
 have N13 := Fr.snoc X13 N11 g_a
 have Z13 : n0 ≤ h13.size := by rw [W13.size]; exact Z11
 have K13 := KK11.wr W13 (Or.inl (List.mem_of_getElem? (i := 0) rfl))
 refine ga X13 hx 67 (B 27 rfl) rfl rfl rfl ?_
 refine ga X13 hx 68 (B 28 rfl) rfl rfl rfl ?_
 refine gG X13 hx 71 hZ hown (host := "") (Or.inl w127) Via.refl e13 W_counted (B 29 rfl) rfl (fun T14 X14 e14 => ?_)
 refine gP X14 hx 74 hZ hown (host := "") (Or.inl (W 112 rfl)) Via.refl e14 W_noLineEndFrom E_a (Or.inl (W 113 rfl)) w6 (ty := .int) (by decide) rfl rfl (B 30 rfl) rfl (fun T15 h15 X15 e15 W15 => ?_)
 have E_a := E_a.wr W15
 have W_countedPosition := W_countedPosition.other W15 (Or.inr (sn13 hw))
 have W_limit := W_limit.other W15 (Or.inr (sn14 hw))
 have W_buf := W_buf.other W15 (Or.inr (sn15 hw))
 have W_pos := W_pos.other W15 (Or.inr (sn16 hw))
 have W_noLineEndFrom := W_noLineEndFrom.same W15
 have W_counted := W_counted.other W15 (Or.inr (sn17 hw))
 have E_cp := E_cp.wr W15
 have V_bf := V_bf.other W15 ne_bf_a
 have Fl11 := Fl11.other W15 (Or.inl ne_cp_a)
 have Fc11 := Fc11.other W15 (Or.inl ne_cp_a)
 have Fa11 := Fa11.other W15 (Or.inl ne_cp_a)
 have N15 := Fr.snoc X15 N13 g_a
 have Z15 : n0 ≤ h15.size := by rw [W15.size]; exact Z13
 have K15 := K13.wr W15 (Or.inl (List.mem_of_getElem? (i := 0) rfl))
 refine ga X15 hx 75 (B 31 rfl) rfl rfl rfl ?_
 refine g_dup X15 hx 76 (B 32 rfl) rfl rfl ?_
 refine gG X15 hx 79 hZ hown (host := "") (Or.inl w110) Via.refl e15 W_pos (B 33 rfl) rfl (fun T16 X16 e16 => ?_)
 refine gn X16 hx 80 (B 34 rfl) rfl rfl ?_
 refine gp X16 hx 81 (4 : Int32) (B 35 rfl) (by decide) rfl ?_
 refine gP X16 hx 84 hZ hown (host := "") (Or.inl w110) Via.refl e16 W_pos E_a (Or.inl (W 111 rfl)) w6 (ty := .int) (by decide) rfl rfl (B 36 rfl) rfl (fun T17 h17 X17 e17 W17 => ?_)
 have E_a := E_a.wr W17
 have W_countedPosition := W_countedPosition.other W17 (Or.inr (sn8 hw))
 have W_limit := W_limit.other W17 (Or.inr (sn9 hw))
 have W_buf := W_buf.other W17 (Or.inr (sn10 hw))
 have W_pos := W_pos.same W17
 have W_noLineEndFrom := W_noLineEndFrom.other W17 (Or.inr (sn11 hw))
 have W_counted := W_counted.other W17 (Or.inr (sn12 hw))
 have E_cp := E_cp.wr W17
 have V_bf := V_bf.other W17 ne_bf_a
 have Fl11 := Fl11.other W17 (Or.inl ne_cp_a)
 have Fc11 := Fc11.other W17 (Or.inl ne_cp_a)
 have Fa11 := Fa11.other W17 (Or.inl ne_cp_a)
 have N17 := Fr.snoc X17 N15 g_a
 have Z17 : n0 ≤ h17.size := by rw [W17.size]; exact Z15
 have K17 := K15.wr W17 (Or.inl (List.mem_of_getElem? (i := 0) rfl))
 exact g_retV X17 hx hret hlk (B 37 rfl) (by decide) (by decide) (by rw [e17]; exact ⟨rfl, N17, K17, E_a, W_countedPosition, W_limit, W_buf, W_pos, W_noLineEndFrom, W_counted, E_cp, Fl11, Fc11, Fa11⟩)
set_option maxRecDepth 65536 in
set_option maxHeartbeats 40000000 in
theorem mo_2_2 {l : Launch} {Z : State} {a0 : Array Value} (hw : ∀ d ∈ tables_1, d.before a0 Z = true) (a cp bf : Addr) (en : Int32) (c0 c1 c2 c3 : Int32) (kF : ClassId) (h0 : Heap) (n0 : Nat) (Z0 : n0 ≤ h0.size) (g_a : n0 ≤ a) (g_cp : n0 ≤ cp) (E_a : Exa Z h0 a "gleanwell/Window") (W_countedPosition : Fld Z h0 a "gleanwell/Window" "countedPosition" "Lgleanwell/Position;" (.ref cp)) (W_limit : Fld Z h0 a "gleanwell/Window" "limit" "I" (.int 4)) (W_buf : Fld Z h0 a "gleanwell/Window" "buf" "[C" (.ref bf)) (W_pos : Fld Z h0 a "gleanwell/Window" "pos" "I" (.int 2)) (W_noLineEndFrom : Fld Z h0 a "gleanwell/Window" "noLineEndFrom" "I" (.int 2)) (W_counted : Fld Z h0 a "gleanwell/Window" "counted" "I" (.int 0)) (E_cp : Exa Z h0 cp "gleanwell/Position") (F_ln : Fld Z h0 cp "gleanwell/Position" "line" "J" (.long 1)) (F_co : Fld Z h0 cp "gleanwell/Position" "column" "J" (.long 1)) (F_la : Fld Z h0 cp "gleanwell/Position" "last" "C" (.int 0)) (V_bf : Arv Z h0 bf kF .char (5 : Int32) [(.int c0), (.int c1), (.int c2), (.int c3), (.int 0)] (.int 0)) (nc0 : nar .char c0 = c0) (nc1 : nar .char c1 = c1) (nc2 : nar .char c2 = c2) (nc3 : nar .char c3 = c3) (hc0 : ¬ 255 < c0) (hc1 : ¬ 255 < c1) (hc2 : ¬ 255 < c2) (hc3 : ¬ 255 < c3) :
  OwnMet l Z (⟨"gleanwell/Window", "moveOverLines", "(III)V"⟩ : MethodName) prog_52_method_4_code 4 none [] (⟨3, 0, 0, 48⟩ : Room) [(.ref a), (.int 1), (.int en), (.int 1)] h0 (fun v h L => v = none ∧ Fr n0 L ∧ Keep h0 h [a, cp] ∧ Exa Z h a "gleanwell/Window" ∧ Fld Z h a "gleanwell/Window" "countedPosition" "Lgleanwell/Position;" (.ref cp) ∧ Fld Z h a "gleanwell/Window" "limit" "I" (.int 4) ∧ Fld Z h a "gleanwell/Window" "buf" "[C" (.ref bf) ∧ Fld Z h a "gleanwell/Window" "pos" "I" (.int 3) ∧ Fld Z h a "gleanwell/Window" "noLineEndFrom" "I" (.int 3) ∧ Fld Z h a "gleanwell/Window" "counted" "I" (.int 3) ∧ Exa Z h cp "gleanwell/Position" ∧ Fld Z h cp "gleanwell/Position" "line" "J" (.long ((own_step c1 c0 (own_step c0 0 (1 : Int64))) + en.toInt64)) ∧ Fld Z h cp "gleanwell/Position" "column" "J" (.long 1) ∧ Fld Z h cp "gleanwell/Position" "last" "C" (.int c2)) := by
 refine own_body (Ls := #[A a, I 1, I en, I 1]) (plainFor_of_name own_pn7) (fun m => by first | (simp [entryFrame, mkF, argsToLocals, Value.category]; done) | rfl) (fun p e s m below meth cO T0 hx hby hml hown hnm hret hlk hZ X0 e0 => ?_)
 have hown : s.vm.findClass "gleanwell/Window" = some m.cls := hown
 have B {q r} (i : Nat) := own_B (q := q) (r := r) hby D32_ok i
 have W {d : Jvm.Cond} (i : Nat) (h : tables_1[i]? = some d) : d.before a0 Z = true := own_w hw i h
 have w6 := W 6 rfl
 have w127 := W 127 rfl
 have w110 := W 110 rfl
 have M {n : Nat} (h : n = _) : n = cO.maxLocals := h.trans hml.symm
 have N0 := Fr.nil n0
 have K0 := Keep.refl h0 [a, cp]
 have ne_cp_a : cp ≠ a := Ne.symm (ne_exa E_a E_cp (by decide))
 have ne_bf_a : bf ≠ a := Ne.symm (Exa.neArv E_a V_bf w6)
 have ne_bf_cp : bf ≠ cp := Ne.symm (Exa.neArv E_cp V_bf (W 42 rfl))
 refine gn X0 hx 1 (B 0 rfl) rfl rfl ?_
 refine gf X0 hx 4 (B 1 rfl) (by decide) rfl ?_
 refine ga X0 hx 5 (B 2 rfl) rfl rfl rfl ?_
 refine gG X0 hx 8 hZ hown (host := "") (Or.inl w127) Via.refl e0 W_counted (B 3 rfl) rfl (fun T1 X1 e1 => ?_)
 refine ga X1 hx 9 (B 4 rfl) rfl rfl rfl ?_
 refine gG X1 hx 12 hZ hown (host := "") (Or.inl (W 112 rfl)) Via.refl e1 W_noLineEndFrom (B 5 rfl) rfl (fun T2 X2 e2 => ?_)
 refine gF X2 hx 15 (B 6 rfl) (by decide) rfl ?_
 refine ga X2 hx 16 (B 38 rfl) rfl rfl rfl ?_
 refine gG X2 hx 19 hZ hown (host := "") (Or.inl (W 52 rfl)) Via.refl e2 W_countedPosition (B 39 rfl) rfl (fun T3 X3 e3 => ?_)
 refine ga X3 hx 20 (B 40 rfl) rfl rfl rfl ?_
 refine gG X3 hx 23 hZ hown (host := "") (Or.inl (W 68 rfl)) Via.refl e3 W_buf (B 41 rfl) rfl (fun T4 X4 e4 => ?_)
 refine ga X4 hx 24 (B 42 rfl) rfl rfl rfl ?_
 refine gG X4 hx 27 hZ hown (host := "") (Or.inl w127) Via.refl e4 W_counted (B 43 rfl) rfl (fun T5 X5 e5 => ?_)
 refine ga X5 hx 28 (B 44 rfl) rfl rfl rfl ?_
 refine gG X5 hx 31 hZ hown (host := "") (Or.inl (W 112 rfl)) Via.refl e5 W_noLineEndFrom (B 45 rfl) rfl (fun T6 X6 e6 => ?_)
 refine gV X6 hx 34 hZ hown (W 129 rfl) (W 130 rfl) (W 132 rfl) (W 131 rfl) (W 43 rfl) (W 133 rfl) (by decide) cp E_cp [(.ref bf), (.int 0), (.int 2)] [] (rp_2 hw cp bf (1 : Int64) c0 c1 c2 c3 kF h0 n0 Z0 g_cp E_cp F_ln F_co F_la V_bf nc0 nc1 nc2 nc3 hc0 hc1 hc2 hc3 (Ne.symm ne_bf_cp)) e6 0 rfl (M rfl) (lenOf pd18 rfl) (B 46 rfl) rfl rfl rfl (fun v T7 L X7 Y => ?_)
 obtain ⟨rfl, N7q, K7, E7x, Fl7, Fc7, Fa7⟩ := Y
 have N7 := Fr.app N0 N7q
 have E_a := E_a.keep K7
 have W_countedPosition := W_countedPosition.keep K7 (ninS (Ne.symm ne_cp_a) nin0)
 have W_limit := W_limit.keep K7 (ninS (Ne.symm ne_cp_a) nin0)
 have W_buf := W_buf.keep K7 (ninS (Ne.symm ne_cp_a) nin0)
 have W_pos := W_pos.keep K7 (ninS (Ne.symm ne_cp_a) nin0)
 have W_noLineEndFrom := W_noLineEndFrom.keep K7 (ninS (Ne.symm ne_cp_a) nin0)
 have W_counted := W_counted.keep K7 (ninS (Ne.symm ne_cp_a) nin0)
 have E_cp := E_cp.keep K7
 have V_bf := V_bf.keep K7 (ninS ne_bf_cp nin0)
 have KK7 := K0.trans K7 (allS (Or.inl (List.mem_of_getElem? (i := 1) rfl)) all0)
 have Z7 := Nat.le_trans Z0 K7.1
 refine ga X7 hx 35 (B 7 rfl) rfl rfl rfl ?_
 refine gG X7 hx 38 hZ hown (host := "") (Or.inl (W 52 rfl)) Via.refl rfl W_countedPosition (B 8 rfl) rfl (fun T8 X8 e8 => ?_)
 refine gn X8 hx 39 (B 9 rfl) rfl rfl ?_
 refine gL X8 hx 40 (en.toInt64) (B 10 rfl) rfl rfl ?_
 refine ga X8 hx 41 (B 11 rfl) rfl rfl rfl ?_
 refine gG X8 hx 44 hZ hown (host := "") (Or.inl (W 68 rfl)) Via.refl e8 W_buf (B 12 rfl) rfl (fun T9 X9 e9 => ?_)
 refine ga X9 hx 45 (B 13 rfl) rfl rfl rfl ?_
 refine gG X9 hx 48 hZ hown (host := "") (Or.inl w110) Via.refl e9 W_pos (B 14 rfl) rfl (fun T10 X10 e10 => ?_)
 refine gn X10 hx 49 (B 15 rfl) rfl rfl ?_
 refine gp X10 hx 50 (3 : Int32) (B 16 rfl) (by decide) rfl ?_
 refine gk X10 hx 51 1 (B 17 rfl) rfl rfl ?_
 refine gm X10 hx 52 (2 : Int32) (B 18 rfl) (by decide) rfl ?_
 refine gc X10 hx 53 hZ e10 V_bf c2 rfl rfl (B 19 rfl) rfl ?_
 refine gV X10 hx 56 hZ hown (W 173 rfl) (W 174 rfl) (W 176 rfl) (W 175 rfl) (W 43 rfl) (W 177 rfl) (by decide) cp E_cp [(.long (en.toInt64)), (.int c2)] [] (rm33 hw cp (en.toInt64) (own_step c1 c0 (own_step c0 0 (1 : Int64))) c2 _ _ T7.heap n0 Z7 g_cp nc2 E_cp Fl7 Fc7 Fa7) e10 0 rfl (M rfl) (lenOf pd17 rfl) (B 20 rfl) rfl rfl rfl (fun v T11 L X11 Y => ?_)
 obtain ⟨rfl, N11q, K11, E11x, Fl11, Fc11, Fa11⟩ := Y
 have N11 := Fr.app N7 N11q
 have E_a := E_a.keep K11
 have W_countedPosition := W_countedPosition.keep K11 (ninS (Ne.symm ne_cp_a) nin0)
 have W_limit := W_limit.keep K11 (ninS (Ne.symm ne_cp_a) nin0)
 have W_buf := W_buf.keep K11 (ninS (Ne.symm ne_cp_a) nin0)
 have W_pos := W_pos.keep K11 (ninS (Ne.symm ne_cp_a) nin0)
 have W_noLineEndFrom := W_noLineEndFrom.keep K11 (ninS (Ne.symm ne_cp_a) nin0)
 have W_counted := W_counted.keep K11 (ninS (Ne.symm ne_cp_a) nin0)
 have E_cp := E_cp.keep K11
 have V_bf := V_bf.keep K11 (ninS ne_bf_cp nin0)
 have KK11 := KK7.trans K11 (allS (Or.inl (List.mem_of_getElem? (i := 1) rfl)) all0)
 have Z11 := Nat.le_trans Z7 K11.1
 refine ga X11 hx 57 (B 21 rfl) rfl rfl rfl ?_
 refine ga X11 hx 58 (B 22 rfl) rfl rfl rfl ?_
 refine gG X11 hx 61 hZ hown (host := "") (Or.inl w110) Via.refl rfl W_pos (B 23 rfl) rfl (fun T12 X12 e12 => ?_)
 refine gn X12 hx 62 (B 24 rfl) rfl rfl ?_
 refine gp X12 hx 63 (3 : Int32) (B 25 rfl) (by decide) rfl ?_
 refine gP X12 hx 66 hZ hown (host := "") (Or.inl w127) Via.refl e12 W_counted E_a (Or.inl (W 128 rfl)) w6 (ty := .int) (by decide) rfl rfl (B 26 rfl) rfl (fun T13 h13 X13 e13 W13 => ?_)
 have E_a := E_a.wr W13
 have W_countedPosition := W_countedPosition.other W13 (Or.inr (sn53 hw))
 have W_limit := W_limit.other W13 (Or.inr (sn54 hw))
 have W_buf := W_buf.other W13 (Or.inr (sn55 hw))
 have W_pos := W_pos.other W13 (Or.inr (sn56 hw))
 have W_noLineEndFrom := W_noLineEndFrom.other W13 (Or.inr (sn57 hw))
 have W_counted := W_counted.same W13
 have E_cp := E_cp.wr W13
 have V_bf := V_bf.other W13 ne_bf_a
 have Fl11 := Fl11.other W13 (Or.inl ne_cp_a)
 have Fc11 := Fc11.other W13 (Or.inl ne_cp_a)
 have Fa11 := Fa11.other W13 (Or.inl ne_cp_a)
 have N13 := Fr.snoc X13 N11 g_a
 have Z13 : n0 ≤ h13.size := by rw [W13.size]; exact Z11
 have K13 := KK11.wr W13 (Or.inl (List.mem_of_getElem? (i := 0) rfl))
 refine ga X13 hx 67 (B 27 rfl) rfl rfl rfl ?_
 refine ga X13 hx 68 (B 28 rfl) rfl rfl rfl ?_
 refine gG X13 hx 71 hZ hown (host := "") (Or.inl w127) Via.refl e13 W_counted (B 29 rfl) rfl (fun T14 X14 e14 => ?_)
 refine gP X14 hx 74 hZ hown (host := "") (Or.inl (W 112 rfl)) Via.refl e14 W_noLineEndFrom E_a (Or.inl (W 113 rfl)) w6 (ty := .int) (by decide) rfl rfl (B 30 rfl) rfl (fun T15 h15 X15 e15 W15 => ?_)
 have E_a := E_a.wr W15
 have W_countedPosition := W_countedPosition.other W15 (Or.inr (sn13 hw))
 have W_limit := W_limit.other W15 (Or.inr (sn14 hw))
 have W_buf := W_buf.other W15 (Or.inr (sn15 hw))
 have W_pos := W_pos.other W15 (Or.inr (sn16 hw))
 have W_noLineEndFrom := W_noLineEndFrom.same W15
 have W_counted := W_counted.other W15 (Or.inr (sn17 hw))
 have E_cp := E_cp.wr W15
 have V_bf := V_bf.other W15 ne_bf_a
 have Fl11 := Fl11.other W15 (Or.inl ne_cp_a)
 have Fc11 := Fc11.other W15 (Or.inl ne_cp_a)
 have Fa11 := Fa11.other W15 (Or.inl ne_cp_a)
 have N15 := Fr.snoc X15 N13 g_a
 have Z15 : n0 ≤ h15.size := by rw [W15.size]; exact Z13
 have K15 := K13.wr W15 (Or.inl (List.mem_of_getElem? (i := 0) rfl))
 refine ga X15 hx 75 (B 31 rfl) rfl rfl rfl ?_
 refine g_dup X15 hx 76 (B 32 rfl) rfl rfl ?_
 refine gG X15 hx 79 hZ hown (host := "") (Or.inl w110) Via.refl e15 W_pos (B 33 rfl) rfl (fun T16 X16 e16 => ?_)
 refine gn X16 hx 80 (B 34 rfl) rfl rfl ?_
 refine gp X16 hx 81 (3 : Int32) (B 35 rfl) (by decide) rfl ?_
 refine gP X16 hx 84 hZ hown (host := "") (Or.inl w110) Via.refl e16 W_pos E_a (Or.inl (W 111 rfl)) w6 (ty := .int) (by decide) rfl rfl (B 36 rfl) rfl (fun T17 h17 X17 e17 W17 => ?_)
 have E_a := E_a.wr W17
 have W_countedPosition := W_countedPosition.other W17 (Or.inr (sn8 hw))
 have W_limit := W_limit.other W17 (Or.inr (sn9 hw))
 have W_buf := W_buf.other W17 (Or.inr (sn10 hw))
 have W_pos := W_pos.same W17
 have W_noLineEndFrom := W_noLineEndFrom.other W17 (Or.inr (sn11 hw))
 have W_counted := W_counted.other W17 (Or.inr (sn12 hw))
 have E_cp := E_cp.wr W17
 have V_bf := V_bf.other W17 ne_bf_a
 have Fl11 := Fl11.other W17 (Or.inl ne_cp_a)
 have Fc11 := Fc11.other W17 (Or.inl ne_cp_a)
 have Fa11 := Fa11.other W17 (Or.inl ne_cp_a)
 have N17 := Fr.snoc X17 N15 g_a
 have Z17 : n0 ≤ h17.size := by rw [W17.size]; exact Z15
 have K17 := K15.wr W17 (Or.inl (List.mem_of_getElem? (i := 0) rfl))
 exact g_retV X17 hx hret hlk (B 37 rfl) (by decide) (by decide) (by rw [e17]; exact ⟨rfl, N17, K17, E_a, W_countedPosition, W_limit, W_buf, W_pos, W_noLineEndFrom, W_counted, E_cp, Fl11, Fc11, Fa11⟩)
set_option maxRecDepth 65536 in
set_option maxHeartbeats 40000000 in
theorem mo_2_3 {l : Launch} {Z : State} {a0 : Array Value} (hw : ∀ d ∈ tables_1, d.before a0 Z = true) (a cp bf : Addr) (en : Int32) (c0 c1 c2 c3 : Int32) (kF : ClassId) (h0 : Heap) (n0 : Nat) (Z0 : n0 ≤ h0.size) (g_a : n0 ≤ a) (g_cp : n0 ≤ cp) (E_a : Exa Z h0 a "gleanwell/Window") (W_countedPosition : Fld Z h0 a "gleanwell/Window" "countedPosition" "Lgleanwell/Position;" (.ref cp)) (W_limit : Fld Z h0 a "gleanwell/Window" "limit" "I" (.int 4)) (W_buf : Fld Z h0 a "gleanwell/Window" "buf" "[C" (.ref bf)) (W_pos : Fld Z h0 a "gleanwell/Window" "pos" "I" (.int 2)) (W_noLineEndFrom : Fld Z h0 a "gleanwell/Window" "noLineEndFrom" "I" (.int 2)) (W_counted : Fld Z h0 a "gleanwell/Window" "counted" "I" (.int 0)) (E_cp : Exa Z h0 cp "gleanwell/Position") (F_ln : Fld Z h0 cp "gleanwell/Position" "line" "J" (.long 1)) (F_co : Fld Z h0 cp "gleanwell/Position" "column" "J" (.long 1)) (F_la : Fld Z h0 cp "gleanwell/Position" "last" "C" (.int 0)) (V_bf : Arv Z h0 bf kF .char (5 : Int32) [(.int c0), (.int c1), (.int c2), (.int c3), (.int 0)] (.int 0)) (nc0 : nar .char c0 = c0) (nc1 : nar .char c1 = c1) (nc2 : nar .char c2 = c2) (nc3 : nar .char c3 = c3) (hc0 : ¬ 255 < c0) (hc1 : ¬ 255 < c1) (hc2 : ¬ 255 < c2) (hc3 : ¬ 255 < c3) :
  OwnMet l Z (⟨"gleanwell/Window", "moveOverLines", "(III)V"⟩ : MethodName) prog_52_method_4_code 4 none [] (⟨3, 0, 0, 48⟩ : Room) [(.ref a), (.int 2), (.int en), (.int 2)] h0 (fun v h L => v = none ∧ Fr n0 L ∧ Keep h0 h [a, cp] ∧ Exa Z h a "gleanwell/Window" ∧ Fld Z h a "gleanwell/Window" "countedPosition" "Lgleanwell/Position;" (.ref cp) ∧ Fld Z h a "gleanwell/Window" "limit" "I" (.int 4) ∧ Fld Z h a "gleanwell/Window" "buf" "[C" (.ref bf) ∧ Fld Z h a "gleanwell/Window" "pos" "I" (.int 4) ∧ Fld Z h a "gleanwell/Window" "noLineEndFrom" "I" (.int 4) ∧ Fld Z h a "gleanwell/Window" "counted" "I" (.int 4) ∧ Exa Z h cp "gleanwell/Position" ∧ Fld Z h cp "gleanwell/Position" "line" "J" (.long ((own_step c1 c0 (own_step c0 0 (1 : Int64))) + en.toInt64)) ∧ Fld Z h cp "gleanwell/Position" "column" "J" (.long 1) ∧ Fld Z h cp "gleanwell/Position" "last" "C" (.int c3)) := by
 refine own_body (Ls := #[A a, I 2, I en, I 2]) (plainFor_of_name own_pn7) (fun m => by first | (simp [entryFrame, mkF, argsToLocals, Value.category]; done) | rfl) (fun p e s m below meth cO T0 hx hby hml hown hnm hret hlk hZ X0 e0 => ?_)
 have hown : s.vm.findClass "gleanwell/Window" = some m.cls := hown
 have B {q r} (i : Nat) := own_B (q := q) (r := r) hby D32_ok i
 have W {d : Jvm.Cond} (i : Nat) (h : tables_1[i]? = some d) : d.before a0 Z = true := own_w hw i h
 have w6 := W 6 rfl
 have w127 := W 127 rfl
 have w110 := W 110 rfl
 have M {n : Nat} (h : n = _) : n = cO.maxLocals := h.trans hml.symm
 have N0 := Fr.nil n0
 have K0 := Keep.refl h0 [a, cp]
 have ne_cp_a : cp ≠ a := Ne.symm (ne_exa E_a E_cp (by decide))
 have ne_bf_a : bf ≠ a := Ne.symm (Exa.neArv E_a V_bf w6)
 have ne_bf_cp : bf ≠ cp := Ne.symm (Exa.neArv E_cp V_bf (W 42 rfl))
 refine gn X0 hx 1 (B 0 rfl) rfl rfl ?_
 refine gf X0 hx 4 (B 1 rfl) (by decide) rfl ?_
 refine ga X0 hx 5 (B 2 rfl) rfl rfl rfl ?_
 refine gG X0 hx 8 hZ hown (host := "") (Or.inl w127) Via.refl e0 W_counted (B 3 rfl) rfl (fun T1 X1 e1 => ?_)
 refine ga X1 hx 9 (B 4 rfl) rfl rfl rfl ?_
 refine gG X1 hx 12 hZ hown (host := "") (Or.inl (W 112 rfl)) Via.refl e1 W_noLineEndFrom (B 5 rfl) rfl (fun T2 X2 e2 => ?_)
 refine gF X2 hx 15 (B 6 rfl) (by decide) rfl ?_
 refine ga X2 hx 16 (B 38 rfl) rfl rfl rfl ?_
 refine gG X2 hx 19 hZ hown (host := "") (Or.inl (W 52 rfl)) Via.refl e2 W_countedPosition (B 39 rfl) rfl (fun T3 X3 e3 => ?_)
 refine ga X3 hx 20 (B 40 rfl) rfl rfl rfl ?_
 refine gG X3 hx 23 hZ hown (host := "") (Or.inl (W 68 rfl)) Via.refl e3 W_buf (B 41 rfl) rfl (fun T4 X4 e4 => ?_)
 refine ga X4 hx 24 (B 42 rfl) rfl rfl rfl ?_
 refine gG X4 hx 27 hZ hown (host := "") (Or.inl w127) Via.refl e4 W_counted (B 43 rfl) rfl (fun T5 X5 e5 => ?_)
 refine ga X5 hx 28 (B 44 rfl) rfl rfl rfl ?_
 refine gG X5 hx 31 hZ hown (host := "") (Or.inl (W 112 rfl)) Via.refl e5 W_noLineEndFrom (B 45 rfl) rfl (fun T6 X6 e6 => ?_)
 refine gV X6 hx 34 hZ hown (W 129 rfl) (W 130 rfl) (W 132 rfl) (W 131 rfl) (W 43 rfl) (W 133 rfl) (by decide) cp E_cp [(.ref bf), (.int 0), (.int 2)] [] (rp_2 hw cp bf (1 : Int64) c0 c1 c2 c3 kF h0 n0 Z0 g_cp E_cp F_ln F_co F_la V_bf nc0 nc1 nc2 nc3 hc0 hc1 hc2 hc3 (Ne.symm ne_bf_cp)) e6 0 rfl (M rfl) (lenOf pd18 rfl) (B 46 rfl) rfl rfl rfl (fun v T7 L X7 Y => ?_)
 obtain ⟨rfl, N7q, K7, E7x, Fl7, Fc7, Fa7⟩ := Y
 have N7 := Fr.app N0 N7q
 have E_a := E_a.keep K7
 have W_countedPosition := W_countedPosition.keep K7 (ninS (Ne.symm ne_cp_a) nin0)
 have W_limit := W_limit.keep K7 (ninS (Ne.symm ne_cp_a) nin0)
 have W_buf := W_buf.keep K7 (ninS (Ne.symm ne_cp_a) nin0)
 have W_pos := W_pos.keep K7 (ninS (Ne.symm ne_cp_a) nin0)
 have W_noLineEndFrom := W_noLineEndFrom.keep K7 (ninS (Ne.symm ne_cp_a) nin0)
 have W_counted := W_counted.keep K7 (ninS (Ne.symm ne_cp_a) nin0)
 have E_cp := E_cp.keep K7
 have V_bf := V_bf.keep K7 (ninS ne_bf_cp nin0)
 have KK7 := K0.trans K7 (allS (Or.inl (List.mem_of_getElem? (i := 1) rfl)) all0)
 have Z7 := Nat.le_trans Z0 K7.1
 refine ga X7 hx 35 (B 7 rfl) rfl rfl rfl ?_
 refine gG X7 hx 38 hZ hown (host := "") (Or.inl (W 52 rfl)) Via.refl rfl W_countedPosition (B 8 rfl) rfl (fun T8 X8 e8 => ?_)
 refine gn X8 hx 39 (B 9 rfl) rfl rfl ?_
 refine gL X8 hx 40 (en.toInt64) (B 10 rfl) rfl rfl ?_
 refine ga X8 hx 41 (B 11 rfl) rfl rfl rfl ?_
 refine gG X8 hx 44 hZ hown (host := "") (Or.inl (W 68 rfl)) Via.refl e8 W_buf (B 12 rfl) rfl (fun T9 X9 e9 => ?_)
 refine ga X9 hx 45 (B 13 rfl) rfl rfl rfl ?_
 refine gG X9 hx 48 hZ hown (host := "") (Or.inl w110) Via.refl e9 W_pos (B 14 rfl) rfl (fun T10 X10 e10 => ?_)
 refine gn X10 hx 49 (B 15 rfl) rfl rfl ?_
 refine gp X10 hx 50 (4 : Int32) (B 16 rfl) (by decide) rfl ?_
 refine gk X10 hx 51 1 (B 17 rfl) rfl rfl ?_
 refine gm X10 hx 52 (3 : Int32) (B 18 rfl) (by decide) rfl ?_
 refine gc X10 hx 53 hZ e10 V_bf c3 rfl rfl (B 19 rfl) rfl ?_
 refine gV X10 hx 56 hZ hown (W 173 rfl) (W 174 rfl) (W 176 rfl) (W 175 rfl) (W 43 rfl) (W 177 rfl) (by decide) cp E_cp [(.long (en.toInt64)), (.int c3)] [] (rm33 hw cp (en.toInt64) (own_step c1 c0 (own_step c0 0 (1 : Int64))) c3 _ _ T7.heap n0 Z7 g_cp nc3 E_cp Fl7 Fc7 Fa7) e10 0 rfl (M rfl) (lenOf pd17 rfl) (B 20 rfl) rfl rfl rfl (fun v T11 L X11 Y => ?_)
 obtain ⟨rfl, N11q, K11, E11x, Fl11, Fc11, Fa11⟩ := Y
 have N11 := Fr.app N7 N11q
 have E_a := E_a.keep K11
 have W_countedPosition := W_countedPosition.keep K11 (ninS (Ne.symm ne_cp_a) nin0)
 have W_limit := W_limit.keep K11 (ninS (Ne.symm ne_cp_a) nin0)
 have W_buf := W_buf.keep K11 (ninS (Ne.symm ne_cp_a) nin0)
 have W_pos := W_pos.keep K11 (ninS (Ne.symm ne_cp_a) nin0)
 have W_noLineEndFrom := W_noLineEndFrom.keep K11 (ninS (Ne.symm ne_cp_a) nin0)
 have W_counted := W_counted.keep K11 (ninS (Ne.symm ne_cp_a) nin0)
 have E_cp := E_cp.keep K11
 have V_bf := V_bf.keep K11 (ninS ne_bf_cp nin0)
 have KK11 := KK7.trans K11 (allS (Or.inl (List.mem_of_getElem? (i := 1) rfl)) all0)
 have Z11 := Nat.le_trans Z7 K11.1
 refine ga X11 hx 57 (B 21 rfl) rfl rfl rfl ?_
 refine ga X11 hx 58 (B 22 rfl) rfl rfl rfl ?_
 refine gG X11 hx 61 hZ hown (host := "") (Or.inl w110) Via.refl rfl W_pos (B 23 rfl) rfl (fun T12 X12 e12 => ?_)
 refine gn X12 hx 62 (B 24 rfl) rfl rfl ?_
 refine gp X12 hx 63 (4 : Int32) (B 25 rfl) (by decide) rfl ?_
 refine gP X12 hx 66 hZ hown (host := "") (Or.inl w127) Via.refl e12 W_counted E_a (Or.inl (W 128 rfl)) w6 (ty := .int) (by decide) rfl rfl (B 26 rfl) rfl (fun T13 h13 X13 e13 W13 => ?_)
 have E_a := E_a.wr W13
 have W_countedPosition := W_countedPosition.other W13 (Or.inr (sn53 hw))
 have W_limit := W_limit.other W13 (Or.inr (sn54 hw))
 have W_buf := W_buf.other W13 (Or.inr (sn55 hw))
 have W_pos := W_pos.other W13 (Or.inr (sn56 hw))
 have W_noLineEndFrom := W_noLineEndFrom.other W13 (Or.inr (sn57 hw))
 have W_counted := W_counted.same W13
 have E_cp := E_cp.wr W13
 have V_bf := V_bf.other W13 ne_bf_a
 have Fl11 := Fl11.other W13 (Or.inl ne_cp_a)
 have Fc11 := Fc11.other W13 (Or.inl ne_cp_a)
 have Fa11 := Fa11.other W13 (Or.inl ne_cp_a)
 have N13 := Fr.snoc X13 N11 g_a
 have Z13 : n0 ≤ h13.size := by rw [W13.size]; exact Z11
 have K13 := KK11.wr W13 (Or.inl (List.mem_of_getElem? (i := 0) rfl))
 refine ga X13 hx 67 (B 27 rfl) rfl rfl rfl ?_
 refine ga X13 hx 68 (B 28 rfl) rfl rfl rfl ?_
 refine gG X13 hx 71 hZ hown (host := "") (Or.inl w127) Via.refl e13 W_counted (B 29 rfl) rfl (fun T14 X14 e14 => ?_)
 refine gP X14 hx 74 hZ hown (host := "") (Or.inl (W 112 rfl)) Via.refl e14 W_noLineEndFrom E_a (Or.inl (W 113 rfl)) w6 (ty := .int) (by decide) rfl rfl (B 30 rfl) rfl (fun T15 h15 X15 e15 W15 => ?_)
 have E_a := E_a.wr W15
 have W_countedPosition := W_countedPosition.other W15 (Or.inr (sn13 hw))
 have W_limit := W_limit.other W15 (Or.inr (sn14 hw))
 have W_buf := W_buf.other W15 (Or.inr (sn15 hw))
 have W_pos := W_pos.other W15 (Or.inr (sn16 hw))
 have W_noLineEndFrom := W_noLineEndFrom.same W15
 have W_counted := W_counted.other W15 (Or.inr (sn17 hw))
 have E_cp := E_cp.wr W15
 have V_bf := V_bf.other W15 ne_bf_a
 have Fl11 := Fl11.other W15 (Or.inl ne_cp_a)
 have Fc11 := Fc11.other W15 (Or.inl ne_cp_a)
 have Fa11 := Fa11.other W15 (Or.inl ne_cp_a)
 have N15 := Fr.snoc X15 N13 g_a
 have Z15 : n0 ≤ h15.size := by rw [W15.size]; exact Z13
 have K15 := K13.wr W15 (Or.inl (List.mem_of_getElem? (i := 0) rfl))
 refine ga X15 hx 75 (B 31 rfl) rfl rfl rfl ?_
 refine g_dup X15 hx 76 (B 32 rfl) rfl rfl ?_
 refine gG X15 hx 79 hZ hown (host := "") (Or.inl w110) Via.refl e15 W_pos (B 33 rfl) rfl (fun T16 X16 e16 => ?_)
 refine gn X16 hx 80 (B 34 rfl) rfl rfl ?_
 refine gp X16 hx 81 (4 : Int32) (B 35 rfl) (by decide) rfl ?_
 refine gP X16 hx 84 hZ hown (host := "") (Or.inl w110) Via.refl e16 W_pos E_a (Or.inl (W 111 rfl)) w6 (ty := .int) (by decide) rfl rfl (B 36 rfl) rfl (fun T17 h17 X17 e17 W17 => ?_)
 have E_a := E_a.wr W17
 have W_countedPosition := W_countedPosition.other W17 (Or.inr (sn8 hw))
 have W_limit := W_limit.other W17 (Or.inr (sn9 hw))
 have W_buf := W_buf.other W17 (Or.inr (sn10 hw))
 have W_pos := W_pos.same W17
 have W_noLineEndFrom := W_noLineEndFrom.other W17 (Or.inr (sn11 hw))
 have W_counted := W_counted.other W17 (Or.inr (sn12 hw))
 have E_cp := E_cp.wr W17
 have V_bf := V_bf.other W17 ne_bf_a
 have Fl11 := Fl11.other W17 (Or.inl ne_cp_a)
 have Fc11 := Fc11.other W17 (Or.inl ne_cp_a)
 have Fa11 := Fa11.other W17 (Or.inl ne_cp_a)
 have N17 := Fr.snoc X17 N15 g_a
 have Z17 : n0 ≤ h17.size := by rw [W17.size]; exact Z15
 have K17 := K15.wr W17 (Or.inl (List.mem_of_getElem? (i := 0) rfl))
 exact g_retV X17 hx hret hlk (B 37 rfl) (by decide) (by decide) (by rw [e17]; exact ⟨rfl, N17, K17, E_a, W_countedPosition, W_limit, W_buf, W_pos, W_noLineEndFrom, W_counted, E_cp, Fl11, Fc11, Fa11⟩)
set_option maxRecDepth 65536 in
set_option maxHeartbeats 40000000 in
theorem mo_3_3 {l : Launch} {Z : State} {a0 : Array Value} (hw : ∀ d ∈ tables_1, d.before a0 Z = true) (a cp bf : Addr) (en : Int32) (c0 c1 c2 c3 : Int32) (kF : ClassId) (h0 : Heap) (n0 : Nat) (Z0 : n0 ≤ h0.size) (g_a : n0 ≤ a) (g_cp : n0 ≤ cp) (E_a : Exa Z h0 a "gleanwell/Window") (W_countedPosition : Fld Z h0 a "gleanwell/Window" "countedPosition" "Lgleanwell/Position;" (.ref cp)) (W_limit : Fld Z h0 a "gleanwell/Window" "limit" "I" (.int 4)) (W_buf : Fld Z h0 a "gleanwell/Window" "buf" "[C" (.ref bf)) (W_pos : Fld Z h0 a "gleanwell/Window" "pos" "I" (.int 3)) (W_noLineEndFrom : Fld Z h0 a "gleanwell/Window" "noLineEndFrom" "I" (.int 3)) (W_counted : Fld Z h0 a "gleanwell/Window" "counted" "I" (.int 0)) (E_cp : Exa Z h0 cp "gleanwell/Position") (F_ln : Fld Z h0 cp "gleanwell/Position" "line" "J" (.long 1)) (F_co : Fld Z h0 cp "gleanwell/Position" "column" "J" (.long 1)) (F_la : Fld Z h0 cp "gleanwell/Position" "last" "C" (.int 0)) (V_bf : Arv Z h0 bf kF .char (5 : Int32) [(.int c0), (.int c1), (.int c2), (.int c3), (.int 0)] (.int 0)) (nc0 : nar .char c0 = c0) (nc1 : nar .char c1 = c1) (nc2 : nar .char c2 = c2) (nc3 : nar .char c3 = c3) (hc0 : ¬ 255 < c0) (hc1 : ¬ 255 < c1) (hc2 : ¬ 255 < c2) (hc3 : ¬ 255 < c3) :
  OwnMet l Z (⟨"gleanwell/Window", "moveOverLines", "(III)V"⟩ : MethodName) prog_52_method_4_code 4 none [] (⟨3, 0, 0, 48⟩ : Room) [(.ref a), (.int 1), (.int en), (.int 1)] h0 (fun v h L => v = none ∧ Fr n0 L ∧ Keep h0 h [a, cp] ∧ Exa Z h a "gleanwell/Window" ∧ Fld Z h a "gleanwell/Window" "countedPosition" "Lgleanwell/Position;" (.ref cp) ∧ Fld Z h a "gleanwell/Window" "limit" "I" (.int 4) ∧ Fld Z h a "gleanwell/Window" "buf" "[C" (.ref bf) ∧ Fld Z h a "gleanwell/Window" "pos" "I" (.int 4) ∧ Fld Z h a "gleanwell/Window" "noLineEndFrom" "I" (.int 4) ∧ Fld Z h a "gleanwell/Window" "counted" "I" (.int 4) ∧ Exa Z h cp "gleanwell/Position" ∧ Fld Z h cp "gleanwell/Position" "line" "J" (.long ((own_step c2 c1 (own_step c1 c0 (own_step c0 0 (1 : Int64)))) + en.toInt64)) ∧ Fld Z h cp "gleanwell/Position" "column" "J" (.long 1) ∧ Fld Z h cp "gleanwell/Position" "last" "C" (.int c3)) := by
 refine own_body (Ls := #[A a, I 1, I en, I 1]) (plainFor_of_name own_pn7) (fun m => by first | (simp [entryFrame, mkF, argsToLocals, Value.category]; done) | rfl) (fun p e s m below meth cO T0 hx hby hml hown hnm hret hlk hZ X0 e0 => ?_)
 have hown : s.vm.findClass "gleanwell/Window" = some m.cls := hown
 have B {q r} (i : Nat) := own_B (q := q) (r := r) hby D32_ok i
 have W {d : Jvm.Cond} (i : Nat) (h : tables_1[i]? = some d) : d.before a0 Z = true := own_w hw i h
 have w6 := W 6 rfl
 have w127 := W 127 rfl
 have w110 := W 110 rfl
 have M {n : Nat} (h : n = _) : n = cO.maxLocals := h.trans hml.symm
 have N0 := Fr.nil n0
 have K0 := Keep.refl h0 [a, cp]
 have ne_cp_a : cp ≠ a := Ne.symm (ne_exa E_a E_cp (by decide))
 have ne_bf_a : bf ≠ a := Ne.symm (Exa.neArv E_a V_bf w6)
 have ne_bf_cp : bf ≠ cp := Ne.symm (Exa.neArv E_cp V_bf (W 42 rfl))
 refine gn X0 hx 1 (B 0 rfl) rfl rfl ?_
 refine gf X0 hx 4 (B 1 rfl) (by decide) rfl ?_
 refine ga X0 hx 5 (B 2 rfl) rfl rfl rfl ?_
 refine gG X0 hx 8 hZ hown (host := "") (Or.inl w127) Via.refl e0 W_counted (B 3 rfl) rfl (fun T1 X1 e1 => ?_)
 refine ga X1 hx 9 (B 4 rfl) rfl rfl rfl ?_
 refine gG X1 hx 12 hZ hown (host := "") (Or.inl (W 112 rfl)) Via.refl e1 W_noLineEndFrom (B 5 rfl) rfl (fun T2 X2 e2 => ?_)
 refine gF X2 hx 15 (B 6 rfl) (by decide) rfl ?_
 refine ga X2 hx 16 (B 38 rfl) rfl rfl rfl ?_
 refine gG X2 hx 19 hZ hown (host := "") (Or.inl (W 52 rfl)) Via.refl e2 W_countedPosition (B 39 rfl) rfl (fun T3 X3 e3 => ?_)
 refine ga X3 hx 20 (B 40 rfl) rfl rfl rfl ?_
 refine gG X3 hx 23 hZ hown (host := "") (Or.inl (W 68 rfl)) Via.refl e3 W_buf (B 41 rfl) rfl (fun T4 X4 e4 => ?_)
 refine ga X4 hx 24 (B 42 rfl) rfl rfl rfl ?_
 refine gG X4 hx 27 hZ hown (host := "") (Or.inl w127) Via.refl e4 W_counted (B 43 rfl) rfl (fun T5 X5 e5 => ?_)
 refine ga X5 hx 28 (B 44 rfl) rfl rfl rfl ?_
 refine gG X5 hx 31 hZ hown (host := "") (Or.inl (W 112 rfl)) Via.refl e5 W_noLineEndFrom (B 45 rfl) rfl (fun T6 X6 e6 => ?_)
 refine gV X6 hx 34 hZ hown (W 129 rfl) (W 130 rfl) (W 132 rfl) (W 131 rfl) (W 43 rfl) (W 133 rfl) (by decide) cp E_cp [(.ref bf), (.int 0), (.int 3)] [] (rp_3 hw cp bf (1 : Int64) c0 c1 c2 c3 kF h0 n0 Z0 g_cp E_cp F_ln F_co F_la V_bf nc0 nc1 nc2 nc3 hc0 hc1 hc2 hc3 (Ne.symm ne_bf_cp)) e6 0 rfl (M rfl) (lenOf pd18 rfl) (B 46 rfl) rfl rfl rfl (fun v T7 L X7 Y => ?_)
 obtain ⟨rfl, N7q, K7, E7x, Fl7, Fc7, Fa7⟩ := Y
 have N7 := Fr.app N0 N7q
 have E_a := E_a.keep K7
 have W_countedPosition := W_countedPosition.keep K7 (ninS (Ne.symm ne_cp_a) nin0)
 have W_limit := W_limit.keep K7 (ninS (Ne.symm ne_cp_a) nin0)
 have W_buf := W_buf.keep K7 (ninS (Ne.symm ne_cp_a) nin0)
 have W_pos := W_pos.keep K7 (ninS (Ne.symm ne_cp_a) nin0)
 have W_noLineEndFrom := W_noLineEndFrom.keep K7 (ninS (Ne.symm ne_cp_a) nin0)
 have W_counted := W_counted.keep K7 (ninS (Ne.symm ne_cp_a) nin0)
 have E_cp := E_cp.keep K7
 have V_bf := V_bf.keep K7 (ninS ne_bf_cp nin0)
 have KK7 := K0.trans K7 (allS (Or.inl (List.mem_of_getElem? (i := 1) rfl)) all0)
 have Z7 := Nat.le_trans Z0 K7.1
 refine ga X7 hx 35 (B 7 rfl) rfl rfl rfl ?_
 refine gG X7 hx 38 hZ hown (host := "") (Or.inl (W 52 rfl)) Via.refl rfl W_countedPosition (B 8 rfl) rfl (fun T8 X8 e8 => ?_)
 refine gn X8 hx 39 (B 9 rfl) rfl rfl ?_
 refine gL X8 hx 40 (en.toInt64) (B 10 rfl) rfl rfl ?_
 refine ga X8 hx 41 (B 11 rfl) rfl rfl rfl ?_
 refine gG X8 hx 44 hZ hown (host := "") (Or.inl (W 68 rfl)) Via.refl e8 W_buf (B 12 rfl) rfl (fun T9 X9 e9 => ?_)
 refine ga X9 hx 45 (B 13 rfl) rfl rfl rfl ?_
 refine gG X9 hx 48 hZ hown (host := "") (Or.inl w110) Via.refl e9 W_pos (B 14 rfl) rfl (fun T10 X10 e10 => ?_)
 refine gn X10 hx 49 (B 15 rfl) rfl rfl ?_
 refine gp X10 hx 50 (4 : Int32) (B 16 rfl) (by decide) rfl ?_
 refine gk X10 hx 51 1 (B 17 rfl) rfl rfl ?_
 refine gm X10 hx 52 (3 : Int32) (B 18 rfl) (by decide) rfl ?_
 refine gc X10 hx 53 hZ e10 V_bf c3 rfl rfl (B 19 rfl) rfl ?_
 refine gV X10 hx 56 hZ hown (W 173 rfl) (W 174 rfl) (W 176 rfl) (W 175 rfl) (W 43 rfl) (W 177 rfl) (by decide) cp E_cp [(.long (en.toInt64)), (.int c3)] [] (rm33 hw cp (en.toInt64) (own_step c2 c1 (own_step c1 c0 (own_step c0 0 (1 : Int64)))) c3 _ _ T7.heap n0 Z7 g_cp nc3 E_cp Fl7 Fc7 Fa7) e10 0 rfl (M rfl) (lenOf pd17 rfl) (B 20 rfl) rfl rfl rfl (fun v T11 L X11 Y => ?_)
 obtain ⟨rfl, N11q, K11, E11x, Fl11, Fc11, Fa11⟩ := Y
 have N11 := Fr.app N7 N11q
 have E_a := E_a.keep K11
 have W_countedPosition := W_countedPosition.keep K11 (ninS (Ne.symm ne_cp_a) nin0)
 have W_limit := W_limit.keep K11 (ninS (Ne.symm ne_cp_a) nin0)
 have W_buf := W_buf.keep K11 (ninS (Ne.symm ne_cp_a) nin0)
 have W_pos := W_pos.keep K11 (ninS (Ne.symm ne_cp_a) nin0)
 have W_noLineEndFrom := W_noLineEndFrom.keep K11 (ninS (Ne.symm ne_cp_a) nin0)
 have W_counted := W_counted.keep K11 (ninS (Ne.symm ne_cp_a) nin0)
 have E_cp := E_cp.keep K11
 have V_bf := V_bf.keep K11 (ninS ne_bf_cp nin0)
 have KK11 := KK7.trans K11 (allS (Or.inl (List.mem_of_getElem? (i := 1) rfl)) all0)
 have Z11 := Nat.le_trans Z7 K11.1
 refine ga X11 hx 57 (B 21 rfl) rfl rfl rfl ?_
 refine ga X11 hx 58 (B 22 rfl) rfl rfl rfl ?_
 refine gG X11 hx 61 hZ hown (host := "") (Or.inl w110) Via.refl rfl W_pos (B 23 rfl) rfl (fun T12 X12 e12 => ?_)
 refine gn X12 hx 62 (B 24 rfl) rfl rfl ?_
 refine gp X12 hx 63 (4 : Int32) (B 25 rfl) (by decide) rfl ?_
 refine gP X12 hx 66 hZ hown (host := "") (Or.inl w127) Via.refl e12 W_counted E_a (Or.inl (W 128 rfl)) w6 (ty := .int) (by decide) rfl rfl (B 26 rfl) rfl (fun T13 h13 X13 e13 W13 => ?_)
 have E_a := E_a.wr W13
 have W_countedPosition := W_countedPosition.other W13 (Or.inr (sn53 hw))
 have W_limit := W_limit.other W13 (Or.inr (sn54 hw))
 have W_buf := W_buf.other W13 (Or.inr (sn55 hw))
 have W_pos := W_pos.other W13 (Or.inr (sn56 hw))
 have W_noLineEndFrom := W_noLineEndFrom.other W13 (Or.inr (sn57 hw))
 have W_counted := W_counted.same W13
 have E_cp := E_cp.wr W13
 have V_bf := V_bf.other W13 ne_bf_a
 have Fl11 := Fl11.other W13 (Or.inl ne_cp_a)
 have Fc11 := Fc11.other W13 (Or.inl ne_cp_a)
 have Fa11 := Fa11.other W13 (Or.inl ne_cp_a)
 have N13 := Fr.snoc X13 N11 g_a
 have Z13 : n0 ≤ h13.size := by rw [W13.size]; exact Z11
 have K13 := KK11.wr W13 (Or.inl (List.mem_of_getElem? (i := 0) rfl))
 refine ga X13 hx 67 (B 27 rfl) rfl rfl rfl ?_
 refine ga X13 hx 68 (B 28 rfl) rfl rfl rfl ?_
 refine gG X13 hx 71 hZ hown (host := "") (Or.inl w127) Via.refl e13 W_counted (B 29 rfl) rfl (fun T14 X14 e14 => ?_)
 refine gP X14 hx 74 hZ hown (host := "") (Or.inl (W 112 rfl)) Via.refl e14 W_noLineEndFrom E_a (Or.inl (W 113 rfl)) w6 (ty := .int) (by decide) rfl rfl (B 30 rfl) rfl (fun T15 h15 X15 e15 W15 => ?_)
 have E_a := E_a.wr W15
 have W_countedPosition := W_countedPosition.other W15 (Or.inr (sn13 hw))
 have W_limit := W_limit.other W15 (Or.inr (sn14 hw))
 have W_buf := W_buf.other W15 (Or.inr (sn15 hw))
 have W_pos := W_pos.other W15 (Or.inr (sn16 hw))
 have W_noLineEndFrom := W_noLineEndFrom.same W15
 have W_counted := W_counted.other W15 (Or.inr (sn17 hw))
 have E_cp := E_cp.wr W15
 have V_bf := V_bf.other W15 ne_bf_a
 have Fl11 := Fl11.other W15 (Or.inl ne_cp_a)
 have Fc11 := Fc11.other W15 (Or.inl ne_cp_a)
 have Fa11 := Fa11.other W15 (Or.inl ne_cp_a)
 have N15 := Fr.snoc X15 N13 g_a
 have Z15 : n0 ≤ h15.size := by rw [W15.size]; exact Z13
 have K15 := K13.wr W15 (Or.inl (List.mem_of_getElem? (i := 0) rfl))
 refine ga X15 hx 75 (B 31 rfl) rfl rfl rfl ?_
 refine g_dup X15 hx 76 (B 32 rfl) rfl rfl ?_
 refine gG X15 hx 79 hZ hown (host := "") (Or.inl w110) Via.refl e15 W_pos (B 33 rfl) rfl (fun T16 X16 e16 => ?_)
 refine gn X16 hx 80 (B 34 rfl) rfl rfl ?_
 refine gp X16 hx 81 (4 : Int32) (B 35 rfl) (by decide) rfl ?_
 refine gP X16 hx 84 hZ hown (host := "") (Or.inl w110) Via.refl e16 W_pos E_a (Or.inl (W 111 rfl)) w6 (ty := .int) (by decide) rfl rfl (B 36 rfl) rfl (fun T17 h17 X17 e17 W17 => ?_)
 have E_a := E_a.wr W17
 have W_countedPosition := W_countedPosition.other W17 (Or.inr (sn8 hw))
 have W_limit := W_limit.other W17 (Or.inr (sn9 hw))
 have W_buf := W_buf.other W17 (Or.inr (sn10 hw))
 have W_pos := W_pos.same W17
 have W_noLineEndFrom := W_noLineEndFrom.other W17 (Or.inr (sn11 hw))
 have W_counted := W_counted.other W17 (Or.inr (sn12 hw))
 have E_cp := E_cp.wr W17
 have V_bf := V_bf.other W17 ne_bf_a
 have Fl11 := Fl11.other W17 (Or.inl ne_cp_a)
 have Fc11 := Fc11.other W17 (Or.inl ne_cp_a)
 have Fa11 := Fa11.other W17 (Or.inl ne_cp_a)
 have N17 := Fr.snoc X17 N15 g_a
 have Z17 : n0 ≤ h17.size := by rw [W17.size]; exact Z15
 have K17 := K15.wr W17 (Or.inl (List.mem_of_getElem? (i := 0) rfl))
 exact g_retV X17 hx hret hlk (B 37 rfl) (by decide) (by decide) (by rw [e17]; exact ⟨rfl, N17, K17, E_a, W_countedPosition, W_limit, W_buf, W_pos, W_noLineEndFrom, W_counted, E_cp, Fl11, Fc11, Fa11⟩)
def D23 : List (Nat × Instr × Nat) := [(0, .aload_n 0, 1), (1, .getfield 12, 3), (4, .aload_n 0, 1), (5, .getfield 32, 3), (8, .aload_n 0, 1), (9, .getfield 50, 3), (12, .aload_n 0, 1), (13, .getfield 44, 3), (16, .invokevirtual 53, 3), (19, .aload_n 0, 1), (20, .aload_n 0, 1), (21, .getfield 44, 3), (24, .putfield 50, 3), (27, .aload_n 0, 1), (28, .aload_n 0, 1), (29, .getfield 44, 3), (32, .putfield 47, 3), (35, .aload_n 0, 1), (36, .getfield 12, 3), (39, .invokevirtual 152, 3), (42, .astore_n 2, 1), (43, .aload_n 2, 1), (44, .aload_n 0, 1), (45, .getfield 32, 3), (48, .aload_n 0, 1), (49, .getfield 44, 3), (52, .aload_n 0, 1), (53, .getfield 44, 3), (56, .iload_n 1, 1), (57, .iadd, 1), (58, .invokevirtual 53, 3), (61, .aload_n 2, 1), (62, .areturn, 1)]
theorem D23_ok : ∀ x ∈ D23, decode prog_52_method_11_code x.1 = .ok x.2 := by decide +kernel
theorem pd19 : parseMethodDescriptor "()Lgleanwell/Position;" = some ⟨[], some (.object "gleanwell/Position")⟩ := by decide +kernel
set_option maxRecDepth 65536 in
set_option maxHeartbeats 40000000 in
theorem pa_same {l : Launch} {Z : State} {a0 : Array Value} (hw : ∀ d ∈ tables_1, d.before a0 Z = true) (a cp bf : Addr) (q : Int32) (ln co : Int64) (la : Int32) (c0 c1 c2 c3 : Int32) (kF : ClassId) (h0 : Heap) (n0 : Nat) (Z0 : n0 ≤ h0.size) (g_a : n0 ≤ a) (g_cp : n0 ≤ cp) (E_a : Exa Z h0 a "gleanwell/Window") (W_countedPosition : Fld Z h0 a "gleanwell/Window" "countedPosition" "Lgleanwell/Position;" (.ref cp)) (W_limit : Fld Z h0 a "gleanwell/Window" "limit" "I" (.int 4)) (W_buf : Fld Z h0 a "gleanwell/Window" "buf" "[C" (.ref bf)) (W_pos : Fld Z h0 a "gleanwell/Window" "pos" "I" (.int q)) (W_noLineEndFrom : Fld Z h0 a "gleanwell/Window" "noLineEndFrom" "I" (.int q)) (W_counted : Fld Z h0 a "gleanwell/Window" "counted" "I" (.int q)) (E_cp : Exa Z h0 cp "gleanwell/Position") (F_ln : Fld Z h0 cp "gleanwell/Position" "line" "J" (.long ln)) (F_co : Fld Z h0 cp "gleanwell/Position" "column" "J" (.long co)) (F_la : Fld Z h0 cp "gleanwell/Position" "last" "C" (.int la)) (V_bf : Arv Z h0 bf kF .char (5 : Int32) [(.int c0), (.int c1), (.int c2), (.int c3), (.int 0)] (.int 0)) (nc0 : nar .char c0 = c0) (nc1 : nar .char c1 = c1) (nc2 : nar .char c2 = c2) (nc3 : nar .char c3 = c3) (hc0 : ¬ 255 < c0) (hc1 : ¬ 255 < c1) (hc2 : ¬ 255 < c2) (hc3 : ¬ 255 < c3) (hla : nar .char la = la) :
  OwnMet l Z (⟨"gleanwell/Window", "positionAt", "(I)Lgleanwell/Position;"⟩ : MethodName) prog_52_method_11_code 3 (some (.object "gleanwell/Position")) [] (⟨3, 1, 3, 60⟩ : Room) [(.ref a), (.int 0)] h0 (fun v h L => ∃ p, v = some (.ref p) ∧ Fr n0 L ∧ n0 ≤ h.size ∧ Exa Z h p "gleanwell/Position" ∧ Fld Z h p "gleanwell/Position" "line" "J" (.long ln) ∧ Fld Z h p "gleanwell/Position" "column" "J" (.long co) ∧ Fld Z h p "gleanwell/Position" "last" "C" (.int la)) := by
 refine own_body (Ls := #[A a, I 0, U]) (plainFor_of_name own_pn7) (fun m => by first | (simp [entryFrame, mkF, argsToLocals, Value.category]; done) | rfl) (fun p e s m below meth cO T0 hx hby hml hown hnm hret hlk hZ X0 e0 => ?_)
 have hown : s.vm.findClass "gleanwell/Window" = some m.cls := hown
 have B {q r} (i : Nat) := own_B (q := q) (r := r) hby D23_ok i
 have W {d : Jvm.Cond} (i : Nat) (h : tables_1[i]? = some d) : d.before a0 Z = true := own_w hw i h
 have w6 := W 6 rfl
 have w110 := W 110 rfl
 have w43 := W 43 rfl
 have M {n : Nat} (h : n = _) : n = cO.maxLocals := h.trans hml.symm
 have N0 := Fr.nil n0
 have K0 := Keep.refl h0 [a, cp]
 have ne_cp_a : cp ≠ a := Ne.symm (ne_exa E_a E_cp (by decide))
 have ne_bf_a : bf ≠ a := Ne.symm (Exa.neArv E_a V_bf w6)
 have ne_bf_cp : bf ≠ cp := Ne.symm (Exa.neArv E_cp V_bf (W 42 rfl))
 refine ga X0 hx 1 (B 0 rfl) rfl rfl rfl ?_
 refine gG X0 hx 4 hZ hown (host := "") (Or.inl (W 52 rfl)) Via.refl e0 W_countedPosition (B 1 rfl) rfl (fun T1 X1 e1 => ?_)
 refine ga X1 hx 5 (B 2 rfl) rfl rfl rfl ?_
 refine gG X1 hx 8 hZ hown (host := "") (Or.inl (W 68 rfl)) Via.refl e1 W_buf (B 3 rfl) rfl (fun T2 X2 e2 => ?_)
 refine ga X2 hx 9 (B 4 rfl) rfl rfl rfl ?_
 refine gG X2 hx 12 hZ hown (host := "") (Or.inl (W 127 rfl)) Via.refl e2 W_counted (B 5 rfl) rfl (fun T3 X3 e3 => ?_)
 refine ga X3 hx 13 (B 6 rfl) rfl rfl rfl ?_
 refine gG X3 hx 16 hZ hown (host := "") (Or.inl w110) Via.refl e3 W_pos (B 7 rfl) rfl (fun T4 X4 e4 => ?_)
 refine gV X4 hx 19 hZ hown (W 129 rfl) (W 130 rfl) (W 132 rfl) (W 131 rfl) w43 (W 133 rfl) (by decide) cp E_cp [(.ref bf), (.int q), (.int q)] [] (rp_same hw cp bf q h0 n0 Z0) e4 0 rfl (M rfl) (lenOf pd18 rfl) (B 8 rfl) rfl rfl rfl (fun v T5 L X5 Y => ?_)
 obtain ⟨rfl, N5q, e5⟩ := Y
 have N5 := Fr.app N0 N5q
 refine ga X5 hx 20 (B 9 rfl) rfl rfl rfl ?_
 refine ga X5 hx 21 (B 10 rfl) rfl rfl rfl ?_
 refine gG X5 hx 24 hZ hown (host := "") (Or.inl w110) Via.refl e5 W_pos (B 11 rfl) rfl (fun T6 X6 e6 => ?_)
 refine gP X6 hx 27 hZ hown (host := "") (Or.inl (W 127 rfl)) Via.refl e6 W_counted E_a (Or.inl (W 128 rfl)) w6 (ty := .int) (by decide) rfl rfl (B 12 rfl) rfl (fun T7 h7 X7 e7 W7 => ?_)
 have E_a := E_a.wr W7
 have W_countedPosition := W_countedPosition.other W7 (Or.inr (sn53 hw))
 have W_limit := W_limit.other W7 (Or.inr (sn54 hw))
 have W_buf := W_buf.other W7 (Or.inr (sn55 hw))
 have W_pos := W_pos.other W7 (Or.inr (sn56 hw))
 have W_noLineEndFrom := W_noLineEndFrom.other W7 (Or.inr (sn57 hw))
 have W_counted := W_counted.same W7
 have E_cp := E_cp.wr W7
 have F_ln := F_ln.other W7 (Or.inl ne_cp_a)
 have F_co := F_co.other W7 (Or.inl ne_cp_a)
 have F_la := F_la.other W7 (Or.inl ne_cp_a)
 have V_bf := V_bf.other W7 ne_bf_a
 have N7 := Fr.snoc X7 N5 g_a
 have Z7 : n0 ≤ h7.size := by rw [W7.size]; exact Z0
 have K7 := K0.wr W7 (Or.inl (List.mem_of_getElem? (i := 0) rfl))
 refine ga X7 hx 28 (B 13 rfl) rfl rfl rfl ?_
 refine ga X7 hx 29 (B 14 rfl) rfl rfl rfl ?_
 refine gG X7 hx 32 hZ hown (host := "") (Or.inl w110) Via.refl e7 W_pos (B 15 rfl) rfl (fun T8 X8 e8 => ?_)
 refine gP X8 hx 35 hZ hown (host := "") (Or.inl (W 112 rfl)) Via.refl e8 W_noLineEndFrom E_a (Or.inl (W 113 rfl)) w6 (ty := .int) (by decide) rfl rfl (B 16 rfl) rfl (fun T9 h9 X9 e9 W9 => ?_)
 have E_a := E_a.wr W9
 have W_countedPosition := W_countedPosition.other W9 (Or.inr (sn13 hw))
 have W_limit := W_limit.other W9 (Or.inr (sn14 hw))
 have W_buf := W_buf.other W9 (Or.inr (sn15 hw))
 have W_pos := W_pos.other W9 (Or.inr (sn16 hw))
 have W_noLineEndFrom := W_noLineEndFrom.same W9
 have W_counted := W_counted.other W9 (Or.inr (sn17 hw))
 have E_cp := E_cp.wr W9
 have F_ln := F_ln.other W9 (Or.inl ne_cp_a)
 have F_co := F_co.other W9 (Or.inl ne_cp_a)
 have F_la := F_la.other W9 (Or.inl ne_cp_a)
 have V_bf := V_bf.other W9 ne_bf_a
 have N9 := Fr.snoc X9 N7 g_a
 have Z9 : n0 ≤ h9.size := by rw [W9.size]; exact Z7
 have K9 := K7.wr W9 (Or.inl (List.mem_of_getElem? (i := 0) rfl))
 refine ga X9 hx 36 (B 17 rfl) rfl rfl rfl ?_
 refine gG X9 hx 39 hZ hown (host := "") (Or.inl (W 52 rfl)) Via.refl e9 W_countedPosition (B 18 rfl) rfl (fun T10 X10 e10 => ?_)
 refine gV X10 hx 42 hZ hown (W 144 rfl) (W 145 rfl) (W 147 rfl) (W 146 rfl) w43 (W 148 rfl) (by decide) cp E_cp [] [] (rm27 hw cp ln co la h9 n0 Z9 hla E_cp F_ln F_co F_la) e10 0 rfl (M rfl) (lenOf pd19 rfl) (B 19 rfl) rfl rfl rfl (fun v T11 L X11 Y => ?_)
 obtain ⟨p_, rfl, N11q, K11, E_p, Fl_p, Fc_p, Fa_p⟩ := Y
 have N11 := Fr.app N9 N11q
 have E_a := E_a.keep K11
 have W_countedPosition := W_countedPosition.keep K11 nin0
 have W_limit := W_limit.keep K11 nin0
 have W_buf := W_buf.keep K11 nin0
 have W_pos := W_pos.keep K11 nin0
 have W_noLineEndFrom := W_noLineEndFrom.keep K11 nin0
 have W_counted := W_counted.keep K11 nin0
 have E_cp := E_cp.keep K11
 have F_ln := F_ln.keep K11 nin0
 have F_co := F_co.keep K11 nin0
 have F_la := F_la.keep K11 nin0
 have V_bf := V_bf.keep K11 nin0
 have Z11 := Nat.le_trans Z9 K11.1
 refine g_astoreN X11 hx 43 _ (B 20 rfl) rfl rfl rfl ?_
 refine ga X11 hx 44 (B 21 rfl) rfl rfl rfl ?_
 refine ga X11 hx 45 (B 22 rfl) rfl rfl rfl ?_
 refine gG X11 hx 48 hZ hown (host := "") (Or.inl (W 68 rfl)) Via.refl rfl W_buf (B 23 rfl) rfl (fun T12 X12 e12 => ?_)
 refine ga X12 hx 49 (B 24 rfl) rfl rfl rfl ?_
 refine gG X12 hx 52 hZ hown (host := "") (Or.inl w110) Via.refl e12 W_pos (B 25 rfl) rfl (fun T13 X13 e13 => ?_)
 refine ga X13 hx 53 (B 26 rfl) rfl rfl rfl ?_
 refine gG X13 hx 56 hZ hown (host := "") (Or.inl w110) Via.refl e13 W_pos (B 27 rfl) rfl (fun T14 X14 e14 => ?_)
 refine gn X14 hx 57 (B 28 rfl) rfl rfl ?_
 refine gp X14 hx 58 q (B 29 rfl) (Int32.add_zero q) rfl ?_
 refine gV X14 hx 61 hZ hown (W 129 rfl) (W 130 rfl) (W 132 rfl) (W 131 rfl) w43 (W 133 rfl) (by decide) p_ E_p [(.ref bf), (.int q), (.int q)] [] (rp_same hw p_ bf q T11.heap n0 Z11) e14 0 rfl (M rfl) (lenOf pd18 rfl) (B 30 rfl) rfl rfl rfl (fun v T15 L X15 Y => ?_)
 obtain ⟨rfl, N15q, e15⟩ := Y
 have N15 := Fr.app N11 N15q
 refine ga X15 hx 62 (B 31 rfl) rfl rfl rfl ?_
 exact g_retA X15 hx hret hlk rfl rfl rfl (B 32 rfl) (by decide) (by decide) ⟨p_, rfl, N15, by rw [e15]; exact Z11, by rw [e15]; exact ⟨E_p, Fl_p, Fc_p, Fa_p⟩⟩
set_option maxRecDepth 65536 in
set_option maxHeartbeats 40000000 in
theorem pa_1 {l : Launch} {Z : State} {a0 : Array Value} (hw : ∀ d ∈ tables_1, d.before a0 Z = true) (a cp bf : Addr)  (c0 c1 c2 c3 : Int32) (kF : ClassId) (h0 : Heap) (n0 : Nat) (Z0 : n0 ≤ h0.size) (g_a : n0 ≤ a) (g_cp : n0 ≤ cp) (E_a : Exa Z h0 a "gleanwell/Window") (W_countedPosition : Fld Z h0 a "gleanwell/Window" "countedPosition" "Lgleanwell/Position;" (.ref cp)) (W_limit : Fld Z h0 a "gleanwell/Window" "limit" "I" (.int 4)) (W_buf : Fld Z h0 a "gleanwell/Window" "buf" "[C" (.ref bf)) (W_pos : Fld Z h0 a "gleanwell/Window" "pos" "I" (.int 1)) (W_noLineEndFrom : Fld Z h0 a "gleanwell/Window" "noLineEndFrom" "I" (.int 1)) (W_counted : Fld Z h0 a "gleanwell/Window" "counted" "I" (.int 0)) (E_cp : Exa Z h0 cp "gleanwell/Position") (F_ln : Fld Z h0 cp "gleanwell/Position" "line" "J" (.long 1)) (F_co : Fld Z h0 cp "gleanwell/Position" "column" "J" (.long 1)) (F_la : Fld Z h0 cp "gleanwell/Position" "last" "C" (.int 0)) (V_bf : Arv Z h0 bf kF .char (5 : Int32) [(.int c0), (.int c1), (.int c2), (.int c3), (.int 0)] (.int 0)) (nc0 : nar .char c0 = c0) (nc1 : nar .char c1 = c1) (nc2 : nar .char c2 = c2) (nc3 : nar .char c3 = c3) (hc0 : ¬ 255 < c0) (hc1 : ¬ 255 < c1) (hc2 : ¬ 255 < c2) (hc3 : ¬ 255 < c3) :
  OwnMet l Z (⟨"gleanwell/Window", "positionAt", "(I)Lgleanwell/Position;"⟩ : MethodName) prog_52_method_11_code 3 (some (.object "gleanwell/Position")) [] (⟨3, 1, 3, 60⟩ : Room) [(.ref a), (.int 0)] h0 (fun v h L => ∃ p, v = some (.ref p) ∧ Fr n0 L ∧ n0 ≤ h.size ∧ Exa Z h p "gleanwell/Position" ∧ Fld Z h p "gleanwell/Position" "line" "J" (.long (own_step c0 0 (1 : Int64))) ∧ Fld Z h p "gleanwell/Position" "column" "J" (.long (own_colf (1 : Int32) (own_st c0 1 (0 : Int32)))) ∧ Fld Z h p "gleanwell/Position" "last" "C" (.int c0)) := by
 refine own_body (Ls := #[A a, I 0, U]) (plainFor_of_name own_pn7) (fun m => by first | (simp [entryFrame, mkF, argsToLocals, Value.category]; done) | rfl) (fun p e s m below meth cO T0 hx hby hml hown hnm hret hlk hZ X0 e0 => ?_)
 have hown : s.vm.findClass "gleanwell/Window" = some m.cls := hown
 have B {q r} (i : Nat) := own_B (q := q) (r := r) hby D23_ok i
 have W {d : Jvm.Cond} (i : Nat) (h : tables_1[i]? = some d) : d.before a0 Z = true := own_w hw i h
 have w6 := W 6 rfl
 have w110 := W 110 rfl
 have w43 := W 43 rfl
 have M {n : Nat} (h : n = _) : n = cO.maxLocals := h.trans hml.symm
 have N0 := Fr.nil n0
 have K0 := Keep.refl h0 [a, cp]
 have ne_cp_a : cp ≠ a := Ne.symm (ne_exa E_a E_cp (by decide))
 have ne_bf_a : bf ≠ a := Ne.symm (Exa.neArv E_a V_bf w6)
 have ne_bf_cp : bf ≠ cp := Ne.symm (Exa.neArv E_cp V_bf (W 42 rfl))
 refine ga X0 hx 1 (B 0 rfl) rfl rfl rfl ?_
 refine gG X0 hx 4 hZ hown (host := "") (Or.inl (W 52 rfl)) Via.refl e0 W_countedPosition (B 1 rfl) rfl (fun T1 X1 e1 => ?_)
 refine ga X1 hx 5 (B 2 rfl) rfl rfl rfl ?_
 refine gG X1 hx 8 hZ hown (host := "") (Or.inl (W 68 rfl)) Via.refl e1 W_buf (B 3 rfl) rfl (fun T2 X2 e2 => ?_)
 refine ga X2 hx 9 (B 4 rfl) rfl rfl rfl ?_
 refine gG X2 hx 12 hZ hown (host := "") (Or.inl (W 127 rfl)) Via.refl e2 W_counted (B 5 rfl) rfl (fun T3 X3 e3 => ?_)
 refine ga X3 hx 13 (B 6 rfl) rfl rfl rfl ?_
 refine gG X3 hx 16 hZ hown (host := "") (Or.inl w110) Via.refl e3 W_pos (B 7 rfl) rfl (fun T4 X4 e4 => ?_)
 refine gV X4 hx 19 hZ hown (W 129 rfl) (W 130 rfl) (W 132 rfl) (W 131 rfl) w43 (W 133 rfl) (by decide) cp E_cp [(.ref bf), (.int 0), (.int 1)] [] (rp_1 hw cp bf (1 : Int64) c0 c1 c2 c3 kF h0 n0 Z0 g_cp E_cp F_ln F_co F_la V_bf nc0 nc1 nc2 nc3 hc0 hc1 hc2 hc3 (Ne.symm ne_bf_cp)) e4 0 rfl (M rfl) (lenOf pd18 rfl) (B 8 rfl) rfl rfl rfl (fun v T5 L X5 Y => ?_)
 obtain ⟨rfl, N5q, K5, E5x, Fl5, Fc5, Fa5⟩ := Y
 have N5 := Fr.app N0 N5q
 have E_a := E_a.keep K5
 have W_countedPosition := W_countedPosition.keep K5 (ninS (Ne.symm ne_cp_a) nin0)
 have W_limit := W_limit.keep K5 (ninS (Ne.symm ne_cp_a) nin0)
 have W_buf := W_buf.keep K5 (ninS (Ne.symm ne_cp_a) nin0)
 have W_pos := W_pos.keep K5 (ninS (Ne.symm ne_cp_a) nin0)
 have W_noLineEndFrom := W_noLineEndFrom.keep K5 (ninS (Ne.symm ne_cp_a) nin0)
 have W_counted := W_counted.keep K5 (ninS (Ne.symm ne_cp_a) nin0)
 have E_cp := E_cp.keep K5
 have V_bf := V_bf.keep K5 (ninS ne_bf_cp nin0)
 have KK5 := K0.trans K5 (allS (Or.inl (List.mem_of_getElem? (i := 1) rfl)) all0)
 have Z5 := Nat.le_trans Z0 K5.1
 refine ga X5 hx 20 (B 9 rfl) rfl rfl rfl ?_
 refine ga X5 hx 21 (B 10 rfl) rfl rfl rfl ?_
 refine gG X5 hx 24 hZ hown (host := "") (Or.inl w110) Via.refl rfl W_pos (B 11 rfl) rfl (fun T6 X6 e6 => ?_)
 refine gP X6 hx 27 hZ hown (host := "") (Or.inl (W 127 rfl)) Via.refl e6 W_counted E_a (Or.inl (W 128 rfl)) w6 (ty := .int) (by decide) rfl rfl (B 12 rfl) rfl (fun T7 h7 X7 e7 W7 => ?_)
 have E_a := E_a.wr W7
 have W_countedPosition := W_countedPosition.other W7 (Or.inr (sn53 hw))
 have W_limit := W_limit.other W7 (Or.inr (sn54 hw))
 have W_buf := W_buf.other W7 (Or.inr (sn55 hw))
 have W_pos := W_pos.other W7 (Or.inr (sn56 hw))
 have W_noLineEndFrom := W_noLineEndFrom.other W7 (Or.inr (sn57 hw))
 have W_counted := W_counted.same W7
 have E_cp := E_cp.wr W7
 have V_bf := V_bf.other W7 ne_bf_a
 have Fl5 := Fl5.other W7 (Or.inl ne_cp_a)
 have Fc5 := Fc5.other W7 (Or.inl ne_cp_a)
 have Fa5 := Fa5.other W7 (Or.inl ne_cp_a)
 have N7 := Fr.snoc X7 N5 g_a
 have Z7 : n0 ≤ h7.size := by rw [W7.size]; exact Z5
 have K7 := KK5.wr W7 (Or.inl (List.mem_of_getElem? (i := 0) rfl))
 refine ga X7 hx 28 (B 13 rfl) rfl rfl rfl ?_
 refine ga X7 hx 29 (B 14 rfl) rfl rfl rfl ?_
 refine gG X7 hx 32 hZ hown (host := "") (Or.inl w110) Via.refl e7 W_pos (B 15 rfl) rfl (fun T8 X8 e8 => ?_)
 refine gP X8 hx 35 hZ hown (host := "") (Or.inl (W 112 rfl)) Via.refl e8 W_noLineEndFrom E_a (Or.inl (W 113 rfl)) w6 (ty := .int) (by decide) rfl rfl (B 16 rfl) rfl (fun T9 h9 X9 e9 W9 => ?_)
 have E_a := E_a.wr W9
 have W_countedPosition := W_countedPosition.other W9 (Or.inr (sn13 hw))
 have W_limit := W_limit.other W9 (Or.inr (sn14 hw))
 have W_buf := W_buf.other W9 (Or.inr (sn15 hw))
 have W_pos := W_pos.other W9 (Or.inr (sn16 hw))
 have W_noLineEndFrom := W_noLineEndFrom.same W9
 have W_counted := W_counted.other W9 (Or.inr (sn17 hw))
 have E_cp := E_cp.wr W9
 have V_bf := V_bf.other W9 ne_bf_a
 have Fl5 := Fl5.other W9 (Or.inl ne_cp_a)
 have Fc5 := Fc5.other W9 (Or.inl ne_cp_a)
 have Fa5 := Fa5.other W9 (Or.inl ne_cp_a)
 have N9 := Fr.snoc X9 N7 g_a
 have Z9 : n0 ≤ h9.size := by rw [W9.size]; exact Z7
 have K9 := K7.wr W9 (Or.inl (List.mem_of_getElem? (i := 0) rfl))
 refine ga X9 hx 36 (B 17 rfl) rfl rfl rfl ?_
 refine gG X9 hx 39 hZ hown (host := "") (Or.inl (W 52 rfl)) Via.refl e9 W_countedPosition (B 18 rfl) rfl (fun T10 X10 e10 => ?_)
 refine gV X10 hx 42 hZ hown (W 144 rfl) (W 145 rfl) (W 147 rfl) (W 146 rfl) w43 (W 148 rfl) (by decide) cp E_cp [] [] (rm27 hw cp (own_step c0 0 (1 : Int64)) (own_colf (1 : Int32) (own_st c0 1 (0 : Int32))) c0 h9 n0 Z9 nc0 E_cp Fl5 Fc5 Fa5) e10 0 rfl (M rfl) (lenOf pd19 rfl) (B 19 rfl) rfl rfl rfl (fun v T11 L X11 Y => ?_)
 obtain ⟨p_, rfl, N11q, K11, E_p, Fl_p, Fc_p, Fa_p⟩ := Y
 have N11 := Fr.app N9 N11q
 have E_a := E_a.keep K11
 have W_countedPosition := W_countedPosition.keep K11 nin0
 have W_limit := W_limit.keep K11 nin0
 have W_buf := W_buf.keep K11 nin0
 have W_pos := W_pos.keep K11 nin0
 have W_noLineEndFrom := W_noLineEndFrom.keep K11 nin0
 have W_counted := W_counted.keep K11 nin0
 have E_cp := E_cp.keep K11
 have V_bf := V_bf.keep K11 nin0
 have Fl5 := Fl5.keep K11 nin0
 have Fc5 := Fc5.keep K11 nin0
 have Fa5 := Fa5.keep K11 nin0
 have Z11 := Nat.le_trans Z9 K11.1
 refine g_astoreN X11 hx 43 _ (B 20 rfl) rfl rfl rfl ?_
 refine ga X11 hx 44 (B 21 rfl) rfl rfl rfl ?_
 refine ga X11 hx 45 (B 22 rfl) rfl rfl rfl ?_
 refine gG X11 hx 48 hZ hown (host := "") (Or.inl (W 68 rfl)) Via.refl rfl W_buf (B 23 rfl) rfl (fun T12 X12 e12 => ?_)
 refine ga X12 hx 49 (B 24 rfl) rfl rfl rfl ?_
 refine gG X12 hx 52 hZ hown (host := "") (Or.inl w110) Via.refl e12 W_pos (B 25 rfl) rfl (fun T13 X13 e13 => ?_)
 refine ga X13 hx 53 (B 26 rfl) rfl rfl rfl ?_
 refine gG X13 hx 56 hZ hown (host := "") (Or.inl w110) Via.refl e13 W_pos (B 27 rfl) rfl (fun T14 X14 e14 => ?_)
 refine gn X14 hx 57 (B 28 rfl) rfl rfl ?_
 refine gp X14 hx 58 (1 : Int32) (B 29 rfl) (by decide) rfl ?_
 refine gV X14 hx 61 hZ hown (W 129 rfl) (W 130 rfl) (W 132 rfl) (W 131 rfl) w43 (W 133 rfl) (by decide) p_ E_p [(.ref bf), (.int 1), (.int 1)] [] (rp_same hw p_ bf (1 : Int32) T11.heap n0 Z11) e14 0 rfl (M rfl) (lenOf pd18 rfl) (B 30 rfl) rfl rfl rfl (fun v T15 L X15 Y => ?_)
 obtain ⟨rfl, N15q, e15⟩ := Y
 have N15 := Fr.app N11 N15q
 refine ga X15 hx 62 (B 31 rfl) rfl rfl rfl ?_
 exact g_retA X15 hx hret hlk rfl rfl rfl (B 32 rfl) (by decide) (by decide) ⟨p_, rfl, N15, by rw [e15]; exact Z11, by rw [e15]; exact ⟨E_p, Fl_p, Fc_p, Fa_p⟩⟩
set_option maxRecDepth 65536 in
set_option maxHeartbeats 40000000 in
theorem pa_2 {l : Launch} {Z : State} {a0 : Array Value} (hw : ∀ d ∈ tables_1, d.before a0 Z = true) (a cp bf : Addr)  (c0 c1 c2 c3 : Int32) (kF : ClassId) (h0 : Heap) (n0 : Nat) (Z0 : n0 ≤ h0.size) (g_a : n0 ≤ a) (g_cp : n0 ≤ cp) (E_a : Exa Z h0 a "gleanwell/Window") (W_countedPosition : Fld Z h0 a "gleanwell/Window" "countedPosition" "Lgleanwell/Position;" (.ref cp)) (W_limit : Fld Z h0 a "gleanwell/Window" "limit" "I" (.int 4)) (W_buf : Fld Z h0 a "gleanwell/Window" "buf" "[C" (.ref bf)) (W_pos : Fld Z h0 a "gleanwell/Window" "pos" "I" (.int 2)) (W_noLineEndFrom : Fld Z h0 a "gleanwell/Window" "noLineEndFrom" "I" (.int 2)) (W_counted : Fld Z h0 a "gleanwell/Window" "counted" "I" (.int 0)) (E_cp : Exa Z h0 cp "gleanwell/Position") (F_ln : Fld Z h0 cp "gleanwell/Position" "line" "J" (.long 1)) (F_co : Fld Z h0 cp "gleanwell/Position" "column" "J" (.long 1)) (F_la : Fld Z h0 cp "gleanwell/Position" "last" "C" (.int 0)) (V_bf : Arv Z h0 bf kF .char (5 : Int32) [(.int c0), (.int c1), (.int c2), (.int c3), (.int 0)] (.int 0)) (nc0 : nar .char c0 = c0) (nc1 : nar .char c1 = c1) (nc2 : nar .char c2 = c2) (nc3 : nar .char c3 = c3) (hc0 : ¬ 255 < c0) (hc1 : ¬ 255 < c1) (hc2 : ¬ 255 < c2) (hc3 : ¬ 255 < c3) :
  OwnMet l Z (⟨"gleanwell/Window", "positionAt", "(I)Lgleanwell/Position;"⟩ : MethodName) prog_52_method_11_code 3 (some (.object "gleanwell/Position")) [] (⟨3, 1, 3, 60⟩ : Room) [(.ref a), (.int 0)] h0 (fun v h L => ∃ p, v = some (.ref p) ∧ Fr n0 L ∧ n0 ≤ h.size ∧ Exa Z h p "gleanwell/Position" ∧ Fld Z h p "gleanwell/Position" "line" "J" (.long (own_step c1 c0 (own_step c0 0 (1 : Int64)))) ∧ Fld Z h p "gleanwell/Position" "column" "J" (.long (own_colf (2 : Int32) (own_st c1 2 (own_st c0 1 (0 : Int32))))) ∧ Fld Z h p "gleanwell/Position" "last" "C" (.int c1)) := by
 refine own_body (Ls := #[A a, I 0, U]) (plainFor_of_name own_pn7) (fun m => by first | (simp [entryFrame, mkF, argsToLocals, Value.category]; done) | rfl) (fun p e s m below meth cO T0 hx hby hml hown hnm hret hlk hZ X0 e0 => ?_)
 have hown : s.vm.findClass "gleanwell/Window" = some m.cls := hown
 have B {q r} (i : Nat) := own_B (q := q) (r := r) hby D23_ok i
 have W {d : Jvm.Cond} (i : Nat) (h : tables_1[i]? = some d) : d.before a0 Z = true := own_w hw i h
 have w6 := W 6 rfl
 have w110 := W 110 rfl
 have w43 := W 43 rfl
 have M {n : Nat} (h : n = _) : n = cO.maxLocals := h.trans hml.symm
 have N0 := Fr.nil n0
 have K0 := Keep.refl h0 [a, cp]
 have ne_cp_a : cp ≠ a := Ne.symm (ne_exa E_a E_cp (by decide))
 have ne_bf_a : bf ≠ a := Ne.symm (Exa.neArv E_a V_bf w6)
 have ne_bf_cp : bf ≠ cp := Ne.symm (Exa.neArv E_cp V_bf (W 42 rfl))
 refine ga X0 hx 1 (B 0 rfl) rfl rfl rfl ?_
 refine gG X0 hx 4 hZ hown (host := "") (Or.inl (W 52 rfl)) Via.refl e0 W_countedPosition (B 1 rfl) rfl (fun T1 X1 e1 => ?_)
 refine ga X1 hx 5 (B 2 rfl) rfl rfl rfl ?_
 refine gG X1 hx 8 hZ hown (host := "") (Or.inl (W 68 rfl)) Via.refl e1 W_buf (B 3 rfl) rfl (fun T2 X2 e2 => ?_)
 refine ga X2 hx 9 (B 4 rfl) rfl rfl rfl ?_
 refine gG X2 hx 12 hZ hown (host := "") (Or.inl (W 127 rfl)) Via.refl e2 W_counted (B 5 rfl) rfl (fun T3 X3 e3 => ?_)
 refine ga X3 hx 13 (B 6 rfl) rfl rfl rfl ?_
 refine gG X3 hx 16 hZ hown (host := "") (Or.inl w110) Via.refl e3 W_pos (B 7 rfl) rfl (fun T4 X4 e4 => ?_)
 refine gV X4 hx 19 hZ hown (W 129 rfl) (W 130 rfl) (W 132 rfl) (W 131 rfl) w43 (W 133 rfl) (by decide) cp E_cp [(.ref bf), (.int 0), (.int 2)] [] (rp_2 hw cp bf (1 : Int64) c0 c1 c2 c3 kF h0 n0 Z0 g_cp E_cp F_ln F_co F_la V_bf nc0 nc1 nc2 nc3 hc0 hc1 hc2 hc3 (Ne.symm ne_bf_cp)) e4 0 rfl (M rfl) (lenOf pd18 rfl) (B 8 rfl) rfl rfl rfl (fun v T5 L X5 Y => ?_)
 obtain ⟨rfl, N5q, K5, E5x, Fl5, Fc5, Fa5⟩ := Y
 have N5 := Fr.app N0 N5q
 have E_a := E_a.keep K5
 have W_countedPosition := W_countedPosition.keep K5 (ninS (Ne.symm ne_cp_a) nin0)
 have W_limit := W_limit.keep K5 (ninS (Ne.symm ne_cp_a) nin0)
 have W_buf := W_buf.keep K5 (ninS (Ne.symm ne_cp_a) nin0)
 have W_pos := W_pos.keep K5 (ninS (Ne.symm ne_cp_a) nin0)
 have W_noLineEndFrom := W_noLineEndFrom.keep K5 (ninS (Ne.symm ne_cp_a) nin0)
 have W_counted := W_counted.keep K5 (ninS (Ne.symm ne_cp_a) nin0)
 have E_cp := E_cp.keep K5
 have V_bf := V_bf.keep K5 (ninS ne_bf_cp nin0)
 have KK5 := K0.trans K5 (allS (Or.inl (List.mem_of_getElem? (i := 1) rfl)) all0)
 have Z5 := Nat.le_trans Z0 K5.1
 refine ga X5 hx 20 (B 9 rfl) rfl rfl rfl ?_
 refine ga X5 hx 21 (B 10 rfl) rfl rfl rfl ?_
 refine gG X5 hx 24 hZ hown (host := "") (Or.inl w110) Via.refl rfl W_pos (B 11 rfl) rfl (fun T6 X6 e6 => ?_)
 refine gP X6 hx 27 hZ hown (host := "") (Or.inl (W 127 rfl)) Via.refl e6 W_counted E_a (Or.inl (W 128 rfl)) w6 (ty := .int) (by decide) rfl rfl (B 12 rfl) rfl (fun T7 h7 X7 e7 W7 => ?_)
 have E_a := E_a.wr W7
 have W_countedPosition := W_countedPosition.other W7 (Or.inr (sn53 hw))
 have W_limit := W_limit.other W7 (Or.inr (sn54 hw))
 have W_buf := W_buf.other W7 (Or.inr (sn55 hw))
 have W_pos := W_pos.other W7 (Or.inr (sn56 hw))
 have W_noLineEndFrom := W_noLineEndFrom.other W7 (Or.inr (sn57 hw))
 have W_counted := W_counted.same W7
 have E_cp := E_cp.wr W7
 have V_bf := V_bf.other W7 ne_bf_a
 have Fl5 := Fl5.other W7 (Or.inl ne_cp_a)
 have Fc5 := Fc5.other W7 (Or.inl ne_cp_a)
 have Fa5 := Fa5.other W7 (Or.inl ne_cp_a)
 have N7 := Fr.snoc X7 N5 g_a
 have Z7 : n0 ≤ h7.size := by rw [W7.size]; exact Z5
 have K7 := KK5.wr W7 (Or.inl (List.mem_of_getElem? (i := 0) rfl))
 refine ga X7 hx 28 (B 13 rfl) rfl rfl rfl ?_
 refine ga X7 hx 29 (B 14 rfl) rfl rfl rfl ?_
 refine gG X7 hx 32 hZ hown (host := "") (Or.inl w110) Via.refl e7 W_pos (B 15 rfl) rfl (fun T8 X8 e8 => ?_)
 refine gP X8 hx 35 hZ hown (host := "") (Or.inl (W 112 rfl)) Via.refl e8 W_noLineEndFrom E_a (Or.inl (W 113 rfl)) w6 (ty := .int) (by decide) rfl rfl (B 16 rfl) rfl (fun T9 h9 X9 e9 W9 => ?_)
 have E_a := E_a.wr W9
 have W_countedPosition := W_countedPosition.other W9 (Or.inr (sn13 hw))
 have W_limit := W_limit.other W9 (Or.inr (sn14 hw))
 have W_buf := W_buf.other W9 (Or.inr (sn15 hw))
 have W_pos := W_pos.other W9 (Or.inr (sn16 hw))
 have W_noLineEndFrom := W_noLineEndFrom.same W9
 have W_counted := W_counted.other W9 (Or.inr (sn17 hw))
 have E_cp := E_cp.wr W9
 have V_bf := V_bf.other W9 ne_bf_a
 have Fl5 := Fl5.other W9 (Or.inl ne_cp_a)
 have Fc5 := Fc5.other W9 (Or.inl ne_cp_a)
 have Fa5 := Fa5.other W9 (Or.inl ne_cp_a)
 have N9 := Fr.snoc X9 N7 g_a
 have Z9 : n0 ≤ h9.size := by rw [W9.size]; exact Z7
 have K9 := K7.wr W9 (Or.inl (List.mem_of_getElem? (i := 0) rfl))
 refine ga X9 hx 36 (B 17 rfl) rfl rfl rfl ?_
 refine gG X9 hx 39 hZ hown (host := "") (Or.inl (W 52 rfl)) Via.refl e9 W_countedPosition (B 18 rfl) rfl (fun T10 X10 e10 => ?_)
 refine gV X10 hx 42 hZ hown (W 144 rfl) (W 145 rfl) (W 147 rfl) (W 146 rfl) w43 (W 148 rfl) (by decide) cp E_cp [] [] (rm27 hw cp (own_step c1 c0 (own_step c0 0 (1 : Int64))) (own_colf (2 : Int32) (own_st c1 2 (own_st c0 1 (0 : Int32)))) c1 h9 n0 Z9 nc1 E_cp Fl5 Fc5 Fa5) e10 0 rfl (M rfl) (lenOf pd19 rfl) (B 19 rfl) rfl rfl rfl (fun v T11 L X11 Y => ?_)
 obtain ⟨p_, rfl, N11q, K11, E_p, Fl_p, Fc_p, Fa_p⟩ := Y
 have N11 := Fr.app N9 N11q
 have E_a := E_a.keep K11
 have W_countedPosition := W_countedPosition.keep K11 nin0
 have W_limit := W_limit.keep K11 nin0
 have W_buf := W_buf.keep K11 nin0
 have W_pos := W_pos.keep K11 nin0
 have W_noLineEndFrom := W_noLineEndFrom.keep K11 nin0
 have W_counted := W_counted.keep K11 nin0
 have E_cp := E_cp.keep K11
 have V_bf := V_bf.keep K11 nin0
 have Fl5 := Fl5.keep K11 nin0
 have Fc5 := Fc5.keep K11 nin0
 have Fa5 := Fa5.keep K11 nin0
 have Z11 := Nat.le_trans Z9 K11.1
 refine g_astoreN X11 hx 43 _ (B 20 rfl) rfl rfl rfl ?_
 refine ga X11 hx 44 (B 21 rfl) rfl rfl rfl ?_
 refine ga X11 hx 45 (B 22 rfl) rfl rfl rfl ?_
 refine gG X11 hx 48 hZ hown (host := "") (Or.inl (W 68 rfl)) Via.refl rfl W_buf (B 23 rfl) rfl (fun T12 X12 e12 => ?_)
 refine ga X12 hx 49 (B 24 rfl) rfl rfl rfl ?_
 refine gG X12 hx 52 hZ hown (host := "") (Or.inl w110) Via.refl e12 W_pos (B 25 rfl) rfl (fun T13 X13 e13 => ?_)
 refine ga X13 hx 53 (B 26 rfl) rfl rfl rfl ?_
 refine gG X13 hx 56 hZ hown (host := "") (Or.inl w110) Via.refl e13 W_pos (B 27 rfl) rfl (fun T14 X14 e14 => ?_)
 refine gn X14 hx 57 (B 28 rfl) rfl rfl ?_
 refine gp X14 hx 58 (2 : Int32) (B 29 rfl) (by decide) rfl ?_
 refine gV X14 hx 61 hZ hown (W 129 rfl) (W 130 rfl) (W 132 rfl) (W 131 rfl) w43 (W 133 rfl) (by decide) p_ E_p [(.ref bf), (.int 2), (.int 2)] [] (rp_same hw p_ bf (2 : Int32) T11.heap n0 Z11) e14 0 rfl (M rfl) (lenOf pd18 rfl) (B 30 rfl) rfl rfl rfl (fun v T15 L X15 Y => ?_)
 obtain ⟨rfl, N15q, e15⟩ := Y
 have N15 := Fr.app N11 N15q
 refine ga X15 hx 62 (B 31 rfl) rfl rfl rfl ?_
 exact g_retA X15 hx hret hlk rfl rfl rfl (B 32 rfl) (by decide) (by decide) ⟨p_, rfl, N15, by rw [e15]; exact Z11, by rw [e15]; exact ⟨E_p, Fl_p, Fc_p, Fa_p⟩⟩
set_option maxRecDepth 65536 in
set_option maxHeartbeats 40000000 in
theorem pa_3 {l : Launch} {Z : State} {a0 : Array Value} (hw : ∀ d ∈ tables_1, d.before a0 Z = true) (a cp bf : Addr)  (c0 c1 c2 c3 : Int32) (kF : ClassId) (h0 : Heap) (n0 : Nat) (Z0 : n0 ≤ h0.size) (g_a : n0 ≤ a) (g_cp : n0 ≤ cp) (E_a : Exa Z h0 a "gleanwell/Window") (W_countedPosition : Fld Z h0 a "gleanwell/Window" "countedPosition" "Lgleanwell/Position;" (.ref cp)) (W_limit : Fld Z h0 a "gleanwell/Window" "limit" "I" (.int 4)) (W_buf : Fld Z h0 a "gleanwell/Window" "buf" "[C" (.ref bf)) (W_pos : Fld Z h0 a "gleanwell/Window" "pos" "I" (.int 3)) (W_noLineEndFrom : Fld Z h0 a "gleanwell/Window" "noLineEndFrom" "I" (.int 3)) (W_counted : Fld Z h0 a "gleanwell/Window" "counted" "I" (.int 0)) (E_cp : Exa Z h0 cp "gleanwell/Position") (F_ln : Fld Z h0 cp "gleanwell/Position" "line" "J" (.long 1)) (F_co : Fld Z h0 cp "gleanwell/Position" "column" "J" (.long 1)) (F_la : Fld Z h0 cp "gleanwell/Position" "last" "C" (.int 0)) (V_bf : Arv Z h0 bf kF .char (5 : Int32) [(.int c0), (.int c1), (.int c2), (.int c3), (.int 0)] (.int 0)) (nc0 : nar .char c0 = c0) (nc1 : nar .char c1 = c1) (nc2 : nar .char c2 = c2) (nc3 : nar .char c3 = c3) (hc0 : ¬ 255 < c0) (hc1 : ¬ 255 < c1) (hc2 : ¬ 255 < c2) (hc3 : ¬ 255 < c3) :
  OwnMet l Z (⟨"gleanwell/Window", "positionAt", "(I)Lgleanwell/Position;"⟩ : MethodName) prog_52_method_11_code 3 (some (.object "gleanwell/Position")) [] (⟨3, 1, 3, 60⟩ : Room) [(.ref a), (.int 0)] h0 (fun v h L => ∃ p, v = some (.ref p) ∧ Fr n0 L ∧ n0 ≤ h.size ∧ Exa Z h p "gleanwell/Position" ∧ Fld Z h p "gleanwell/Position" "line" "J" (.long (own_step c2 c1 (own_step c1 c0 (own_step c0 0 (1 : Int64))))) ∧ Fld Z h p "gleanwell/Position" "column" "J" (.long (own_colf (3 : Int32) (own_st c2 3 (own_st c1 2 (own_st c0 1 (0 : Int32)))))) ∧ Fld Z h p "gleanwell/Position" "last" "C" (.int c2)) := by
 refine own_body (Ls := #[A a, I 0, U]) (plainFor_of_name own_pn7) (fun m => by first | (simp [entryFrame, mkF, argsToLocals, Value.category]; done) | rfl) (fun p e s m below meth cO T0 hx hby hml hown hnm hret hlk hZ X0 e0 => ?_)
 have hown : s.vm.findClass "gleanwell/Window" = some m.cls := hown
 have B {q r} (i : Nat) := own_B (q := q) (r := r) hby D23_ok i
 have W {d : Jvm.Cond} (i : Nat) (h : tables_1[i]? = some d) : d.before a0 Z = true := own_w hw i h
 have w6 := W 6 rfl
 have w110 := W 110 rfl
 have w43 := W 43 rfl
 have M {n : Nat} (h : n = _) : n = cO.maxLocals := h.trans hml.symm
 have N0 := Fr.nil n0
 have K0 := Keep.refl h0 [a, cp]
 have ne_cp_a : cp ≠ a := Ne.symm (ne_exa E_a E_cp (by decide))
 have ne_bf_a : bf ≠ a := Ne.symm (Exa.neArv E_a V_bf w6)
 have ne_bf_cp : bf ≠ cp := Ne.symm (Exa.neArv E_cp V_bf (W 42 rfl))
 refine ga X0 hx 1 (B 0 rfl) rfl rfl rfl ?_
 refine gG X0 hx 4 hZ hown (host := "") (Or.inl (W 52 rfl)) Via.refl e0 W_countedPosition (B 1 rfl) rfl (fun T1 X1 e1 => ?_)
 refine ga X1 hx 5 (B 2 rfl) rfl rfl rfl ?_
 refine gG X1 hx 8 hZ hown (host := "") (Or.inl (W 68 rfl)) Via.refl e1 W_buf (B 3 rfl) rfl (fun T2 X2 e2 => ?_)
 refine ga X2 hx 9 (B 4 rfl) rfl rfl rfl ?_
 refine gG X2 hx 12 hZ hown (host := "") (Or.inl (W 127 rfl)) Via.refl e2 W_counted (B 5 rfl) rfl (fun T3 X3 e3 => ?_)
 refine ga X3 hx 13 (B 6 rfl) rfl rfl rfl ?_
 refine gG X3 hx 16 hZ hown (host := "") (Or.inl w110) Via.refl e3 W_pos (B 7 rfl) rfl (fun T4 X4 e4 => ?_)
 refine gV X4 hx 19 hZ hown (W 129 rfl) (W 130 rfl) (W 132 rfl) (W 131 rfl) w43 (W 133 rfl) (by decide) cp E_cp [(.ref bf), (.int 0), (.int 3)] [] (rp_3 hw cp bf (1 : Int64) c0 c1 c2 c3 kF h0 n0 Z0 g_cp E_cp F_ln F_co F_la V_bf nc0 nc1 nc2 nc3 hc0 hc1 hc2 hc3 (Ne.symm ne_bf_cp)) e4 0 rfl (M rfl) (lenOf pd18 rfl) (B 8 rfl) rfl rfl rfl (fun v T5 L X5 Y => ?_)
 obtain ⟨rfl, N5q, K5, E5x, Fl5, Fc5, Fa5⟩ := Y
 have N5 := Fr.app N0 N5q
 have E_a := E_a.keep K5
 have W_countedPosition := W_countedPosition.keep K5 (ninS (Ne.symm ne_cp_a) nin0)
 have W_limit := W_limit.keep K5 (ninS (Ne.symm ne_cp_a) nin0)
 have W_buf := W_buf.keep K5 (ninS (Ne.symm ne_cp_a) nin0)
 have W_pos := W_pos.keep K5 (ninS (Ne.symm ne_cp_a) nin0)
 have W_noLineEndFrom := W_noLineEndFrom.keep K5 (ninS (Ne.symm ne_cp_a) nin0)
 have W_counted := W_counted.keep K5 (ninS (Ne.symm ne_cp_a) nin0)
 have E_cp := E_cp.keep K5
 have V_bf := V_bf.keep K5 (ninS ne_bf_cp nin0)
 have KK5 := K0.trans K5 (allS (Or.inl (List.mem_of_getElem? (i := 1) rfl)) all0)
 have Z5 := Nat.le_trans Z0 K5.1
 refine ga X5 hx 20 (B 9 rfl) rfl rfl rfl ?_
 refine ga X5 hx 21 (B 10 rfl) rfl rfl rfl ?_
 refine gG X5 hx 24 hZ hown (host := "") (Or.inl w110) Via.refl rfl W_pos (B 11 rfl) rfl (fun T6 X6 e6 => ?_)
 refine gP X6 hx 27 hZ hown (host := "") (Or.inl (W 127 rfl)) Via.refl e6 W_counted E_a (Or.inl (W 128 rfl)) w6 (ty := .int) (by decide) rfl rfl (B 12 rfl) rfl (fun T7 h7 X7 e7 W7 => ?_)
 have E_a := E_a.wr W7
 have W_countedPosition := W_countedPosition.other W7 (Or.inr (sn53 hw))
 have W_limit := W_limit.other W7 (Or.inr (sn54 hw))
 have W_buf := W_buf.other W7 (Or.inr (sn55 hw))
 have W_pos := W_pos.other W7 (Or.inr (sn56 hw))
 have W_noLineEndFrom := W_noLineEndFrom.other W7 (Or.inr (sn57 hw))
 have W_counted := W_counted.same W7
 have E_cp := E_cp.wr W7
 have V_bf := V_bf.other W7 ne_bf_a
 have Fl5 := Fl5.other W7 (Or.inl ne_cp_a)
 have Fc5 := Fc5.other W7 (Or.inl ne_cp_a)
 have Fa5 := Fa5.other W7 (Or.inl ne_cp_a)
 have N7 := Fr.snoc X7 N5 g_a
 have Z7 : n0 ≤ h7.size := by rw [W7.size]; exact Z5
 have K7 := KK5.wr W7 (Or.inl (List.mem_of_getElem? (i := 0) rfl))
 refine ga X7 hx 28 (B 13 rfl) rfl rfl rfl ?_
 refine ga X7 hx 29 (B 14 rfl) rfl rfl rfl ?_
 refine gG X7 hx 32 hZ hown (host := "") (Or.inl w110) Via.refl e7 W_pos (B 15 rfl) rfl (fun T8 X8 e8 => ?_)
 refine gP X8 hx 35 hZ hown (host := "") (Or.inl (W 112 rfl)) Via.refl e8 W_noLineEndFrom E_a (Or.inl (W 113 rfl)) w6 (ty := .int) (by decide) rfl rfl (B 16 rfl) rfl (fun T9 h9 X9 e9 W9 => ?_)
 have E_a := E_a.wr W9
 have W_countedPosition := W_countedPosition.other W9 (Or.inr (sn13 hw))
 have W_limit := W_limit.other W9 (Or.inr (sn14 hw))
 have W_buf := W_buf.other W9 (Or.inr (sn15 hw))
 have W_pos := W_pos.other W9 (Or.inr (sn16 hw))
 have W_noLineEndFrom := W_noLineEndFrom.same W9
 have W_counted := W_counted.other W9 (Or.inr (sn17 hw))
 have E_cp := E_cp.wr W9
 have V_bf := V_bf.other W9 ne_bf_a
 have Fl5 := Fl5.other W9 (Or.inl ne_cp_a)
 have Fc5 := Fc5.other W9 (Or.inl ne_cp_a)
 have Fa5 := Fa5.other W9 (Or.inl ne_cp_a)
 have N9 := Fr.snoc X9 N7 g_a
 have Z9 : n0 ≤ h9.size := by rw [W9.size]; exact Z7
 have K9 := K7.wr W9 (Or.inl (List.mem_of_getElem? (i := 0) rfl))
 refine ga X9 hx 36 (B 17 rfl) rfl rfl rfl ?_
 refine gG X9 hx 39 hZ hown (host := "") (Or.inl (W 52 rfl)) Via.refl e9 W_countedPosition (B 18 rfl) rfl (fun T10 X10 e10 => ?_)
 refine gV X10 hx 42 hZ hown (W 144 rfl) (W 145 rfl) (W 147 rfl) (W 146 rfl) w43 (W 148 rfl) (by decide) cp E_cp [] [] (rm27 hw cp (own_step c2 c1 (own_step c1 c0 (own_step c0 0 (1 : Int64)))) (own_colf (3 : Int32) (own_st c2 3 (own_st c1 2 (own_st c0 1 (0 : Int32))))) c2 h9 n0 Z9 nc2 E_cp Fl5 Fc5 Fa5) e10 0 rfl (M rfl) (lenOf pd19 rfl) (B 19 rfl) rfl rfl rfl (fun v T11 L X11 Y => ?_)
 obtain ⟨p_, rfl, N11q, K11, E_p, Fl_p, Fc_p, Fa_p⟩ := Y
 have N11 := Fr.app N9 N11q
 have E_a := E_a.keep K11
 have W_countedPosition := W_countedPosition.keep K11 nin0
 have W_limit := W_limit.keep K11 nin0
 have W_buf := W_buf.keep K11 nin0
 have W_pos := W_pos.keep K11 nin0
 have W_noLineEndFrom := W_noLineEndFrom.keep K11 nin0
 have W_counted := W_counted.keep K11 nin0
 have E_cp := E_cp.keep K11
 have V_bf := V_bf.keep K11 nin0
 have Fl5 := Fl5.keep K11 nin0
 have Fc5 := Fc5.keep K11 nin0
 have Fa5 := Fa5.keep K11 nin0
 have Z11 := Nat.le_trans Z9 K11.1
 refine g_astoreN X11 hx 43 _ (B 20 rfl) rfl rfl rfl ?_
 refine ga X11 hx 44 (B 21 rfl) rfl rfl rfl ?_
 refine ga X11 hx 45 (B 22 rfl) rfl rfl rfl ?_
 refine gG X11 hx 48 hZ hown (host := "") (Or.inl (W 68 rfl)) Via.refl rfl W_buf (B 23 rfl) rfl (fun T12 X12 e12 => ?_)
 refine ga X12 hx 49 (B 24 rfl) rfl rfl rfl ?_
 refine gG X12 hx 52 hZ hown (host := "") (Or.inl w110) Via.refl e12 W_pos (B 25 rfl) rfl (fun T13 X13 e13 => ?_)
 refine ga X13 hx 53 (B 26 rfl) rfl rfl rfl ?_
 refine gG X13 hx 56 hZ hown (host := "") (Or.inl w110) Via.refl e13 W_pos (B 27 rfl) rfl (fun T14 X14 e14 => ?_)
 refine gn X14 hx 57 (B 28 rfl) rfl rfl ?_
 refine gp X14 hx 58 (3 : Int32) (B 29 rfl) (by decide) rfl ?_
 refine gV X14 hx 61 hZ hown (W 129 rfl) (W 130 rfl) (W 132 rfl) (W 131 rfl) w43 (W 133 rfl) (by decide) p_ E_p [(.ref bf), (.int 3), (.int 3)] [] (rp_same hw p_ bf (3 : Int32) T11.heap n0 Z11) e14 0 rfl (M rfl) (lenOf pd18 rfl) (B 30 rfl) rfl rfl rfl (fun v T15 L X15 Y => ?_)
 obtain ⟨rfl, N15q, e15⟩ := Y
 have N15 := Fr.app N11 N15q
 refine ga X15 hx 62 (B 31 rfl) rfl rfl rfl ?_
 exact g_retA X15 hx hret hlk rfl rfl rfl (B 32 rfl) (by decide) (by decide) ⟨p_, rfl, N15, by rw [e15]; exact Z11, by rw [e15]; exact ⟨E_p, Fl_p, Fc_p, Fa_p⟩⟩
set_option maxRecDepth 65536 in
set_option maxHeartbeats 40000000 in
theorem pa_4 {l : Launch} {Z : State} {a0 : Array Value} (hw : ∀ d ∈ tables_1, d.before a0 Z = true) (a cp bf : Addr)  (c0 c1 c2 c3 : Int32) (kF : ClassId) (h0 : Heap) (n0 : Nat) (Z0 : n0 ≤ h0.size) (g_a : n0 ≤ a) (g_cp : n0 ≤ cp) (E_a : Exa Z h0 a "gleanwell/Window") (W_countedPosition : Fld Z h0 a "gleanwell/Window" "countedPosition" "Lgleanwell/Position;" (.ref cp)) (W_limit : Fld Z h0 a "gleanwell/Window" "limit" "I" (.int 4)) (W_buf : Fld Z h0 a "gleanwell/Window" "buf" "[C" (.ref bf)) (W_pos : Fld Z h0 a "gleanwell/Window" "pos" "I" (.int 4)) (W_noLineEndFrom : Fld Z h0 a "gleanwell/Window" "noLineEndFrom" "I" (.int 4)) (W_counted : Fld Z h0 a "gleanwell/Window" "counted" "I" (.int 0)) (E_cp : Exa Z h0 cp "gleanwell/Position") (F_ln : Fld Z h0 cp "gleanwell/Position" "line" "J" (.long 1)) (F_co : Fld Z h0 cp "gleanwell/Position" "column" "J" (.long 1)) (F_la : Fld Z h0 cp "gleanwell/Position" "last" "C" (.int 0)) (V_bf : Arv Z h0 bf kF .char (5 : Int32) [(.int c0), (.int c1), (.int c2), (.int c3), (.int 0)] (.int 0)) (nc0 : nar .char c0 = c0) (nc1 : nar .char c1 = c1) (nc2 : nar .char c2 = c2) (nc3 : nar .char c3 = c3) (hc0 : ¬ 255 < c0) (hc1 : ¬ 255 < c1) (hc2 : ¬ 255 < c2) (hc3 : ¬ 255 < c3) :
  OwnMet l Z (⟨"gleanwell/Window", "positionAt", "(I)Lgleanwell/Position;"⟩ : MethodName) prog_52_method_11_code 3 (some (.object "gleanwell/Position")) [] (⟨3, 1, 3, 60⟩ : Room) [(.ref a), (.int 0)] h0 (fun v h L => ∃ p, v = some (.ref p) ∧ Fr n0 L ∧ n0 ≤ h.size ∧ Exa Z h p "gleanwell/Position" ∧ Fld Z h p "gleanwell/Position" "line" "J" (.long (own_step c3 c2 (own_step c2 c1 (own_step c1 c0 (own_step c0 0 (1 : Int64)))))) ∧ Fld Z h p "gleanwell/Position" "column" "J" (.long (own_colf (4 : Int32) (own_st c3 4 (own_st c2 3 (own_st c1 2 (own_st c0 1 (0 : Int32))))))) ∧ Fld Z h p "gleanwell/Position" "last" "C" (.int c3)) := by
 refine own_body (Ls := #[A a, I 0, U]) (plainFor_of_name own_pn7) (fun m => by first | (simp [entryFrame, mkF, argsToLocals, Value.category]; done) | rfl) (fun p e s m below meth cO T0 hx hby hml hown hnm hret hlk hZ X0 e0 => ?_)
 have hown : s.vm.findClass "gleanwell/Window" = some m.cls := hown
 have B {q r} (i : Nat) := own_B (q := q) (r := r) hby D23_ok i
 have W {d : Jvm.Cond} (i : Nat) (h : tables_1[i]? = some d) : d.before a0 Z = true := own_w hw i h
 have w6 := W 6 rfl
 have w110 := W 110 rfl
 have w43 := W 43 rfl
 have M {n : Nat} (h : n = _) : n = cO.maxLocals := h.trans hml.symm
 have N0 := Fr.nil n0
 have K0 := Keep.refl h0 [a, cp]
 have ne_cp_a : cp ≠ a := Ne.symm (ne_exa E_a E_cp (by decide))
 have ne_bf_a : bf ≠ a := Ne.symm (Exa.neArv E_a V_bf w6)
 have ne_bf_cp : bf ≠ cp := Ne.symm (Exa.neArv E_cp V_bf (W 42 rfl))
 refine ga X0 hx 1 (B 0 rfl) rfl rfl rfl ?_
 refine gG X0 hx 4 hZ hown (host := "") (Or.inl (W 52 rfl)) Via.refl e0 W_countedPosition (B 1 rfl) rfl (fun T1 X1 e1 => ?_)
 refine ga X1 hx 5 (B 2 rfl) rfl rfl rfl ?_
 refine gG X1 hx 8 hZ hown (host := "") (Or.inl (W 68 rfl)) Via.refl e1 W_buf (B 3 rfl) rfl (fun T2 X2 e2 => ?_)
 refine ga X2 hx 9 (B 4 rfl) rfl rfl rfl ?_
 refine gG X2 hx 12 hZ hown (host := "") (Or.inl (W 127 rfl)) Via.refl e2 W_counted (B 5 rfl) rfl (fun T3 X3 e3 => ?_)
 refine ga X3 hx 13 (B 6 rfl) rfl rfl rfl ?_
 refine gG X3 hx 16 hZ hown (host := "") (Or.inl w110) Via.refl e3 W_pos (B 7 rfl) rfl (fun T4 X4 e4 => ?_)
 refine gV X4 hx 19 hZ hown (W 129 rfl) (W 130 rfl) (W 132 rfl) (W 131 rfl) w43 (W 133 rfl) (by decide) cp E_cp [(.ref bf), (.int 0), (.int 4)] [] (rp_4 hw cp bf (1 : Int64) c0 c1 c2 c3 kF h0 n0 Z0 g_cp E_cp F_ln F_co F_la V_bf nc0 nc1 nc2 nc3 hc0 hc1 hc2 hc3 (Ne.symm ne_bf_cp)) e4 0 rfl (M rfl) (lenOf pd18 rfl) (B 8 rfl) rfl rfl rfl (fun v T5 L X5 Y => ?_)
 obtain ⟨rfl, N5q, K5, E5x, Fl5, Fc5, Fa5⟩ := Y
 have N5 := Fr.app N0 N5q
 have E_a := E_a.keep K5
 have W_countedPosition := W_countedPosition.keep K5 (ninS (Ne.symm ne_cp_a) nin0)
 have W_limit := W_limit.keep K5 (ninS (Ne.symm ne_cp_a) nin0)
 have W_buf := W_buf.keep K5 (ninS (Ne.symm ne_cp_a) nin0)
 have W_pos := W_pos.keep K5 (ninS (Ne.symm ne_cp_a) nin0)
 have W_noLineEndFrom := W_noLineEndFrom.keep K5 (ninS (Ne.symm ne_cp_a) nin0)
 have W_counted := W_counted.keep K5 (ninS (Ne.symm ne_cp_a) nin0)
 have E_cp := E_cp.keep K5
 have V_bf := V_bf.keep K5 (ninS ne_bf_cp nin0)
 have KK5 := K0.trans K5 (allS (Or.inl (List.mem_of_getElem? (i := 1) rfl)) all0)
 have Z5 := Nat.le_trans Z0 K5.1
 refine ga X5 hx 20 (B 9 rfl) rfl rfl rfl ?_
 refine ga X5 hx 21 (B 10 rfl) rfl rfl rfl ?_
 refine gG X5 hx 24 hZ hown (host := "") (Or.inl w110) Via.refl rfl W_pos (B 11 rfl) rfl (fun T6 X6 e6 => ?_)
 refine gP X6 hx 27 hZ hown (host := "") (Or.inl (W 127 rfl)) Via.refl e6 W_counted E_a (Or.inl (W 128 rfl)) w6 (ty := .int) (by decide) rfl rfl (B 12 rfl) rfl (fun T7 h7 X7 e7 W7 => ?_)
 have E_a := E_a.wr W7
 have W_countedPosition := W_countedPosition.other W7 (Or.inr (sn53 hw))
 have W_limit := W_limit.other W7 (Or.inr (sn54 hw))
 have W_buf := W_buf.other W7 (Or.inr (sn55 hw))
 have W_pos := W_pos.other W7 (Or.inr (sn56 hw))
 have W_noLineEndFrom := W_noLineEndFrom.other W7 (Or.inr (sn57 hw))
 have W_counted := W_counted.same W7
 have E_cp := E_cp.wr W7
 have V_bf := V_bf.other W7 ne_bf_a
 have Fl5 := Fl5.other W7 (Or.inl ne_cp_a)
 have Fc5 := Fc5.other W7 (Or.inl ne_cp_a)
 have Fa5 := Fa5.other W7 (Or.inl ne_cp_a)
 have N7 := Fr.snoc X7 N5 g_a
 have Z7 : n0 ≤ h7.size := by rw [W7.size]; exact Z5
 have K7 := KK5.wr W7 (Or.inl (List.mem_of_getElem? (i := 0) rfl))
 refine ga X7 hx 28 (B 13 rfl) rfl rfl rfl ?_
 refine ga X7 hx 29 (B 14 rfl) rfl rfl rfl ?_
 refine gG X7 hx 32 hZ hown (host := "") (Or.inl w110) Via.refl e7 W_pos (B 15 rfl) rfl (fun T8 X8 e8 => ?_)
 refine gP X8 hx 35 hZ hown (host := "") (Or.inl (W 112 rfl)) Via.refl e8 W_noLineEndFrom E_a (Or.inl (W 113 rfl)) w6 (ty := .int) (by decide) rfl rfl (B 16 rfl) rfl (fun T9 h9 X9 e9 W9 => ?_)
 have E_a := E_a.wr W9
 have W_countedPosition := W_countedPosition.other W9 (Or.inr (sn13 hw))
 have W_limit := W_limit.other W9 (Or.inr (sn14 hw))
 have W_buf := W_buf.other W9 (Or.inr (sn15 hw))
 have W_pos := W_pos.other W9 (Or.inr (sn16 hw))
 have W_noLineEndFrom := W_noLineEndFrom.same W9
 have W_counted := W_counted.other W9 (Or.inr (sn17 hw))
 have E_cp := E_cp.wr W9
 have V_bf := V_bf.other W9 ne_bf_a
 have Fl5 := Fl5.other W9 (Or.inl ne_cp_a)
 have Fc5 := Fc5.other W9 (Or.inl ne_cp_a)
 have Fa5 := Fa5.other W9 (Or.inl ne_cp_a)
 have N9 := Fr.snoc X9 N7 g_a
 have Z9 : n0 ≤ h9.size := by rw [W9.size]; exact Z7
 have K9 := K7.wr W9 (Or.inl (List.mem_of_getElem? (i := 0) rfl))
 refine ga X9 hx 36 (B 17 rfl) rfl rfl rfl ?_
 refine gG X9 hx 39 hZ hown (host := "") (Or.inl (W 52 rfl)) Via.refl e9 W_countedPosition (B 18 rfl) rfl (fun T10 X10 e10 => ?_)
 refine gV X10 hx 42 hZ hown (W 144 rfl) (W 145 rfl) (W 147 rfl) (W 146 rfl) w43 (W 148 rfl) (by decide) cp E_cp [] [] (rm27 hw cp (own_step c3 c2 (own_step c2 c1 (own_step c1 c0 (own_step c0 0 (1 : Int64))))) (own_colf (4 : Int32) (own_st c3 4 (own_st c2 3 (own_st c1 2 (own_st c0 1 (0 : Int32)))))) c3 h9 n0 Z9 nc3 E_cp Fl5 Fc5 Fa5) e10 0 rfl (M rfl) (lenOf pd19 rfl) (B 19 rfl) rfl rfl rfl (fun v T11 L X11 Y => ?_)
 obtain ⟨p_, rfl, N11q, K11, E_p, Fl_p, Fc_p, Fa_p⟩ := Y
 have N11 := Fr.app N9 N11q
 have E_a := E_a.keep K11
 have W_countedPosition := W_countedPosition.keep K11 nin0
 have W_limit := W_limit.keep K11 nin0
 have W_buf := W_buf.keep K11 nin0
 have W_pos := W_pos.keep K11 nin0
 have W_noLineEndFrom := W_noLineEndFrom.keep K11 nin0
 have W_counted := W_counted.keep K11 nin0
 have E_cp := E_cp.keep K11
 have V_bf := V_bf.keep K11 nin0
 have Fl5 := Fl5.keep K11 nin0
 have Fc5 := Fc5.keep K11 nin0
 have Fa5 := Fa5.keep K11 nin0
 have Z11 := Nat.le_trans Z9 K11.1
 refine g_astoreN X11 hx 43 _ (B 20 rfl) rfl rfl rfl ?_
 refine ga X11 hx 44 (B 21 rfl) rfl rfl rfl ?_
 refine ga X11 hx 45 (B 22 rfl) rfl rfl rfl ?_
 refine gG X11 hx 48 hZ hown (host := "") (Or.inl (W 68 rfl)) Via.refl rfl W_buf (B 23 rfl) rfl (fun T12 X12 e12 => ?_)
 refine ga X12 hx 49 (B 24 rfl) rfl rfl rfl ?_
 refine gG X12 hx 52 hZ hown (host := "") (Or.inl w110) Via.refl e12 W_pos (B 25 rfl) rfl (fun T13 X13 e13 => ?_)
 refine ga X13 hx 53 (B 26 rfl) rfl rfl rfl ?_
 refine gG X13 hx 56 hZ hown (host := "") (Or.inl w110) Via.refl e13 W_pos (B 27 rfl) rfl (fun T14 X14 e14 => ?_)
 refine gn X14 hx 57 (B 28 rfl) rfl rfl ?_
 refine gp X14 hx 58 (4 : Int32) (B 29 rfl) (by decide) rfl ?_
 refine gV X14 hx 61 hZ hown (W 129 rfl) (W 130 rfl) (W 132 rfl) (W 131 rfl) w43 (W 133 rfl) (by decide) p_ E_p [(.ref bf), (.int 4), (.int 4)] [] (rp_same hw p_ bf (4 : Int32) T11.heap n0 Z11) e14 0 rfl (M rfl) (lenOf pd18 rfl) (B 30 rfl) rfl rfl rfl (fun v T15 L X15 Y => ?_)
 obtain ⟨rfl, N15q, e15⟩ := Y
 have N15 := Fr.app N11 N15q
 refine ga X15 hx 62 (B 31 rfl) rfl rfl rfl ?_
 exact g_retA X15 hx hret hlk rfl rfl rfl (B 32 rfl) (by decide) (by decide) ⟨p_, rfl, N15, by rw [e15]; exact Z11, by rw [e15]; exact ⟨E_p, Fl_p, Fc_p, Fa_p⟩⟩
theorem own_fin_1 (c0 c1 c2 c3 : Int32) : (own_step c0 (0 : Int32) (1 : Int64)) = ((((((1 : Int32) + (own_ea c0 (0 : Int32))) + (0 : Int32)) + (0 : Int32)) + (0 : Int32))).toInt64 := by
  simp only [own_step_ea]
  have e0 := own_ea01 c0 0
  generalize (own_ea c0 (0 : Int32)) = x0 at e0 ⊢
  rcases e0 with rfl | rfl <;> decide
theorem own_fin_2 (c0 c1 c2 c3 : Int32) : (own_step c1 c0 (own_step c0 (0 : Int32) (1 : Int64))) = ((((((1 : Int32) + (own_ea c0 (0 : Int32))) + (own_ea c1 c0)) + (0 : Int32)) + (0 : Int32))).toInt64 := by
  simp only [own_step_ea]
  have e0 := own_ea01 c0 0
  generalize (own_ea c0 (0 : Int32)) = x0 at e0 ⊢
  have e1 := own_ea01 c1 c0
  generalize (own_ea c1 c0) = x1 at e1 ⊢
  rcases e0 with rfl | rfl <;> rcases e1 with rfl | rfl <;> decide
theorem own_fin_3 (c0 c1 c2 c3 : Int32) : (own_step c2 c1 (own_step c1 c0 (own_step c0 (0 : Int32) (1 : Int64)))) = ((((((1 : Int32) + (own_ea c0 (0 : Int32))) + (own_ea c1 c0)) + (own_ea c2 c1)) + (0 : Int32))).toInt64 := by
  simp only [own_step_ea]
  have e0 := own_ea01 c0 0
  generalize (own_ea c0 (0 : Int32)) = x0 at e0 ⊢
  have e1 := own_ea01 c1 c0
  generalize (own_ea c1 c0) = x1 at e1 ⊢
  have e2 := own_ea01 c2 c1
  generalize (own_ea c2 c1) = x2 at e2 ⊢
  rcases e0 with rfl | rfl <;> rcases e1 with rfl | rfl <;> rcases e2 with rfl | rfl <;> decide
theorem own_fin_4 (c0 c1 c2 c3 : Int32) : (own_step c3 c2 (own_step c2 c1 (own_step c1 c0 (own_step c0 (0 : Int32) (1 : Int64))))) = ((((((1 : Int32) + (own_ea c0 (0 : Int32))) + (own_ea c1 c0)) + (own_ea c2 c1)) + (own_ea c3 c2))).toInt64 := by
  simp only [own_step_ea]
  have e0 := own_ea01 c0 0
  generalize (own_ea c0 (0 : Int32)) = x0 at e0 ⊢
  have e1 := own_ea01 c1 c0
  generalize (own_ea c1 c0) = x1 at e1 ⊢
  have e2 := own_ea01 c2 c1
  generalize (own_ea c2 c1) = x2 at e2 ⊢
  have e3 := own_ea01 c3 c2
  generalize (own_ea c3 c2) = x3 at e3 ⊢
  rcases e0 with rfl | rfl <;> rcases e1 with rfl | rfl <;> rcases e2 with rfl | rfl <;> rcases e3 with rfl | rfl <;> decide
theorem own_fin_0_0 (c0 c1 c2 c3 : Int32)  : (1 : Int64) + ((own_ea c0 (0 : Int32))).toInt64 = ((((((1 : Int32) + (own_ea c0 (0 : Int32))) + (0 : Int32)) + (0 : Int32)) + (0 : Int32))).toInt64 := by
  have e0 := own_ea01 c0 0
  generalize (own_ea c0 (0 : Int32)) = x0 at e0 ⊢
  rcases e0 with rfl | rfl <;> decide
theorem own_fin_0_1 (c0 c1 c2 c3 : Int32) (z0 : own_term c0 = 0) : (1 : Int64) + ((own_ea c1 c0)).toInt64 = ((((((1 : Int32) + (own_ea c0 (0 : Int32))) + (own_ea c1 c0)) + (0 : Int32)) + (0 : Int32))).toInt64 := by
  rw [show (own_ea c0 (0 : Int32)) = 0 from if_pos z0]
  have e1 := own_ea01 c1 c0
  generalize (own_ea c1 c0) = x1 at e1 ⊢
  rcases e1 with rfl | rfl <;> decide
theorem own_fin_0_2 (c0 c1 c2 c3 : Int32) (z0 : own_term c0 = 0) (z1 : own_term c1 = 0) : (1 : Int64) + ((own_ea c2 c1)).toInt64 = ((((((1 : Int32) + (own_ea c0 (0 : Int32))) + (own_ea c1 c0)) + (own_ea c2 c1)) + (0 : Int32))).toInt64 := by
  rw [show (own_ea c0 (0 : Int32)) = 0 from if_pos z0]
  rw [show (own_ea c1 c0) = 0 from if_pos z1]
  have e2 := own_ea01 c2 c1
  generalize (own_ea c2 c1) = x2 at e2 ⊢
  rcases e2 with rfl | rfl <;> decide
theorem own_fin_0_3 (c0 c1 c2 c3 : Int32) (z0 : own_term c0 = 0) (z1 : own_term c1 = 0) (z2 : own_term c2 = 0) : (1 : Int64) + ((own_ea c3 c2)).toInt64 = ((((((1 : Int32) + (own_ea c0 (0 : Int32))) + (own_ea c1 c0)) + (own_ea c2 c1)) + (own_ea c3 c2))).toInt64 := by
  rw [show (own_ea c0 (0 : Int32)) = 0 from if_pos z0]
  rw [show (own_ea c1 c0) = 0 from if_pos z1]
  rw [show (own_ea c2 c1) = 0 from if_pos z2]
  have e3 := own_ea01 c3 c2
  generalize (own_ea c3 c2) = x3 at e3 ⊢
  rcases e3 with rfl | rfl <;> decide
theorem own_fin_1_1 (c0 c1 c2 c3 : Int32)  : (own_step c0 (0 : Int32) (1 : Int64)) + ((own_ea c1 c0)).toInt64 = ((((((1 : Int32) + (own_ea c0 (0 : Int32))) + (own_ea c1 c0)) + (0 : Int32)) + (0 : Int32))).toInt64 := by
  simp only [own_step_ea]
  have e0 := own_ea01 c0 0
  generalize (own_ea c0 (0 : Int32)) = x0 at e0 ⊢
  have e1 := own_ea01 c1 c0
  generalize (own_ea c1 c0) = x1 at e1 ⊢
  rcases e0 with rfl | rfl <;> rcases e1 with rfl | rfl <;> decide
theorem own_fin_1_2 (c0 c1 c2 c3 : Int32) (z1 : own_term c1 = 0) : (own_step c0 (0 : Int32) (1 : Int64)) + ((own_ea c2 c1)).toInt64 = ((((((1 : Int32) + (own_ea c0 (0 : Int32))) + (own_ea c1 c0)) + (own_ea c2 c1)) + (0 : Int32))).toInt64 := by
  simp only [own_step_ea]
  rw [show (own_ea c1 c0) = 0 from if_pos z1]
  have e0 := own_ea01 c0 0
  generalize (own_ea c0 (0 : Int32)) = x0 at e0 ⊢
  have e2 := own_ea01 c2 c1
  generalize (own_ea c2 c1) = x2 at e2 ⊢
  rcases e0 with rfl | rfl <;> rcases e2 with rfl | rfl <;> decide
theorem own_fin_1_3 (c0 c1 c2 c3 : Int32) (z1 : own_term c1 = 0) (z2 : own_term c2 = 0) : (own_step c0 (0 : Int32) (1 : Int64)) + ((own_ea c3 c2)).toInt64 = ((((((1 : Int32) + (own_ea c0 (0 : Int32))) + (own_ea c1 c0)) + (own_ea c2 c1)) + (own_ea c3 c2))).toInt64 := by
  simp only [own_step_ea]
  rw [show (own_ea c1 c0) = 0 from if_pos z1]
  rw [show (own_ea c2 c1) = 0 from if_pos z2]
  have e0 := own_ea01 c0 0
  generalize (own_ea c0 (0 : Int32)) = x0 at e0 ⊢
  have e3 := own_ea01 c3 c2
  generalize (own_ea c3 c2) = x3 at e3 ⊢
  rcases e0 with rfl | rfl <;> rcases e3 with rfl | rfl <;> decide
theorem own_fin_2_2 (c0 c1 c2 c3 : Int32)  : (own_step c1 c0 (own_step c0 (0 : Int32) (1 : Int64))) + ((own_ea c2 c1)).toInt64 = ((((((1 : Int32) + (own_ea c0 (0 : Int32))) + (own_ea c1 c0)) + (own_ea c2 c1)) + (0 : Int32))).toInt64 := by
  simp only [own_step_ea]
  have e0 := own_ea01 c0 0
  generalize (own_ea c0 (0 : Int32)) = x0 at e0 ⊢
  have e1 := own_ea01 c1 c0
  generalize (own_ea c1 c0) = x1 at e1 ⊢
  have e2 := own_ea01 c2 c1
  generalize (own_ea c2 c1) = x2 at e2 ⊢
  rcases e0 with rfl | rfl <;> rcases e1 with rfl | rfl <;> rcases e2 with rfl | rfl <;> decide
theorem own_fin_2_3 (c0 c1 c2 c3 : Int32) (z2 : own_term c2 = 0) : (own_step c1 c0 (own_step c0 (0 : Int32) (1 : Int64))) + ((own_ea c3 c2)).toInt64 = ((((((1 : Int32) + (own_ea c0 (0 : Int32))) + (own_ea c1 c0)) + (own_ea c2 c1)) + (own_ea c3 c2))).toInt64 := by
  simp only [own_step_ea]
  rw [show (own_ea c2 c1) = 0 from if_pos z2]
  have e0 := own_ea01 c0 0
  generalize (own_ea c0 (0 : Int32)) = x0 at e0 ⊢
  have e1 := own_ea01 c1 c0
  generalize (own_ea c1 c0) = x1 at e1 ⊢
  have e3 := own_ea01 c3 c2
  generalize (own_ea c3 c2) = x3 at e3 ⊢
  rcases e0 with rfl | rfl <;> rcases e1 with rfl | rfl <;> rcases e3 with rfl | rfl <;> decide
theorem own_fin_3_3 (c0 c1 c2 c3 : Int32)  : (own_step c2 c1 (own_step c1 c0 (own_step c0 (0 : Int32) (1 : Int64)))) + ((own_ea c3 c2)).toInt64 = ((((((1 : Int32) + (own_ea c0 (0 : Int32))) + (own_ea c1 c0)) + (own_ea c2 c1)) + (own_ea c3 c2))).toInt64 := by
  simp only [own_step_ea]
  have e0 := own_ea01 c0 0
  generalize (own_ea c0 (0 : Int32)) = x0 at e0 ⊢
  have e1 := own_ea01 c1 c0
  generalize (own_ea c1 c0) = x1 at e1 ⊢
  have e2 := own_ea01 c2 c1
  generalize (own_ea c2 c1) = x2 at e2 ⊢
  have e3 := own_ea01 c3 c2
  generalize (own_ea c3 c2) = x3 at e3 ⊢
  rcases e0 with rfl | rfl <;> rcases e1 with rfl | rfl <;> rcases e2 with rfl | rfl <;> rcases e3 with rfl | rfl <;> decide
theorem pd20 : parseMethodDescriptor "(I)C" = some ⟨[.int], some .char⟩ := by decide +kernel
theorem pd21 : parseMethodDescriptor "([C)V" = some ⟨[(.array .char)], none⟩ := by decide +kernel
theorem pd22 : parseMethodDescriptor "(Ljava/lang/String;)V" = some ⟨[(.object "java/lang/String")], none⟩ := by decide +kernel
theorem pd23 : parseMethodDescriptor "(I)V" = some ⟨[.int], none⟩ := by decide +kernel
theorem pd24 : parseMethodDescriptor "([CII)I" = some ⟨[(.array .char), .int, .int], some .int⟩ := by decide +kernel
theorem pd25 : parseMethodDescriptor "(I)Lgleanwell/Position;" = some ⟨[.int], some (.object "gleanwell/Position")⟩ := by decide +kernel
theorem pd26 : parseMethodDescriptor "()J" = some ⟨[], some .long⟩ := by decide +kernel
set_option maxRecDepth 65536 in
set_option maxHeartbeats 40000000 in
theorem law_0 {l : Launch} {Z : State} {a0 : Array Value} {x0 x1 x2 x3 m_ n_ a_ b_ c0 c1 c2 c3 : Int32} {b1 b10 cp bf : Addr} {kS kF : ClassId} {hT : Heap} {n0 : Nat} {p : Program} {e : Env} {s : State} {m : MethodId} {below : List Frame} {meth : Method} {cO : Code} (hw : ∀ d ∈ tables_1, d.before a0 Z = true) (hx : p.tables.exec = Jvm.exec) (hby : cO.code = code) (hml : cO.maxLocals = 17) (hown : s.vm.findClass "gleanwell/WindowMoveByPinLaw" = some m.cls) (hret : meth.sig.returnType = some .boolean) (hlk : meth.locks = false) (hZ : Z.Warmed39 s.vm)  (TK : State) (locsJ : List Loc) (XJ : Stand p l e room_1 s m ([(.int x0), (.int x1), (.int x2), (.int x3), (.int m_), (.int n_)] : List Value).toArray below meth cO TK locsJ 6 29) (eJ : TK.heap = hT) (NJ : Fr n0 locsJ) (V_b1 : Arv Z hT b1 kS .char (4 : Int32) [(.int c0), (.int c1), (.int c2), (.int c3)] (.int 0)) (V_bf : Arv Z hT bf kF .char (5 : Int32) [(.int c0), (.int c1), (.int c2), (.int c3), (.int 0)] (.int 0)) (E_b10 : Exa Z hT b10 "gleanwell/Window") (E_cp : Exa Z hT cp "gleanwell/Position") (Pl : Fld Z hT cp "gleanwell/Position" "line" "J" (.long (1 : Int64))) (Pc : Fld Z hT cp "gleanwell/Position" "column" "J" (.long (1 : Int64))) (Pa : Fld Z hT cp "gleanwell/Position" "last" "C" (.int 0)) (W17_countedPosition : Fld Z hT b10 "gleanwell/Window" "countedPosition" "Lgleanwell/Position;" (.ref cp)) (W17_limit : Fld Z hT b10 "gleanwell/Window" "limit" "I" (.int 4)) (W17_buf : Fld Z hT b10 "gleanwell/Window" "buf" "[C" (.ref bf)) (W17_pos : Fld Z hT b10 "gleanwell/Window" "pos" "I" (.int 0)) (W17_noLineEndFrom : Fld Z hT b10 "gleanwell/Window" "noLineEndFrom" "I" (.int 0)) (W17_counted : Fld Z hT b10 "gleanwell/Window" "counted" "I" (.int 0)) (ne_b1_b10 : b1 ≠ b10) (ne_cp_w : cp ≠ b10) (ne_bf_w : bf ≠ b10) (ne_bf_cp : bf ≠ cp) (ne_u_cp : b1 ≠ cp) (G_b10 : n0 ≤ b10) (g_cp : n0 ≤ cp) (Z17 : n0 ≤ hT.size) (nc0 : nar .char c0 = c0) (nc1 : nar .char c1 = c1) (nc2 : nar .char c2 = c2) (nc3 : nar .char c3 = c3) (hc0 : ¬ 255 < c0) (hc1 : ¬ 255 < c1) (hc2 : ¬ 255 < c2) (hc3 : ¬ 255 < c3) :
  Go p e below (fun o t L => FrameEnd s o t L room_1.cells room_1.slots) (fun v h L => v = some (.int 1) ∧ Fr n0 L) TK (mkF m 141 #[I x0, I x1, I x2, I x3, I m_, I n_, A b1, A b10, I a_, I b_, I 0, I 1, U, U, U, U, U] []) := by
 have hown : s.vm.findClass "gleanwell/WindowMoveByPinLaw" = some m.cls := hown
 refine own_lq (fun Fn Q hG => ?_)
 have B {q : Nat} {r : Instr × Nat} (h : decode code q = .ok r) : decode cO.code q = .ok r := hb hby h
 have W {d : Jvm.Cond} (i : Nat) (h : tables_1[i]? = some d) : d.before a0 Z = true := own_w hw i h
 have w119 := W 119 rfl
 have w120 := W 120 rfl
 have w3 := W 3 rfl
 have w121 := W 121 rfl
 have w122 := W 122 rfl
 have w123 := W 123 rfl
 have w125 := W 125 rfl
 have w124 := W 124 rfl
 have w7 := W 7 rfl
 have w126 := W 126 rfl
 have w151 := W 151 rfl
 have w152 := W 152 rfl
 have w154 := W 154 rfl
 have w153 := W 153 rfl
 have w43 := W 43 rfl
 have w155 := W 155 rfl
 have w156 := W 156 rfl
 have w157 := W 157 rfl
 have w159 := W 159 rfl
 have w158 := W 158 rfl
 have w160 := W 160 rfl
 have w168 := W 168 rfl
 have w169 := W 169 rfl
 have w171 := W 171 rfl
 have w170 := W 170 rfl
 have w172 := W 172 rfl
 have w114 := W 114 rfl
 have w116 := W 116 rfl
 have w117 := W 117 rfl
 have w118 := W 118 rfl
 have M {n : Nat} (h : n = _) : n = cO.maxLocals := h.trans hml.symm
 have t219_m : ∀  (TJ : State) (locsJ : List Loc), Stand p l e room_1 s m ([(.int x0), (.int x1), (.int x2), (.int x3), (.int m_), (.int n_)] : List Value).toArray below meth cO TJ locsJ 6 29 → TJ.heap = hT → Fr n0 locsJ → Go p e below Fn Q TJ (mkF m 219 #[I x0, I x1, I x2, I x3, I m_, I n_, A b1, A b10, I a_, I b_, I 0, I 1, I (-1 : Int32), U, U, U, U] []) := by
  intro  TJ locsJ XJ eJ NJ 
  refine gl XJ hx 221 (B at_219) rfl rfl ?_
  refine gs XJ hx 223 #[I x0, I x1, I x2, I x3, I m_, I n_, A b1, A b10, I a_, I b_, I 0, I 1, I (-1 : Int32), I 0, U, U, U] (B at_221) rfl rfl ?_
  refine gl XJ hx 225 (B at_223) rfl rfl ?_
  refine gt XJ hx 336 (B at_225) (by decide) rfl ?_
  refine gk XJ hx 337 1 (B at_336) rfl rfl ?_
  refine gA XJ hx 339 (B at_337) rfl rfl rfl ?_
  refine gk XJ hx 340 0 (B at_339) rfl rfl ?_
  refine gl XJ hx 342 (B at_340) rfl rfl ?_
  refine gS XJ hx 345 hZ hown w119 w120 w3 w121 (by decide) [(.ref b1), (.int 0), (.int 0)] [(.int 1)] (re_0_f hw b1 (0 : Int32) hT n0 Z17 (by decide)) eJ 1 rfl (M rfl) (lenOf pd24 rfl) (B at_342) rfl rfl rfl (fun v T101 L X101 Y => ?_)
  obtain ⟨rfl, N101q, e101⟩ := Y
  have N101 := Fr.app NJ N101q
  refine gp X101 hx 346 (1 : Int32) (B at_345) (by decide) rfl ?_
  refine gA X101 hx 348 (B at_346) rfl rfl rfl ?_
  refine gk X101 hx 349 1 (B at_348) rfl rfl ?_
  refine gl X101 hx 351 (B at_349) rfl rfl ?_
  refine gS X101 hx 354 hZ hown w119 w120 w3 w121 (by decide) [(.ref b1), (.int 1), (.int 0)] [(.int 1)] (re_1_f hw b1 (0 : Int32) hT n0 Z17 (by decide)) e101 1 rfl (M rfl) (lenOf pd24 rfl) (B at_351) rfl rfl rfl (fun v T102 L X102 Y => ?_)
  obtain ⟨rfl, N102q, e102⟩ := Y
  have N102 := Fr.app N101 N102q
  refine gp X102 hx 355 (1 : Int32) (B at_354) (by decide) rfl ?_
  refine gA X102 hx 357 (B at_355) rfl rfl rfl ?_
  refine gk X102 hx 358 2 (B at_357) rfl rfl ?_
  refine gl X102 hx 360 (B at_358) rfl rfl ?_
  refine gS X102 hx 363 hZ hown w119 w120 w3 w121 (by decide) [(.ref b1), (.int 2), (.int 0)] [(.int 1)] (re_2_f hw b1 (0 : Int32) hT n0 Z17 (by decide)) e102 1 rfl (M rfl) (lenOf pd24 rfl) (B at_360) rfl rfl rfl (fun v T103 L X103 Y => ?_)
  obtain ⟨rfl, N103q, e103⟩ := Y
  have N103 := Fr.app N102 N103q
  refine gp X103 hx 364 (1 : Int32) (B at_363) (by decide) rfl ?_
  refine gA X103 hx 366 (B at_364) rfl rfl rfl ?_
  refine gk X103 hx 367 3 (B at_366) rfl rfl ?_
  refine gl X103 hx 369 (B at_367) rfl rfl ?_
  refine gS X103 hx 372 hZ hown w119 w120 w3 w121 (by decide) [(.ref b1), (.int 3), (.int 0)] [(.int 1)] (re_3_f hw b1 (0 : Int32) hT n0 Z17 (by decide)) e103 1 rfl (M rfl) (lenOf pd24 rfl) (B at_369) rfl rfl rfl (fun v T104 L X104 Y => ?_)
  obtain ⟨rfl, N104q, e104⟩ := Y
  have N104 := Fr.app N103 N104q
  refine gp X104 hx 373 (1 : Int32) (B at_372) (by decide) rfl ?_
  refine gs X104 hx 375 _ (B at_373) rfl rfl ?_
  have t453_0 : ∀  (TJ : State) (locsJ : List Loc), Stand p l e room_1 s m ([(.int x0), (.int x1), (.int x2), (.int x3), (.int m_), (.int n_)] : List Value).toArray below meth cO TJ locsJ 6 29 → TJ.heap = hT → Fr n0 locsJ → (0 : Int32) = 0 → Go p e below Fn Q TJ (mkF m 453 #[I x0, I x1, I x2, I x3, I m_, I n_, A b1, A b10, I a_, I b_, I 0, I 1, I (-1 : Int32), I 0, I 1, I 0, U] []) := by
   intro  TJ locsJ XJ eJ NJ hS
   refine gA XJ hx 455 (B at_453) rfl rfl rfl ?_
   refine gk XJ hx 456 0 (B at_455) rfl rfl ?_
   refine gV XJ hx 459 hZ hown w122 w123 w125 w124 w7 w126 (by decide) b10 E_b10 [(.int 0)] [] (pa_same hw b10 cp bf (0 : Int32) (1 : Int64) (1 : Int64) (0 : Int32) c0 c1 c2 c3 kF hT n0 Z17 G_b10 g_cp E_b10 W17_countedPosition W17_limit W17_buf W17_pos W17_noLineEndFrom W17_counted E_cp Pl Pc Pa V_bf nc0 nc1 nc2 nc3 hc0 hc1 hc2 hc3 (by decide)) eJ 0 rfl (M rfl) (lenOf pd25 rfl) (B at_456) rfl rfl rfl (fun v T105 L X105 Y => ?_)
   obtain ⟨p_, rfl, N105q, Z105, E_p, Ql, Qc, Qa⟩ := Y
   have N105 := Fr.app NJ N105q
   refine g_astore X105 hx 461 #[I x0, I x1, I x2, I x3, I m_, I n_, A b1, A b10, I a_, I b_, I 0, I 1, I (-1 : Int32), I 0, I 1, I 0, A p_] (B at_459) rfl rfl rfl ?_
   refine gl X105 hx 463 (B at_461) rfl rfl ?_
   refine gf X105 hx 466 (B at_463) (by decide) rfl ?_
   refine gA X105 hx 468 (B at_466) rfl rfl rfl ?_
   refine gV X105 hx 471 hZ hown w151 w152 w154 w153 w43 w155 (by decide) p_ E_p [] [] (rm28 hw p_ (1 : Int64) T105.heap n0 Z105 Ql) rfl 0 rfl (M rfl) (lenOf pd26 rfl) (B at_468) rfl rfl rfl (fun v T106 L X106 Y => ?_)
   obtain ⟨rfl, N106q, e106⟩ := Y
   have N106 := Fr.app N105 N106q
   refine gl X106 hx 473 (B at_471) rfl rfl ?_
   refine gL X106 hx 474 (1 : Int64) (B at_473) (by decide) rfl ?_
   refine gC X106 hx 475 (B at_474) rfl ?_
   refine gf X106 hx 478 (B at_475) (own_eqL rfl).2 rfl ?_
   refine gA X106 hx 480 (B at_478) rfl rfl rfl ?_
   refine gV X106 hx 483 hZ hown w156 w157 w159 w158 w43 w160 (by decide) p_ E_p [] [] (rm29 hw p_ (1 : Int64) T105.heap n0 Z105 Qc) e106 0 rfl (M rfl) (lenOf pd26 rfl) (B at_480) rfl rfl rfl (fun v T107 L X107 Y => ?_)
   obtain ⟨rfl, N107q, e107⟩ := Y
   have N107 := Fr.app N106 N107q
   refine gl X107 hx 485 (B at_483) rfl rfl ?_
   refine gl X107 hx 487 (B at_485) rfl rfl ?_
   refine gm X107 hx 488 (0 : Int32) (B at_487) (by decide) rfl ?_
   refine gk X107 hx 489 1 (B at_488) rfl rfl ?_
   refine gp X107 hx 490 (1 : Int32) (B at_489) (by decide) rfl ?_
   refine gL X107 hx 491 (1 : Int64) (B at_490) (by decide) rfl ?_
   refine gC X107 hx 492 (B at_491) rfl ?_
   refine gf X107 hx 495 (B at_492) (own_eqL rfl).2 rfl ?_
   refine gk X107 hx 496 1 (B at_495) rfl rfl ?_
   refine gg X107 hx 500 (B at_496) rfl ?_
   exact hG _ _ (g_retZ X107 hx hret hlk rfl (B at_500) (by decide) (by decide) ⟨rfl, N107⟩)
  refine gk X104 hx 376 0 (B at_375) rfl rfl ?_
  refine gs X104 hx 378 #[I x0, I x1, I x2, I x3, I m_, I n_, A b1, A b10, I a_, I b_, I 0, I 1, I (-1 : Int32), I 0, I 1, I 0, U] (B at_376) rfl rfl ?_
  refine gl X104 hx 380 (B at_378) rfl rfl ?_
  refine gt X104 hx 396 (B at_380) (by decide) rfl ?_
  refine gl X104 hx 398 (B at_396) rfl rfl ?_
  refine gk X104 hx 399 1 (B at_398) rfl rfl ?_
  refine gT X104 hx 415 (B at_399) (by decide) rfl ?_
  refine gl X104 hx 417 (B at_415) rfl rfl ?_
  refine gk X104 hx 418 2 (B at_417) rfl rfl ?_
  refine gT X104 hx 434 (B at_418) (by decide) rfl ?_
  refine gl X104 hx 436 (B at_434) rfl rfl ?_
  refine gk X104 hx 437 3 (B at_436) rfl rfl ?_
  refine gT X104 hx 453 (B at_437) (by decide) rfl ?_
  exact t453_0 _ _ X104 e104 N104 (by rfl)
 have t287_0 : ∀ (en : Int32) (TJ : State) (locsJ : List Loc), Stand p l e room_1 s m ([(.int x0), (.int x1), (.int x2), (.int x3), (.int m_), (.int n_)] : List Value).toArray below meth cO TJ locsJ 6 29 → TJ.heap = hT → Fr n0 locsJ → en = own_ea c0 (0 : Int32) → ¬ own_term c0 = 0 → Go p e below Fn Q TJ (mkF m 287 #[I x0, I x1, I x2, I x3, I m_, I n_, A b1, A b10, I a_, I b_, I 0, I 1, I 0, I 0, I 0, I en, U] []) := by
  intro en TJ locsJ XJ eJ NJ hen te
  refine gA XJ hx 289 (B at_287) rfl rfl rfl ?_
  refine gl XJ hx 291 (B at_289) rfl rfl ?_
  refine gl XJ hx 293 (B at_291) rfl rfl ?_
  refine gm XJ hx 294 (0 : Int32) (B at_293) (by decide) rfl ?_
  refine gk XJ hx 295 1 (B at_294) rfl rfl ?_
  refine gp XJ hx 296 (1 : Int32) (B at_295) (by decide) rfl ?_
  refine gl XJ hx 298 (B at_296) rfl rfl ?_
  refine gl XJ hx 300 (B at_298) rfl rfl ?_
  refine gl XJ hx 302 (B at_300) rfl rfl ?_
  refine gm XJ hx 303 (0 : Int32) (B at_302) (by decide) rfl ?_
  refine gk XJ hx 304 1 (B at_303) rfl rfl ?_
  refine gp XJ hx 305 (1 : Int32) (B at_304) (by decide) rfl ?_
  refine gV XJ hx 308 hZ hown w168 w169 w171 w170 w7 w172 (by decide) b10 E_b10 [(.int 1), (.int en), (.int 1)] [] (mo_0_0 hw b10 cp bf en c0 c1 c2 c3 kF hT n0 Z17 G_b10 g_cp E_b10 W17_countedPosition W17_limit W17_buf W17_pos W17_noLineEndFrom W17_counted E_cp Pl Pc Pa V_bf nc0 nc1 nc2 nc3 hc0 hc1 hc2 hc3) eJ 0 rfl (M rfl) (lenOf pd11 rfl) (B at_305) rfl rfl rfl (fun v T108 L X108 Y => ?_)
  obtain ⟨rfl, N108q, K108, E108x, W108_countedPosition, W108_limit, W108_buf, W108_pos, W108_noLineEndFrom, W108_counted, E108y, Pl108, Pc108, Pa108⟩ := Y
  have N108 := Fr.app NJ N108q
  have V_b1 := V_b1.keep K108 (ninS ne_b1_b10 (ninS ne_u_cp nin0))
  have E_b10 := E_b10.keep K108
  have E_cp := E_cp.keep K108
  have V_bf := V_bf.keep K108 (ninS ne_bf_w (ninS ne_bf_cp nin0))
  have Z108 := Nat.le_trans Z17 K108.1
  refine gl X108 hx 310 (B at_308) rfl rfl ?_
  refine gk X108 hx 311 1 (B at_310) rfl rfl ?_
  refine gp X108 hx 312 (1 : Int32) (B at_311) (by decide) rfl ?_
  refine gs X108 hx 314 #[I x0, I x1, I x2, I x3, I m_, I n_, A b1, A b10, I a_, I b_, I 0, I 1, I 0, I 1, I 0, I en, U] (B at_312) rfl rfl ?_
  refine gl X108 hx 316 (B at_314) rfl rfl ?_
  refine gf X108 hx 319 (B at_316) (by decide) rfl ?_
  refine gA X108 hx 321 (B at_319) rfl rfl rfl ?_
  refine gG X108 hx 324 hZ hown (host := "") (Or.inl w114) Via.refl rfl W108_pos (B at_321) rfl (fun T109 X109 e109 => ?_)
  refine gl X109 hx 326 (B at_324) rfl rfl ?_
  refine gF X109 hx 329 (B at_326) (by decide) rfl ?_
  refine gk X109 hx 330 1 (B at_329) rfl rfl ?_
  refine gg X109 hx 334 (B at_330) rfl ?_
  refine gs X109 hx 336 _ (B at_334) rfl rfl ?_
  refine gk X109 hx 337 1 (B at_336) rfl rfl ?_
  refine gA X109 hx 339 (B at_337) rfl rfl rfl ?_
  refine gk X109 hx 340 0 (B at_339) rfl rfl ?_
  refine gl X109 hx 342 (B at_340) rfl rfl ?_
  refine gS X109 hx 345 hZ hown w119 w120 w3 w121 (by decide) [(.ref b1), (.int 0), (.int 1)] [(.int 1)] (re_0_t hw b1 (1 : Int32) c0 c1 c2 c3 kS T108.heap n0 Z108 (by decide) V_b1) e109 1 rfl (M rfl) (lenOf pd24 rfl) (B at_342) rfl rfl rfl (fun v T110 L X110 Y => ?_)
  obtain ⟨rfl, N110q, e110⟩ := Y
  have N110 := Fr.app N108 N110q
  refine gp X110 hx 346 ((1 : Int32) + (own_ea c0 (0 : Int32))) (B at_345) rfl rfl ?_
  refine gA X110 hx 348 (B at_346) rfl rfl rfl ?_
  refine gk X110 hx 349 1 (B at_348) rfl rfl ?_
  refine gl X110 hx 351 (B at_349) rfl rfl ?_
  refine gS X110 hx 354 hZ hown w119 w120 w3 w121 (by decide) [(.ref b1), (.int 1), (.int 1)] [(.int ((1 : Int32) + (own_ea c0 (0 : Int32))))] (re_1_f hw b1 (1 : Int32) T108.heap n0 Z108 (by decide)) e110 1 rfl (M rfl) (lenOf pd24 rfl) (B at_351) rfl rfl rfl (fun v T111 L X111 Y => ?_)
  obtain ⟨rfl, N111q, e111⟩ := Y
  have N111 := Fr.app N110 N111q
  refine gp X111 hx 355 (((1 : Int32) + (own_ea c0 (0 : Int32))) + 0) (B at_354) rfl rfl ?_
  refine gA X111 hx 357 (B at_355) rfl rfl rfl ?_
  refine gk X111 hx 358 2 (B at_357) rfl rfl ?_
  refine gl X111 hx 360 (B at_358) rfl rfl ?_
  refine gS X111 hx 363 hZ hown w119 w120 w3 w121 (by decide) [(.ref b1), (.int 2), (.int 1)] [(.int (((1 : Int32) + (own_ea c0 (0 : Int32))) + 0))] (re_2_f hw b1 (1 : Int32) T108.heap n0 Z108 (by decide)) e111 1 rfl (M rfl) (lenOf pd24 rfl) (B at_360) rfl rfl rfl (fun v T112 L X112 Y => ?_)
  obtain ⟨rfl, N112q, e112⟩ := Y
  have N112 := Fr.app N111 N112q
  refine gp X112 hx 364 ((((1 : Int32) + (own_ea c0 (0 : Int32))) + 0) + 0) (B at_363) rfl rfl ?_
  refine gA X112 hx 366 (B at_364) rfl rfl rfl ?_
  refine gk X112 hx 367 3 (B at_366) rfl rfl ?_
  refine gl X112 hx 369 (B at_367) rfl rfl ?_
  refine gS X112 hx 372 hZ hown w119 w120 w3 w121 (by decide) [(.ref b1), (.int 3), (.int 1)] [(.int ((((1 : Int32) + (own_ea c0 (0 : Int32))) + 0) + 0))] (re_3_f hw b1 (1 : Int32) T108.heap n0 Z108 (by decide)) e112 1 rfl (M rfl) (lenOf pd24 rfl) (B at_369) rfl rfl rfl (fun v T113 L X113 Y => ?_)
  obtain ⟨rfl, N113q, e113⟩ := Y
  have N113 := Fr.app N112 N113q
  refine gp X113 hx 373 (((((1 : Int32) + (own_ea c0 (0 : Int32))) + 0) + 0) + 0) (B at_372) rfl rfl ?_
  refine gs X113 hx 375 #[I x0, I x1, I x2, I x3, I m_, I n_, A b1, A b10, I a_, I b_, I 0, I 1, I 0, I 1, I (((((1 : Int32) + (own_ea c0 (0 : Int32))) + 0) + 0) + 0), I en, U] (B at_373) rfl rfl ?_
  have t453 : ∀  (TJ : State) (locsJ : List Loc), Stand p l e room_1 s m ([(.int x0), (.int x1), (.int x2), (.int x3), (.int m_), (.int n_)] : List Value).toArray below meth cO TJ locsJ 6 29 → TJ.heap = T108.heap → Fr n0 locsJ → Go p e below Fn Q TJ (mkF m 453 #[I x0, I x1, I x2, I x3, I m_, I n_, A b1, A b10, I a_, I b_, I 0, I 1, I 0, I 1, I (((((1 : Int32) + (own_ea c0 (0 : Int32))) + 0) + 0) + 0), I 1, U] []) := by
   intro  TJ locsJ XJ eJ NJ 
   refine gA XJ hx 455 (B at_453) rfl rfl rfl ?_
   refine gk XJ hx 456 0 (B at_455) rfl rfl ?_
   refine gV XJ hx 459 hZ hown w122 w123 w125 w124 w7 w126 (by decide) b10 E_b10 [(.int 0)] [] (pa_same hw b10 cp bf (1 : Int32) ((1 : Int64) + en.toInt64) (1 : Int64) c0 c0 c1 c2 c3 kF T108.heap n0 Z108 G_b10 g_cp E_b10 W108_countedPosition W108_limit W108_buf W108_pos W108_noLineEndFrom W108_counted E_cp Pl108 Pc108 Pa108 V_bf nc0 nc1 nc2 nc3 hc0 hc1 hc2 hc3 nc0) eJ 0 rfl (M rfl) (lenOf pd25 rfl) (B at_456) rfl rfl rfl (fun v T114 L X114 Y => ?_)
   obtain ⟨p_, rfl, N114q, Z114, E_p, Ql, Qc, Qa⟩ := Y
   have N114 := Fr.app NJ N114q
   refine g_astore X114 hx 461 _ (B at_459) rfl rfl rfl ?_
   refine gl X114 hx 463 (B at_461) rfl rfl ?_
   refine gf X114 hx 466 (B at_463) (by decide) rfl ?_
   refine gA X114 hx 468 (B at_466) rfl rfl rfl ?_
   refine gV X114 hx 471 hZ hown w151 w152 w154 w153 w43 w155 (by decide) p_ E_p [] [] (rm28 hw p_ ((1 : Int64) + en.toInt64) T114.heap n0 Z114 Ql) rfl 0 rfl (M rfl) (lenOf pd26 rfl) (B at_468) rfl rfl rfl (fun v T115 L X115 Y => ?_)
   obtain ⟨rfl, N115q, e115⟩ := Y
   have N115 := Fr.app N114 N115q
   refine gl X115 hx 473 (B at_471) rfl rfl ?_
   refine gL X115 hx 474 ((((((1 : Int32) + (own_ea c0 (0 : Int32))) + 0) + 0) + 0).toInt64) (B at_473) rfl rfl ?_
   refine gC X115 hx 475 (B at_474) rfl ?_
   have hk116 : ((1 : Int64) + en.toInt64) = ((((((1 : Int32) + (own_ea c0 (0 : Int32))) + 0) + 0) + 0).toInt64) := by rw [hen]; exact own_fin_0_0 c0 c1 c2 c3 
   refine gf X115 hx 478 (B at_475) (own_eqL hk116).2 rfl ?_
   refine gA X115 hx 480 (B at_478) rfl rfl rfl ?_
   refine gV X115 hx 483 hZ hown w156 w157 w159 w158 w43 w160 (by decide) p_ E_p [] [] (rm29 hw p_ (1 : Int64) T114.heap n0 Z114 Qc) e115 0 rfl (M rfl) (lenOf pd26 rfl) (B at_480) rfl rfl rfl (fun v T117 L X117 Y => ?_)
   obtain ⟨rfl, N117q, e117⟩ := Y
   have N117 := Fr.app N115 N117q
   refine gl X117 hx 485 (B at_483) rfl rfl ?_
   refine gl X117 hx 487 (B at_485) rfl rfl ?_
   refine gm X117 hx 488 (0 : Int32) (B at_487) (by decide) rfl ?_
   refine gk X117 hx 489 1 (B at_488) rfl rfl ?_
   refine gp X117 hx 490 (1 : Int32) (B at_489) (by decide) rfl ?_
   refine gL X117 hx 491 (1 : Int64) (B at_490) (by decide) rfl ?_
   refine gC X117 hx 492 (B at_491) rfl ?_
   refine gf X117 hx 495 (B at_492) (own_eqL rfl).2 rfl ?_
   refine gk X117 hx 496 1 (B at_495) rfl rfl ?_
   refine gg X117 hx 500 (B at_496) rfl ?_
   exact hG _ _ (g_retZ X117 hx hret hlk rfl (B at_500) (by decide) (by decide) ⟨rfl, N117⟩)
  refine gk X113 hx 376 0 (B at_375) rfl rfl ?_
  refine gs X113 hx 378 _ (B at_376) rfl rfl ?_
  refine gl X113 hx 380 (B at_378) rfl rfl ?_
  refine gf X113 hx 383 (B at_380) (by decide) rfl ?_
  refine gA X113 hx 385 (B at_383) rfl rfl rfl ?_
  refine gk X113 hx 386 0 (B at_385) rfl rfl ?_
  refine gc X113 hx 387 hZ e113 V_b1 c0 rfl rfl (B at_386) rfl ?_
  refine gS X113 hx 390 hZ hown w116 w117 w3 w118 (by decide) [(.int c0)] [] (rm21 hw c0 T108.heap n0 Z108) e113 0 rfl (M rfl) (lenOf pd0 rfl) (B at_387) rfl rfl rfl (fun v T118 L X118 Y => ?_)
  obtain ⟨rfl, N118q, e118⟩ := Y
  have N118 := Fr.app N113 N118q
  have hk119 : ¬ ((own_term c0) = 0) := te
  refine gf X118 hx 393 (B at_390) ((if0 _ _).trans (feq hk119).1) rfl ?_
  refine gk X118 hx 394 1 (B at_393) rfl rfl ?_
  refine gs X118 hx 396 #[I x0, I x1, I x2, I x3, I m_, I n_, A b1, A b10, I a_, I b_, I 0, I 1, I 0, I 1, I (((((1 : Int32) + (own_ea c0 (0 : Int32))) + 0) + 0) + 0), I 1, U] (B at_394) rfl rfl ?_
  refine gl X118 hx 398 (B at_396) rfl rfl ?_
  refine gk X118 hx 399 1 (B at_398) rfl rfl ?_
  refine gT X118 hx 415 (B at_399) (by decide) rfl ?_
  refine gl X118 hx 417 (B at_415) rfl rfl ?_
  refine gk X118 hx 418 2 (B at_417) rfl rfl ?_
  refine gT X118 hx 434 (B at_418) (by decide) rfl ?_
  refine gl X118 hx 436 (B at_434) rfl rfl ?_
  refine gk X118 hx 437 3 (B at_436) rfl rfl ?_
  refine gT X118 hx 453 (B at_437) (by decide) rfl ?_
  exact t453 _ _ X118 e118 N118
 have t219_0 : ∀  (TJ : State) (locsJ : List Loc), Stand p l e room_1 s m ([(.int x0), (.int x1), (.int x2), (.int x3), (.int m_), (.int n_)] : List Value).toArray below meth cO TJ locsJ 6 29 → TJ.heap = hT → Fr n0 locsJ → ¬ own_term c0 = 0 → Go p e below Fn Q TJ (mkF m 219 #[I x0, I x1, I x2, I x3, I m_, I n_, A b1, A b10, I a_, I b_, I 0, I 1, I 0, U, U, U, U] []) := by
  intro  TJ locsJ XJ eJ NJ te
  refine gl XJ hx 221 (B at_219) rfl rfl ?_
  refine gs XJ hx 223 #[I x0, I x1, I x2, I x3, I m_, I n_, A b1, A b10, I a_, I b_, I 0, I 1, I 0, I 0, U, U, U] (B at_221) rfl rfl ?_
  refine gl XJ hx 225 (B at_223) rfl rfl ?_
  refine gf XJ hx 228 (B at_225) (by decide) rfl ?_
  refine gl XJ hx 230 (B at_228) rfl rfl ?_
  refine gl XJ hx 232 (B at_230) rfl rfl ?_
  refine gT XJ hx 245 (B at_232) (by decide) rfl ?_
  refine gl XJ hx 247 (B at_245) rfl rfl ?_
  refine gt XJ hx 260 (B at_247) (by decide) rfl ?_
  refine gk XJ hx 261 0 (B at_260) rfl rfl ?_
  refine gs XJ hx 263 _ (B at_261) rfl rfl ?_
  refine gA XJ hx 265 (B at_263) rfl rfl rfl ?_
  refine gl XJ hx 267 (B at_265) rfl rfl ?_
  refine gc XJ hx 268 hZ eJ V_b1 c0 rfl rfl (B at_267) rfl ?_
  refine gb XJ hx 270 13 (B at_268) rfl rfl ?_
  by_cases hc120 : c0 = 13
  ·
   refine gT XJ hx 280 (B at_270) (teq hc120).1 rfl ?_
   refine gk XJ hx 281 1 (B at_280) rfl rfl ?_
   refine gg XJ hx 285 (B at_281) rfl ?_
   refine gs XJ hx 287 #[I x0, I x1, I x2, I x3, I m_, I n_, A b1, A b10, I a_, I b_, I 0, I 1, I 0, I 0, I 0, I 1, U] (B at_285) rfl rfl ?_
   exact t287_0 (1 : Int32) _ _ XJ eJ NJ (by unfold own_ea; rw [if_neg te, if_pos hc120]) te 
  ·
   refine gF XJ hx 273 (B at_270) (feq hc120).1 rfl ?_
   refine gl XJ hx 275 (B at_273) rfl rfl ?_
   refine gb XJ hx 277 13 (B at_275) rfl rfl ?_
   refine gF XJ hx 280 (B at_277) (by decide) rfl ?_
   refine gk XJ hx 281 1 (B at_280) rfl rfl ?_
   refine gg XJ hx 285 (B at_281) rfl ?_
   refine gs XJ hx 287 #[I x0, I x1, I x2, I x3, I m_, I n_, A b1, A b10, I a_, I b_, I 0, I 1, I 0, I 0, I 0, I 1, U] (B at_285) rfl rfl ?_
   exact t287_0 (1 : Int32) _ _ XJ eJ NJ (by unfold own_ea; rw [if_neg te, if_neg hc120, if_neg (by decide)]) te 
 have t287_1 : ∀ (en : Int32) (TJ : State) (locsJ : List Loc), Stand p l e room_1 s m ([(.int x0), (.int x1), (.int x2), (.int x3), (.int m_), (.int n_)] : List Value).toArray below meth cO TJ locsJ 6 29 → TJ.heap = hT → Fr n0 locsJ → en = own_ea c1 c0 → ¬ own_term c1 = 0 → own_term c0 = 0 → Go p e below Fn Q TJ (mkF m 287 #[I x0, I x1, I x2, I x3, I m_, I n_, A b1, A b10, I a_, I b_, I 0, I 1, I 1, I 0, I c0, I en, U] []) := by
  intro en TJ locsJ XJ eJ NJ hen te z0
  refine gA XJ hx 289 (B at_287) rfl rfl rfl ?_
  refine gl XJ hx 291 (B at_289) rfl rfl ?_
  refine gl XJ hx 293 (B at_291) rfl rfl ?_
  refine gm XJ hx 294 (1 : Int32) (B at_293) (by decide) rfl ?_
  refine gk XJ hx 295 1 (B at_294) rfl rfl ?_
  refine gp XJ hx 296 (2 : Int32) (B at_295) (by decide) rfl ?_
  refine gl XJ hx 298 (B at_296) rfl rfl ?_
  refine gl XJ hx 300 (B at_298) rfl rfl ?_
  refine gl XJ hx 302 (B at_300) rfl rfl ?_
  refine gm XJ hx 303 (1 : Int32) (B at_302) (by decide) rfl ?_
  refine gk XJ hx 304 1 (B at_303) rfl rfl ?_
  refine gp XJ hx 305 (2 : Int32) (B at_304) (by decide) rfl ?_
  refine gV XJ hx 308 hZ hown w168 w169 w171 w170 w7 w172 (by decide) b10 E_b10 [(.int 2), (.int en), (.int 2)] [] (mo_0_1 hw b10 cp bf en c0 c1 c2 c3 kF hT n0 Z17 G_b10 g_cp E_b10 W17_countedPosition W17_limit W17_buf W17_pos W17_noLineEndFrom W17_counted E_cp Pl Pc Pa V_bf nc0 nc1 nc2 nc3 hc0 hc1 hc2 hc3) eJ 0 rfl (M rfl) (lenOf pd11 rfl) (B at_305) rfl rfl rfl (fun v T121 L X121 Y => ?_)
  obtain ⟨rfl, N121q, K121, E121x, W121_countedPosition, W121_limit, W121_buf, W121_pos, W121_noLineEndFrom, W121_counted, E121y, Pl121, Pc121, Pa121⟩ := Y
  have N121 := Fr.app NJ N121q
  have V_b1 := V_b1.keep K121 (ninS ne_b1_b10 (ninS ne_u_cp nin0))
  have E_b10 := E_b10.keep K121
  have E_cp := E_cp.keep K121
  have V_bf := V_bf.keep K121 (ninS ne_bf_w (ninS ne_bf_cp nin0))
  have Z121 := Nat.le_trans Z17 K121.1
  refine gl X121 hx 310 (B at_308) rfl rfl ?_
  refine gk X121 hx 311 1 (B at_310) rfl rfl ?_
  refine gp X121 hx 312 (2 : Int32) (B at_311) (by decide) rfl ?_
  refine gs X121 hx 314 #[I x0, I x1, I x2, I x3, I m_, I n_, A b1, A b10, I a_, I b_, I 0, I 1, I 1, I 2, I c0, I en, U] (B at_312) rfl rfl ?_
  refine gl X121 hx 316 (B at_314) rfl rfl ?_
  refine gf X121 hx 319 (B at_316) (by decide) rfl ?_
  refine gA X121 hx 321 (B at_319) rfl rfl rfl ?_
  refine gG X121 hx 324 hZ hown (host := "") (Or.inl w114) Via.refl rfl W121_pos (B at_321) rfl (fun T122 X122 e122 => ?_)
  refine gl X122 hx 326 (B at_324) rfl rfl ?_
  refine gF X122 hx 329 (B at_326) (by decide) rfl ?_
  refine gk X122 hx 330 1 (B at_329) rfl rfl ?_
  refine gg X122 hx 334 (B at_330) rfl ?_
  refine gs X122 hx 336 _ (B at_334) rfl rfl ?_
  refine gk X122 hx 337 1 (B at_336) rfl rfl ?_
  refine gA X122 hx 339 (B at_337) rfl rfl rfl ?_
  refine gk X122 hx 340 0 (B at_339) rfl rfl ?_
  refine gl X122 hx 342 (B at_340) rfl rfl ?_
  refine gS X122 hx 345 hZ hown w119 w120 w3 w121 (by decide) [(.ref b1), (.int 0), (.int 2)] [(.int 1)] (re_0_t hw b1 (2 : Int32) c0 c1 c2 c3 kS T121.heap n0 Z121 (by decide) V_b1) e122 1 rfl (M rfl) (lenOf pd24 rfl) (B at_342) rfl rfl rfl (fun v T123 L X123 Y => ?_)
  obtain ⟨rfl, N123q, e123⟩ := Y
  have N123 := Fr.app N121 N123q
  refine gp X123 hx 346 ((1 : Int32) + (own_ea c0 (0 : Int32))) (B at_345) rfl rfl ?_
  refine gA X123 hx 348 (B at_346) rfl rfl rfl ?_
  refine gk X123 hx 349 1 (B at_348) rfl rfl ?_
  refine gl X123 hx 351 (B at_349) rfl rfl ?_
  refine gS X123 hx 354 hZ hown w119 w120 w3 w121 (by decide) [(.ref b1), (.int 1), (.int 2)] [(.int ((1 : Int32) + (own_ea c0 (0 : Int32))))] (re_1_t hw b1 (2 : Int32) c0 c1 c2 c3 kS T121.heap n0 Z121 (by decide) V_b1) e123 1 rfl (M rfl) (lenOf pd24 rfl) (B at_351) rfl rfl rfl (fun v T124 L X124 Y => ?_)
  obtain ⟨rfl, N124q, e124⟩ := Y
  have N124 := Fr.app N123 N124q
  refine gp X124 hx 355 (((1 : Int32) + (own_ea c0 (0 : Int32))) + (own_ea c1 c0)) (B at_354) rfl rfl ?_
  refine gA X124 hx 357 (B at_355) rfl rfl rfl ?_
  refine gk X124 hx 358 2 (B at_357) rfl rfl ?_
  refine gl X124 hx 360 (B at_358) rfl rfl ?_
  refine gS X124 hx 363 hZ hown w119 w120 w3 w121 (by decide) [(.ref b1), (.int 2), (.int 2)] [(.int (((1 : Int32) + (own_ea c0 (0 : Int32))) + (own_ea c1 c0)))] (re_2_f hw b1 (2 : Int32) T121.heap n0 Z121 (by decide)) e124 1 rfl (M rfl) (lenOf pd24 rfl) (B at_360) rfl rfl rfl (fun v T125 L X125 Y => ?_)
  obtain ⟨rfl, N125q, e125⟩ := Y
  have N125 := Fr.app N124 N125q
  refine gp X125 hx 364 ((((1 : Int32) + (own_ea c0 (0 : Int32))) + (own_ea c1 c0)) + 0) (B at_363) rfl rfl ?_
  refine gA X125 hx 366 (B at_364) rfl rfl rfl ?_
  refine gk X125 hx 367 3 (B at_366) rfl rfl ?_
  refine gl X125 hx 369 (B at_367) rfl rfl ?_
  refine gS X125 hx 372 hZ hown w119 w120 w3 w121 (by decide) [(.ref b1), (.int 3), (.int 2)] [(.int ((((1 : Int32) + (own_ea c0 (0 : Int32))) + (own_ea c1 c0)) + 0))] (re_3_f hw b1 (2 : Int32) T121.heap n0 Z121 (by decide)) e125 1 rfl (M rfl) (lenOf pd24 rfl) (B at_369) rfl rfl rfl (fun v T126 L X126 Y => ?_)
  obtain ⟨rfl, N126q, e126⟩ := Y
  have N126 := Fr.app N125 N126q
  refine gp X126 hx 373 (((((1 : Int32) + (own_ea c0 (0 : Int32))) + (own_ea c1 c0)) + 0) + 0) (B at_372) rfl rfl ?_
  refine gs X126 hx 375 #[I x0, I x1, I x2, I x3, I m_, I n_, A b1, A b10, I a_, I b_, I 0, I 1, I 1, I 2, I (((((1 : Int32) + (own_ea c0 (0 : Int32))) + (own_ea c1 c0)) + 0) + 0), I en, U] (B at_373) rfl rfl ?_
  have t453 : ∀  (TJ : State) (locsJ : List Loc), Stand p l e room_1 s m ([(.int x0), (.int x1), (.int x2), (.int x3), (.int m_), (.int n_)] : List Value).toArray below meth cO TJ locsJ 6 29 → TJ.heap = T121.heap → Fr n0 locsJ → Go p e below Fn Q TJ (mkF m 453 #[I x0, I x1, I x2, I x3, I m_, I n_, A b1, A b10, I a_, I b_, I 0, I 1, I 1, I 2, I (((((1 : Int32) + (own_ea c0 (0 : Int32))) + (own_ea c1 c0)) + 0) + 0), I 2, U] []) := by
   intro  TJ locsJ XJ eJ NJ 
   refine gA XJ hx 455 (B at_453) rfl rfl rfl ?_
   refine gk XJ hx 456 0 (B at_455) rfl rfl ?_
   refine gV XJ hx 459 hZ hown w122 w123 w125 w124 w7 w126 (by decide) b10 E_b10 [(.int 0)] [] (pa_same hw b10 cp bf (2 : Int32) ((1 : Int64) + en.toInt64) (1 : Int64) c1 c0 c1 c2 c3 kF T121.heap n0 Z121 G_b10 g_cp E_b10 W121_countedPosition W121_limit W121_buf W121_pos W121_noLineEndFrom W121_counted E_cp Pl121 Pc121 Pa121 V_bf nc0 nc1 nc2 nc3 hc0 hc1 hc2 hc3 nc1) eJ 0 rfl (M rfl) (lenOf pd25 rfl) (B at_456) rfl rfl rfl (fun v T127 L X127 Y => ?_)
   obtain ⟨p_, rfl, N127q, Z127, E_p, Ql, Qc, Qa⟩ := Y
   have N127 := Fr.app NJ N127q
   refine g_astore X127 hx 461 _ (B at_459) rfl rfl rfl ?_
   refine gl X127 hx 463 (B at_461) rfl rfl ?_
   refine gf X127 hx 466 (B at_463) (by decide) rfl ?_
   refine gA X127 hx 468 (B at_466) rfl rfl rfl ?_
   refine gV X127 hx 471 hZ hown w151 w152 w154 w153 w43 w155 (by decide) p_ E_p [] [] (rm28 hw p_ ((1 : Int64) + en.toInt64) T127.heap n0 Z127 Ql) rfl 0 rfl (M rfl) (lenOf pd26 rfl) (B at_468) rfl rfl rfl (fun v T128 L X128 Y => ?_)
   obtain ⟨rfl, N128q, e128⟩ := Y
   have N128 := Fr.app N127 N128q
   refine gl X128 hx 473 (B at_471) rfl rfl ?_
   refine gL X128 hx 474 ((((((1 : Int32) + (own_ea c0 (0 : Int32))) + (own_ea c1 c0)) + 0) + 0).toInt64) (B at_473) rfl rfl ?_
   refine gC X128 hx 475 (B at_474) rfl ?_
   have hk129 : ((1 : Int64) + en.toInt64) = ((((((1 : Int32) + (own_ea c0 (0 : Int32))) + (own_ea c1 c0)) + 0) + 0).toInt64) := by rw [hen]; exact own_fin_0_1 c0 c1 c2 c3 z0
   refine gf X128 hx 478 (B at_475) (own_eqL hk129).2 rfl ?_
   refine gA X128 hx 480 (B at_478) rfl rfl rfl ?_
   refine gV X128 hx 483 hZ hown w156 w157 w159 w158 w43 w160 (by decide) p_ E_p [] [] (rm29 hw p_ (1 : Int64) T127.heap n0 Z127 Qc) e128 0 rfl (M rfl) (lenOf pd26 rfl) (B at_480) rfl rfl rfl (fun v T130 L X130 Y => ?_)
   obtain ⟨rfl, N130q, e130⟩ := Y
   have N130 := Fr.app N128 N130q
   refine gl X130 hx 485 (B at_483) rfl rfl ?_
   refine gl X130 hx 487 (B at_485) rfl rfl ?_
   refine gm X130 hx 488 (0 : Int32) (B at_487) (by decide) rfl ?_
   refine gk X130 hx 489 1 (B at_488) rfl rfl ?_
   refine gp X130 hx 490 (1 : Int32) (B at_489) (by decide) rfl ?_
   refine gL X130 hx 491 (1 : Int64) (B at_490) (by decide) rfl ?_
   refine gC X130 hx 492 (B at_491) rfl ?_
   refine gf X130 hx 495 (B at_492) (own_eqL rfl).2 rfl ?_
   refine gk X130 hx 496 1 (B at_495) rfl rfl ?_
   refine gg X130 hx 500 (B at_496) rfl ?_
   exact hG _ _ (g_retZ X130 hx hret hlk rfl (B at_500) (by decide) (by decide) ⟨rfl, N130⟩)
  refine gk X126 hx 376 0 (B at_375) rfl rfl ?_
  refine gs X126 hx 378 _ (B at_376) rfl rfl ?_
  refine gl X126 hx 380 (B at_378) rfl rfl ?_
  refine gf X126 hx 383 (B at_380) (by decide) rfl ?_
  refine gA X126 hx 385 (B at_383) rfl rfl rfl ?_
  refine gk X126 hx 386 0 (B at_385) rfl rfl ?_
  refine gc X126 hx 387 hZ e126 V_b1 c0 rfl rfl (B at_386) rfl ?_
  refine gS X126 hx 390 hZ hown w116 w117 w3 w118 (by decide) [(.int c0)] [] (rm21 hw c0 T121.heap n0 Z121) e126 0 rfl (M rfl) (lenOf pd0 rfl) (B at_387) rfl rfl rfl (fun v T131 L X131 Y => ?_)
  obtain ⟨rfl, N131q, e131⟩ := Y
  have N131 := Fr.app N126 N131q
  have hk132 : (own_term c0) = 0 := z0
  refine gt X131 hx 396 (B at_390) ((if0 _ _).trans (teq hk132).1) rfl ?_
  refine gl X131 hx 398 (B at_396) rfl rfl ?_
  refine gk X131 hx 399 1 (B at_398) rfl rfl ?_
  refine gF X131 hx 402 (B at_399) (by decide) rfl ?_
  refine gA X131 hx 404 (B at_402) rfl rfl rfl ?_
  refine gk X131 hx 405 1 (B at_404) rfl rfl ?_
  refine gc X131 hx 406 hZ e131 V_b1 c1 rfl rfl (B at_405) rfl ?_
  refine gS X131 hx 409 hZ hown w116 w117 w3 w118 (by decide) [(.int c1)] [] (rm21 hw c1 T121.heap n0 Z121) e131 0 rfl (M rfl) (lenOf pd0 rfl) (B at_406) rfl rfl rfl (fun v T133 L X133 Y => ?_)
  obtain ⟨rfl, N133q, e133⟩ := Y
  have N133 := Fr.app N131 N133q
  have hk134 : ¬ ((own_term c1) = 0) := te
  refine gf X133 hx 412 (B at_409) ((if0 _ _).trans (feq hk134).1) rfl ?_
  refine gk X133 hx 413 2 (B at_412) rfl rfl ?_
  refine gs X133 hx 415 #[I x0, I x1, I x2, I x3, I m_, I n_, A b1, A b10, I a_, I b_, I 0, I 1, I 1, I 2, I (((((1 : Int32) + (own_ea c0 (0 : Int32))) + (own_ea c1 c0)) + 0) + 0), I 2, U] (B at_413) rfl rfl ?_
  refine gl X133 hx 417 (B at_415) rfl rfl ?_
  refine gk X133 hx 418 2 (B at_417) rfl rfl ?_
  refine gT X133 hx 434 (B at_418) (by decide) rfl ?_
  refine gl X133 hx 436 (B at_434) rfl rfl ?_
  refine gk X133 hx 437 3 (B at_436) rfl rfl ?_
  refine gT X133 hx 453 (B at_437) (by decide) rfl ?_
  exact t453 _ _ X133 e133 N133
 have t219_1 : ∀  (TJ : State) (locsJ : List Loc), Stand p l e room_1 s m ([(.int x0), (.int x1), (.int x2), (.int x3), (.int m_), (.int n_)] : List Value).toArray below meth cO TJ locsJ 6 29 → TJ.heap = hT → Fr n0 locsJ → ¬ own_term c1 = 0 → own_term c0 = 0 → Go p e below Fn Q TJ (mkF m 219 #[I x0, I x1, I x2, I x3, I m_, I n_, A b1, A b10, I a_, I b_, I 0, I 1, I 1, U, U, U, U] []) := by
  intro  TJ locsJ XJ eJ NJ te z0
  refine gl XJ hx 221 (B at_219) rfl rfl ?_
  refine gs XJ hx 223 #[I x0, I x1, I x2, I x3, I m_, I n_, A b1, A b10, I a_, I b_, I 0, I 1, I 1, I 0, U, U, U] (B at_221) rfl rfl ?_
  refine gl XJ hx 225 (B at_223) rfl rfl ?_
  refine gf XJ hx 228 (B at_225) (by decide) rfl ?_
  refine gl XJ hx 230 (B at_228) rfl rfl ?_
  refine gl XJ hx 232 (B at_230) rfl rfl ?_
  refine gF XJ hx 235 (B at_232) (by decide) rfl ?_
  refine gA XJ hx 237 (B at_235) rfl rfl rfl ?_
  refine gl XJ hx 239 (B at_237) rfl rfl ?_
  refine gk XJ hx 240 1 (B at_239) rfl rfl ?_
  refine gm XJ hx 241 (0 : Int32) (B at_240) (by decide) rfl ?_
  refine gc XJ hx 242 hZ eJ V_b1 c0 rfl rfl (B at_241) rfl ?_
  refine gg XJ hx 261 (B at_242) rfl ?_
  refine gs XJ hx 263 _ (B at_261) rfl rfl ?_
  refine gA XJ hx 265 (B at_263) rfl rfl rfl ?_
  refine gl XJ hx 267 (B at_265) rfl rfl ?_
  refine gc XJ hx 268 hZ eJ V_b1 c1 rfl rfl (B at_267) rfl ?_
  refine gb XJ hx 270 13 (B at_268) rfl rfl ?_
  by_cases hc135 : c1 = 13
  ·
   refine gT XJ hx 280 (B at_270) (teq hc135).1 rfl ?_
   refine gk XJ hx 281 1 (B at_280) rfl rfl ?_
   refine gg XJ hx 285 (B at_281) rfl ?_
   refine gs XJ hx 287 #[I x0, I x1, I x2, I x3, I m_, I n_, A b1, A b10, I a_, I b_, I 0, I 1, I 1, I 0, I c0, I 1, U] (B at_285) rfl rfl ?_
   exact t287_1 (1 : Int32) _ _ XJ eJ NJ (by unfold own_ea; rw [if_neg te, if_pos hc135]) te z0
  ·
   refine gF XJ hx 273 (B at_270) (feq hc135).1 rfl ?_
   refine gl XJ hx 275 (B at_273) rfl rfl ?_
   refine gb XJ hx 277 13 (B at_275) rfl rfl ?_
   by_cases hc136 : c0 = 13
   ·
    refine gT XJ hx 284 (B at_277) (teq hc136).1 rfl ?_
    refine gk XJ hx 285 0 (B at_284) rfl rfl ?_
    refine gs XJ hx 287 #[I x0, I x1, I x2, I x3, I m_, I n_, A b1, A b10, I a_, I b_, I 0, I 1, I 1, I 0, I c0, I 0, U] (B at_285) rfl rfl ?_
    exact t287_1 (0 : Int32) _ _ XJ eJ NJ (by unfold own_ea; rw [if_neg te, if_neg hc135, if_pos hc136]) te z0
   ·
    refine gF XJ hx 280 (B at_277) (feq hc136).1 rfl ?_
    refine gk XJ hx 281 1 (B at_280) rfl rfl ?_
    refine gg XJ hx 285 (B at_281) rfl ?_
    refine gs XJ hx 287 #[I x0, I x1, I x2, I x3, I m_, I n_, A b1, A b10, I a_, I b_, I 0, I 1, I 1, I 0, I c0, I 1, U] (B at_285) rfl rfl ?_
    exact t287_1 (1 : Int32) _ _ XJ eJ NJ (by unfold own_ea; rw [if_neg te, if_neg hc135, if_neg hc136]) te z0
 have t287_2 : ∀ (en : Int32) (TJ : State) (locsJ : List Loc), Stand p l e room_1 s m ([(.int x0), (.int x1), (.int x2), (.int x3), (.int m_), (.int n_)] : List Value).toArray below meth cO TJ locsJ 6 29 → TJ.heap = hT → Fr n0 locsJ → en = own_ea c2 c1 → ¬ own_term c2 = 0 → own_term c0 = 0 → own_term c1 = 0 → Go p e below Fn Q TJ (mkF m 287 #[I x0, I x1, I x2, I x3, I m_, I n_, A b1, A b10, I a_, I b_, I 0, I 1, I 2, I 0, I c1, I en, U] []) := by
  intro en TJ locsJ XJ eJ NJ hen te z0 z1
  refine gA XJ hx 289 (B at_287) rfl rfl rfl ?_
  refine gl XJ hx 291 (B at_289) rfl rfl ?_
  refine gl XJ hx 293 (B at_291) rfl rfl ?_
  refine gm XJ hx 294 (2 : Int32) (B at_293) (by decide) rfl ?_
  refine gk XJ hx 295 1 (B at_294) rfl rfl ?_
  refine gp XJ hx 296 (3 : Int32) (B at_295) (by decide) rfl ?_
  refine gl XJ hx 298 (B at_296) rfl rfl ?_
  refine gl XJ hx 300 (B at_298) rfl rfl ?_
  refine gl XJ hx 302 (B at_300) rfl rfl ?_
  refine gm XJ hx 303 (2 : Int32) (B at_302) (by decide) rfl ?_
  refine gk XJ hx 304 1 (B at_303) rfl rfl ?_
  refine gp XJ hx 305 (3 : Int32) (B at_304) (by decide) rfl ?_
  refine gV XJ hx 308 hZ hown w168 w169 w171 w170 w7 w172 (by decide) b10 E_b10 [(.int 3), (.int en), (.int 3)] [] (mo_0_2 hw b10 cp bf en c0 c1 c2 c3 kF hT n0 Z17 G_b10 g_cp E_b10 W17_countedPosition W17_limit W17_buf W17_pos W17_noLineEndFrom W17_counted E_cp Pl Pc Pa V_bf nc0 nc1 nc2 nc3 hc0 hc1 hc2 hc3) eJ 0 rfl (M rfl) (lenOf pd11 rfl) (B at_305) rfl rfl rfl (fun v T137 L X137 Y => ?_)
  obtain ⟨rfl, N137q, K137, E137x, W137_countedPosition, W137_limit, W137_buf, W137_pos, W137_noLineEndFrom, W137_counted, E137y, Pl137, Pc137, Pa137⟩ := Y
  have N137 := Fr.app NJ N137q
  have V_b1 := V_b1.keep K137 (ninS ne_b1_b10 (ninS ne_u_cp nin0))
  have E_b10 := E_b10.keep K137
  have E_cp := E_cp.keep K137
  have V_bf := V_bf.keep K137 (ninS ne_bf_w (ninS ne_bf_cp nin0))
  have Z137 := Nat.le_trans Z17 K137.1
  refine gl X137 hx 310 (B at_308) rfl rfl ?_
  refine gk X137 hx 311 1 (B at_310) rfl rfl ?_
  refine gp X137 hx 312 (3 : Int32) (B at_311) (by decide) rfl ?_
  refine gs X137 hx 314 #[I x0, I x1, I x2, I x3, I m_, I n_, A b1, A b10, I a_, I b_, I 0, I 1, I 2, I 3, I c1, I en, U] (B at_312) rfl rfl ?_
  refine gl X137 hx 316 (B at_314) rfl rfl ?_
  refine gf X137 hx 319 (B at_316) (by decide) rfl ?_
  refine gA X137 hx 321 (B at_319) rfl rfl rfl ?_
  refine gG X137 hx 324 hZ hown (host := "") (Or.inl w114) Via.refl rfl W137_pos (B at_321) rfl (fun T138 X138 e138 => ?_)
  refine gl X138 hx 326 (B at_324) rfl rfl ?_
  refine gF X138 hx 329 (B at_326) (by decide) rfl ?_
  refine gk X138 hx 330 1 (B at_329) rfl rfl ?_
  refine gg X138 hx 334 (B at_330) rfl ?_
  refine gs X138 hx 336 _ (B at_334) rfl rfl ?_
  refine gk X138 hx 337 1 (B at_336) rfl rfl ?_
  refine gA X138 hx 339 (B at_337) rfl rfl rfl ?_
  refine gk X138 hx 340 0 (B at_339) rfl rfl ?_
  refine gl X138 hx 342 (B at_340) rfl rfl ?_
  refine gS X138 hx 345 hZ hown w119 w120 w3 w121 (by decide) [(.ref b1), (.int 0), (.int 3)] [(.int 1)] (re_0_t hw b1 (3 : Int32) c0 c1 c2 c3 kS T137.heap n0 Z137 (by decide) V_b1) e138 1 rfl (M rfl) (lenOf pd24 rfl) (B at_342) rfl rfl rfl (fun v T139 L X139 Y => ?_)
  obtain ⟨rfl, N139q, e139⟩ := Y
  have N139 := Fr.app N137 N139q
  refine gp X139 hx 346 ((1 : Int32) + (own_ea c0 (0 : Int32))) (B at_345) rfl rfl ?_
  refine gA X139 hx 348 (B at_346) rfl rfl rfl ?_
  refine gk X139 hx 349 1 (B at_348) rfl rfl ?_
  refine gl X139 hx 351 (B at_349) rfl rfl ?_
  refine gS X139 hx 354 hZ hown w119 w120 w3 w121 (by decide) [(.ref b1), (.int 1), (.int 3)] [(.int ((1 : Int32) + (own_ea c0 (0 : Int32))))] (re_1_t hw b1 (3 : Int32) c0 c1 c2 c3 kS T137.heap n0 Z137 (by decide) V_b1) e139 1 rfl (M rfl) (lenOf pd24 rfl) (B at_351) rfl rfl rfl (fun v T140 L X140 Y => ?_)
  obtain ⟨rfl, N140q, e140⟩ := Y
  have N140 := Fr.app N139 N140q
  refine gp X140 hx 355 (((1 : Int32) + (own_ea c0 (0 : Int32))) + (own_ea c1 c0)) (B at_354) rfl rfl ?_
  refine gA X140 hx 357 (B at_355) rfl rfl rfl ?_
  refine gk X140 hx 358 2 (B at_357) rfl rfl ?_
  refine gl X140 hx 360 (B at_358) rfl rfl ?_
  refine gS X140 hx 363 hZ hown w119 w120 w3 w121 (by decide) [(.ref b1), (.int 2), (.int 3)] [(.int (((1 : Int32) + (own_ea c0 (0 : Int32))) + (own_ea c1 c0)))] (re_2_t hw b1 (3 : Int32) c0 c1 c2 c3 kS T137.heap n0 Z137 (by decide) V_b1) e140 1 rfl (M rfl) (lenOf pd24 rfl) (B at_360) rfl rfl rfl (fun v T141 L X141 Y => ?_)
  obtain ⟨rfl, N141q, e141⟩ := Y
  have N141 := Fr.app N140 N141q
  refine gp X141 hx 364 ((((1 : Int32) + (own_ea c0 (0 : Int32))) + (own_ea c1 c0)) + (own_ea c2 c1)) (B at_363) rfl rfl ?_
  refine gA X141 hx 366 (B at_364) rfl rfl rfl ?_
  refine gk X141 hx 367 3 (B at_366) rfl rfl ?_
  refine gl X141 hx 369 (B at_367) rfl rfl ?_
  refine gS X141 hx 372 hZ hown w119 w120 w3 w121 (by decide) [(.ref b1), (.int 3), (.int 3)] [(.int ((((1 : Int32) + (own_ea c0 (0 : Int32))) + (own_ea c1 c0)) + (own_ea c2 c1)))] (re_3_f hw b1 (3 : Int32) T137.heap n0 Z137 (by decide)) e141 1 rfl (M rfl) (lenOf pd24 rfl) (B at_369) rfl rfl rfl (fun v T142 L X142 Y => ?_)
  obtain ⟨rfl, N142q, e142⟩ := Y
  have N142 := Fr.app N141 N142q
  refine gp X142 hx 373 (((((1 : Int32) + (own_ea c0 (0 : Int32))) + (own_ea c1 c0)) + (own_ea c2 c1)) + 0) (B at_372) rfl rfl ?_
  refine gs X142 hx 375 #[I x0, I x1, I x2, I x3, I m_, I n_, A b1, A b10, I a_, I b_, I 0, I 1, I 2, I 3, I (((((1 : Int32) + (own_ea c0 (0 : Int32))) + (own_ea c1 c0)) + (own_ea c2 c1)) + 0), I en, U] (B at_373) rfl rfl ?_
  have t453 : ∀  (TJ : State) (locsJ : List Loc), Stand p l e room_1 s m ([(.int x0), (.int x1), (.int x2), (.int x3), (.int m_), (.int n_)] : List Value).toArray below meth cO TJ locsJ 6 29 → TJ.heap = T137.heap → Fr n0 locsJ → Go p e below Fn Q TJ (mkF m 453 #[I x0, I x1, I x2, I x3, I m_, I n_, A b1, A b10, I a_, I b_, I 0, I 1, I 2, I 3, I (((((1 : Int32) + (own_ea c0 (0 : Int32))) + (own_ea c1 c0)) + (own_ea c2 c1)) + 0), I 3, U] []) := by
   intro  TJ locsJ XJ eJ NJ 
   refine gA XJ hx 455 (B at_453) rfl rfl rfl ?_
   refine gk XJ hx 456 0 (B at_455) rfl rfl ?_
   refine gV XJ hx 459 hZ hown w122 w123 w125 w124 w7 w126 (by decide) b10 E_b10 [(.int 0)] [] (pa_same hw b10 cp bf (3 : Int32) ((1 : Int64) + en.toInt64) (1 : Int64) c2 c0 c1 c2 c3 kF T137.heap n0 Z137 G_b10 g_cp E_b10 W137_countedPosition W137_limit W137_buf W137_pos W137_noLineEndFrom W137_counted E_cp Pl137 Pc137 Pa137 V_bf nc0 nc1 nc2 nc3 hc0 hc1 hc2 hc3 nc2) eJ 0 rfl (M rfl) (lenOf pd25 rfl) (B at_456) rfl rfl rfl (fun v T143 L X143 Y => ?_)
   obtain ⟨p_, rfl, N143q, Z143, E_p, Ql, Qc, Qa⟩ := Y
   have N143 := Fr.app NJ N143q
   refine g_astore X143 hx 461 _ (B at_459) rfl rfl rfl ?_
   refine gl X143 hx 463 (B at_461) rfl rfl ?_
   refine gf X143 hx 466 (B at_463) (by decide) rfl ?_
   refine gA X143 hx 468 (B at_466) rfl rfl rfl ?_
   refine gV X143 hx 471 hZ hown w151 w152 w154 w153 w43 w155 (by decide) p_ E_p [] [] (rm28 hw p_ ((1 : Int64) + en.toInt64) T143.heap n0 Z143 Ql) rfl 0 rfl (M rfl) (lenOf pd26 rfl) (B at_468) rfl rfl rfl (fun v T144 L X144 Y => ?_)
   obtain ⟨rfl, N144q, e144⟩ := Y
   have N144 := Fr.app N143 N144q
   refine gl X144 hx 473 (B at_471) rfl rfl ?_
   refine gL X144 hx 474 ((((((1 : Int32) + (own_ea c0 (0 : Int32))) + (own_ea c1 c0)) + (own_ea c2 c1)) + 0).toInt64) (B at_473) rfl rfl ?_
   refine gC X144 hx 475 (B at_474) rfl ?_
   have hk145 : ((1 : Int64) + en.toInt64) = ((((((1 : Int32) + (own_ea c0 (0 : Int32))) + (own_ea c1 c0)) + (own_ea c2 c1)) + 0).toInt64) := by rw [hen]; exact own_fin_0_2 c0 c1 c2 c3 z0 z1
   refine gf X144 hx 478 (B at_475) (own_eqL hk145).2 rfl ?_
   refine gA X144 hx 480 (B at_478) rfl rfl rfl ?_
   refine gV X144 hx 483 hZ hown w156 w157 w159 w158 w43 w160 (by decide) p_ E_p [] [] (rm29 hw p_ (1 : Int64) T143.heap n0 Z143 Qc) e144 0 rfl (M rfl) (lenOf pd26 rfl) (B at_480) rfl rfl rfl (fun v T146 L X146 Y => ?_)
   obtain ⟨rfl, N146q, e146⟩ := Y
   have N146 := Fr.app N144 N146q
   refine gl X146 hx 485 (B at_483) rfl rfl ?_
   refine gl X146 hx 487 (B at_485) rfl rfl ?_
   refine gm X146 hx 488 (0 : Int32) (B at_487) (by decide) rfl ?_
   refine gk X146 hx 489 1 (B at_488) rfl rfl ?_
   refine gp X146 hx 490 (1 : Int32) (B at_489) (by decide) rfl ?_
   refine gL X146 hx 491 (1 : Int64) (B at_490) (by decide) rfl ?_
   refine gC X146 hx 492 (B at_491) rfl ?_
   refine gf X146 hx 495 (B at_492) (own_eqL rfl).2 rfl ?_
   refine gk X146 hx 496 1 (B at_495) rfl rfl ?_
   refine gg X146 hx 500 (B at_496) rfl ?_
   exact hG _ _ (g_retZ X146 hx hret hlk rfl (B at_500) (by decide) (by decide) ⟨rfl, N146⟩)
  refine gk X142 hx 376 0 (B at_375) rfl rfl ?_
  refine gs X142 hx 378 _ (B at_376) rfl rfl ?_
  refine gl X142 hx 380 (B at_378) rfl rfl ?_
  refine gf X142 hx 383 (B at_380) (by decide) rfl ?_
  refine gA X142 hx 385 (B at_383) rfl rfl rfl ?_
  refine gk X142 hx 386 0 (B at_385) rfl rfl ?_
  refine gc X142 hx 387 hZ e142 V_b1 c0 rfl rfl (B at_386) rfl ?_
  refine gS X142 hx 390 hZ hown w116 w117 w3 w118 (by decide) [(.int c0)] [] (rm21 hw c0 T137.heap n0 Z137) e142 0 rfl (M rfl) (lenOf pd0 rfl) (B at_387) rfl rfl rfl (fun v T147 L X147 Y => ?_)
  obtain ⟨rfl, N147q, e147⟩ := Y
  have N147 := Fr.app N142 N147q
  have hk148 : (own_term c0) = 0 := z0
  refine gt X147 hx 396 (B at_390) ((if0 _ _).trans (teq hk148).1) rfl ?_
  refine gl X147 hx 398 (B at_396) rfl rfl ?_
  refine gk X147 hx 399 1 (B at_398) rfl rfl ?_
  refine gF X147 hx 402 (B at_399) (by decide) rfl ?_
  refine gA X147 hx 404 (B at_402) rfl rfl rfl ?_
  refine gk X147 hx 405 1 (B at_404) rfl rfl ?_
  refine gc X147 hx 406 hZ e147 V_b1 c1 rfl rfl (B at_405) rfl ?_
  refine gS X147 hx 409 hZ hown w116 w117 w3 w118 (by decide) [(.int c1)] [] (rm21 hw c1 T137.heap n0 Z137) e147 0 rfl (M rfl) (lenOf pd0 rfl) (B at_406) rfl rfl rfl (fun v T149 L X149 Y => ?_)
  obtain ⟨rfl, N149q, e149⟩ := Y
  have N149 := Fr.app N147 N149q
  have hk150 : (own_term c1) = 0 := z1
  refine gt X149 hx 415 (B at_409) ((if0 _ _).trans (teq hk150).1) rfl ?_
  refine gl X149 hx 417 (B at_415) rfl rfl ?_
  refine gk X149 hx 418 2 (B at_417) rfl rfl ?_
  refine gF X149 hx 421 (B at_418) (by decide) rfl ?_
  refine gA X149 hx 423 (B at_421) rfl rfl rfl ?_
  refine gk X149 hx 424 2 (B at_423) rfl rfl ?_
  refine gc X149 hx 425 hZ e149 V_b1 c2 rfl rfl (B at_424) rfl ?_
  refine gS X149 hx 428 hZ hown w116 w117 w3 w118 (by decide) [(.int c2)] [] (rm21 hw c2 T137.heap n0 Z137) e149 0 rfl (M rfl) (lenOf pd0 rfl) (B at_425) rfl rfl rfl (fun v T151 L X151 Y => ?_)
  obtain ⟨rfl, N151q, e151⟩ := Y
  have N151 := Fr.app N149 N151q
  have hk152 : ¬ ((own_term c2) = 0) := te
  refine gf X151 hx 431 (B at_428) ((if0 _ _).trans (feq hk152).1) rfl ?_
  refine gk X151 hx 432 3 (B at_431) rfl rfl ?_
  refine gs X151 hx 434 #[I x0, I x1, I x2, I x3, I m_, I n_, A b1, A b10, I a_, I b_, I 0, I 1, I 2, I 3, I (((((1 : Int32) + (own_ea c0 (0 : Int32))) + (own_ea c1 c0)) + (own_ea c2 c1)) + 0), I 3, U] (B at_432) rfl rfl ?_
  refine gl X151 hx 436 (B at_434) rfl rfl ?_
  refine gk X151 hx 437 3 (B at_436) rfl rfl ?_
  refine gT X151 hx 453 (B at_437) (by decide) rfl ?_
  exact t453 _ _ X151 e151 N151
 have t219_2 : ∀  (TJ : State) (locsJ : List Loc), Stand p l e room_1 s m ([(.int x0), (.int x1), (.int x2), (.int x3), (.int m_), (.int n_)] : List Value).toArray below meth cO TJ locsJ 6 29 → TJ.heap = hT → Fr n0 locsJ → ¬ own_term c2 = 0 → own_term c0 = 0 → own_term c1 = 0 → Go p e below Fn Q TJ (mkF m 219 #[I x0, I x1, I x2, I x3, I m_, I n_, A b1, A b10, I a_, I b_, I 0, I 1, I 2, U, U, U, U] []) := by
  intro  TJ locsJ XJ eJ NJ te z0 z1
  refine gl XJ hx 221 (B at_219) rfl rfl ?_
  refine gs XJ hx 223 #[I x0, I x1, I x2, I x3, I m_, I n_, A b1, A b10, I a_, I b_, I 0, I 1, I 2, I 0, U, U, U] (B at_221) rfl rfl ?_
  refine gl XJ hx 225 (B at_223) rfl rfl ?_
  refine gf XJ hx 228 (B at_225) (by decide) rfl ?_
  refine gl XJ hx 230 (B at_228) rfl rfl ?_
  refine gl XJ hx 232 (B at_230) rfl rfl ?_
  refine gF XJ hx 235 (B at_232) (by decide) rfl ?_
  refine gA XJ hx 237 (B at_235) rfl rfl rfl ?_
  refine gl XJ hx 239 (B at_237) rfl rfl ?_
  refine gk XJ hx 240 1 (B at_239) rfl rfl ?_
  refine gm XJ hx 241 (1 : Int32) (B at_240) (by decide) rfl ?_
  refine gc XJ hx 242 hZ eJ V_b1 c1 rfl rfl (B at_241) rfl ?_
  refine gg XJ hx 261 (B at_242) rfl ?_
  refine gs XJ hx 263 _ (B at_261) rfl rfl ?_
  refine gA XJ hx 265 (B at_263) rfl rfl rfl ?_
  refine gl XJ hx 267 (B at_265) rfl rfl ?_
  refine gc XJ hx 268 hZ eJ V_b1 c2 rfl rfl (B at_267) rfl ?_
  refine gb XJ hx 270 13 (B at_268) rfl rfl ?_
  by_cases hc153 : c2 = 13
  ·
   refine gT XJ hx 280 (B at_270) (teq hc153).1 rfl ?_
   refine gk XJ hx 281 1 (B at_280) rfl rfl ?_
   refine gg XJ hx 285 (B at_281) rfl ?_
   refine gs XJ hx 287 #[I x0, I x1, I x2, I x3, I m_, I n_, A b1, A b10, I a_, I b_, I 0, I 1, I 2, I 0, I c1, I 1, U] (B at_285) rfl rfl ?_
   exact t287_2 (1 : Int32) _ _ XJ eJ NJ (by unfold own_ea; rw [if_neg te, if_pos hc153]) te z0 z1
  ·
   refine gF XJ hx 273 (B at_270) (feq hc153).1 rfl ?_
   refine gl XJ hx 275 (B at_273) rfl rfl ?_
   refine gb XJ hx 277 13 (B at_275) rfl rfl ?_
   by_cases hc154 : c1 = 13
   ·
    refine gT XJ hx 284 (B at_277) (teq hc154).1 rfl ?_
    refine gk XJ hx 285 0 (B at_284) rfl rfl ?_
    refine gs XJ hx 287 #[I x0, I x1, I x2, I x3, I m_, I n_, A b1, A b10, I a_, I b_, I 0, I 1, I 2, I 0, I c1, I 0, U] (B at_285) rfl rfl ?_
    exact t287_2 (0 : Int32) _ _ XJ eJ NJ (by unfold own_ea; rw [if_neg te, if_neg hc153, if_pos hc154]) te z0 z1
   ·
    refine gF XJ hx 280 (B at_277) (feq hc154).1 rfl ?_
    refine gk XJ hx 281 1 (B at_280) rfl rfl ?_
    refine gg XJ hx 285 (B at_281) rfl ?_
    refine gs XJ hx 287 #[I x0, I x1, I x2, I x3, I m_, I n_, A b1, A b10, I a_, I b_, I 0, I 1, I 2, I 0, I c1, I 1, U] (B at_285) rfl rfl ?_
    exact t287_2 (1 : Int32) _ _ XJ eJ NJ (by unfold own_ea; rw [if_neg te, if_neg hc153, if_neg hc154]) te z0 z1
 have t287_3 : ∀ (en : Int32) (TJ : State) (locsJ : List Loc), Stand p l e room_1 s m ([(.int x0), (.int x1), (.int x2), (.int x3), (.int m_), (.int n_)] : List Value).toArray below meth cO TJ locsJ 6 29 → TJ.heap = hT → Fr n0 locsJ → en = own_ea c3 c2 → ¬ own_term c3 = 0 → own_term c0 = 0 → own_term c1 = 0 → own_term c2 = 0 → Go p e below Fn Q TJ (mkF m 287 #[I x0, I x1, I x2, I x3, I m_, I n_, A b1, A b10, I a_, I b_, I 0, I 1, I 3, I 0, I c2, I en, U] []) := by
  intro en TJ locsJ XJ eJ NJ hen te z0 z1 z2
  refine gA XJ hx 289 (B at_287) rfl rfl rfl ?_
  refine gl XJ hx 291 (B at_289) rfl rfl ?_
  refine gl XJ hx 293 (B at_291) rfl rfl ?_
  refine gm XJ hx 294 (3 : Int32) (B at_293) (by decide) rfl ?_
  refine gk XJ hx 295 1 (B at_294) rfl rfl ?_
  refine gp XJ hx 296 (4 : Int32) (B at_295) (by decide) rfl ?_
  refine gl XJ hx 298 (B at_296) rfl rfl ?_
  refine gl XJ hx 300 (B at_298) rfl rfl ?_
  refine gl XJ hx 302 (B at_300) rfl rfl ?_
  refine gm XJ hx 303 (3 : Int32) (B at_302) (by decide) rfl ?_
  refine gk XJ hx 304 1 (B at_303) rfl rfl ?_
  refine gp XJ hx 305 (4 : Int32) (B at_304) (by decide) rfl ?_
  refine gV XJ hx 308 hZ hown w168 w169 w171 w170 w7 w172 (by decide) b10 E_b10 [(.int 4), (.int en), (.int 4)] [] (mo_0_3 hw b10 cp bf en c0 c1 c2 c3 kF hT n0 Z17 G_b10 g_cp E_b10 W17_countedPosition W17_limit W17_buf W17_pos W17_noLineEndFrom W17_counted E_cp Pl Pc Pa V_bf nc0 nc1 nc2 nc3 hc0 hc1 hc2 hc3) eJ 0 rfl (M rfl) (lenOf pd11 rfl) (B at_305) rfl rfl rfl (fun v T155 L X155 Y => ?_)
  obtain ⟨rfl, N155q, K155, E155x, W155_countedPosition, W155_limit, W155_buf, W155_pos, W155_noLineEndFrom, W155_counted, E155y, Pl155, Pc155, Pa155⟩ := Y
  have N155 := Fr.app NJ N155q
  have V_b1 := V_b1.keep K155 (ninS ne_b1_b10 (ninS ne_u_cp nin0))
  have E_b10 := E_b10.keep K155
  have E_cp := E_cp.keep K155
  have V_bf := V_bf.keep K155 (ninS ne_bf_w (ninS ne_bf_cp nin0))
  have Z155 := Nat.le_trans Z17 K155.1
  refine gl X155 hx 310 (B at_308) rfl rfl ?_
  refine gk X155 hx 311 1 (B at_310) rfl rfl ?_
  refine gp X155 hx 312 (4 : Int32) (B at_311) (by decide) rfl ?_
  refine gs X155 hx 314 #[I x0, I x1, I x2, I x3, I m_, I n_, A b1, A b10, I a_, I b_, I 0, I 1, I 3, I 4, I c2, I en, U] (B at_312) rfl rfl ?_
  refine gl X155 hx 316 (B at_314) rfl rfl ?_
  refine gf X155 hx 319 (B at_316) (by decide) rfl ?_
  refine gA X155 hx 321 (B at_319) rfl rfl rfl ?_
  refine gG X155 hx 324 hZ hown (host := "") (Or.inl w114) Via.refl rfl W155_pos (B at_321) rfl (fun T156 X156 e156 => ?_)
  refine gl X156 hx 326 (B at_324) rfl rfl ?_
  refine gF X156 hx 329 (B at_326) (by decide) rfl ?_
  refine gk X156 hx 330 1 (B at_329) rfl rfl ?_
  refine gg X156 hx 334 (B at_330) rfl ?_
  refine gs X156 hx 336 _ (B at_334) rfl rfl ?_
  refine gk X156 hx 337 1 (B at_336) rfl rfl ?_
  refine gA X156 hx 339 (B at_337) rfl rfl rfl ?_
  refine gk X156 hx 340 0 (B at_339) rfl rfl ?_
  refine gl X156 hx 342 (B at_340) rfl rfl ?_
  refine gS X156 hx 345 hZ hown w119 w120 w3 w121 (by decide) [(.ref b1), (.int 0), (.int 4)] [(.int 1)] (re_0_t hw b1 (4 : Int32) c0 c1 c2 c3 kS T155.heap n0 Z155 (by decide) V_b1) e156 1 rfl (M rfl) (lenOf pd24 rfl) (B at_342) rfl rfl rfl (fun v T157 L X157 Y => ?_)
  obtain ⟨rfl, N157q, e157⟩ := Y
  have N157 := Fr.app N155 N157q
  refine gp X157 hx 346 ((1 : Int32) + (own_ea c0 (0 : Int32))) (B at_345) rfl rfl ?_
  refine gA X157 hx 348 (B at_346) rfl rfl rfl ?_
  refine gk X157 hx 349 1 (B at_348) rfl rfl ?_
  refine gl X157 hx 351 (B at_349) rfl rfl ?_
  refine gS X157 hx 354 hZ hown w119 w120 w3 w121 (by decide) [(.ref b1), (.int 1), (.int 4)] [(.int ((1 : Int32) + (own_ea c0 (0 : Int32))))] (re_1_t hw b1 (4 : Int32) c0 c1 c2 c3 kS T155.heap n0 Z155 (by decide) V_b1) e157 1 rfl (M rfl) (lenOf pd24 rfl) (B at_351) rfl rfl rfl (fun v T158 L X158 Y => ?_)
  obtain ⟨rfl, N158q, e158⟩ := Y
  have N158 := Fr.app N157 N158q
  refine gp X158 hx 355 (((1 : Int32) + (own_ea c0 (0 : Int32))) + (own_ea c1 c0)) (B at_354) rfl rfl ?_
  refine gA X158 hx 357 (B at_355) rfl rfl rfl ?_
  refine gk X158 hx 358 2 (B at_357) rfl rfl ?_
  refine gl X158 hx 360 (B at_358) rfl rfl ?_
  refine gS X158 hx 363 hZ hown w119 w120 w3 w121 (by decide) [(.ref b1), (.int 2), (.int 4)] [(.int (((1 : Int32) + (own_ea c0 (0 : Int32))) + (own_ea c1 c0)))] (re_2_t hw b1 (4 : Int32) c0 c1 c2 c3 kS T155.heap n0 Z155 (by decide) V_b1) e158 1 rfl (M rfl) (lenOf pd24 rfl) (B at_360) rfl rfl rfl (fun v T159 L X159 Y => ?_)
  obtain ⟨rfl, N159q, e159⟩ := Y
  have N159 := Fr.app N158 N159q
  refine gp X159 hx 364 ((((1 : Int32) + (own_ea c0 (0 : Int32))) + (own_ea c1 c0)) + (own_ea c2 c1)) (B at_363) rfl rfl ?_
  refine gA X159 hx 366 (B at_364) rfl rfl rfl ?_
  refine gk X159 hx 367 3 (B at_366) rfl rfl ?_
  refine gl X159 hx 369 (B at_367) rfl rfl ?_
  refine gS X159 hx 372 hZ hown w119 w120 w3 w121 (by decide) [(.ref b1), (.int 3), (.int 4)] [(.int ((((1 : Int32) + (own_ea c0 (0 : Int32))) + (own_ea c1 c0)) + (own_ea c2 c1)))] (re_3_t hw b1 (4 : Int32) c0 c1 c2 c3 kS T155.heap n0 Z155 (by decide) V_b1) e159 1 rfl (M rfl) (lenOf pd24 rfl) (B at_369) rfl rfl rfl (fun v T160 L X160 Y => ?_)
  obtain ⟨rfl, N160q, e160⟩ := Y
  have N160 := Fr.app N159 N160q
  refine gp X160 hx 373 (((((1 : Int32) + (own_ea c0 (0 : Int32))) + (own_ea c1 c0)) + (own_ea c2 c1)) + (own_ea c3 c2)) (B at_372) rfl rfl ?_
  refine gs X160 hx 375 #[I x0, I x1, I x2, I x3, I m_, I n_, A b1, A b10, I a_, I b_, I 0, I 1, I 3, I 4, I (((((1 : Int32) + (own_ea c0 (0 : Int32))) + (own_ea c1 c0)) + (own_ea c2 c1)) + (own_ea c3 c2)), I en, U] (B at_373) rfl rfl ?_
  have t453 : ∀  (TJ : State) (locsJ : List Loc), Stand p l e room_1 s m ([(.int x0), (.int x1), (.int x2), (.int x3), (.int m_), (.int n_)] : List Value).toArray below meth cO TJ locsJ 6 29 → TJ.heap = T155.heap → Fr n0 locsJ → Go p e below Fn Q TJ (mkF m 453 #[I x0, I x1, I x2, I x3, I m_, I n_, A b1, A b10, I a_, I b_, I 0, I 1, I 3, I 4, I (((((1 : Int32) + (own_ea c0 (0 : Int32))) + (own_ea c1 c0)) + (own_ea c2 c1)) + (own_ea c3 c2)), I 4, U] []) := by
   intro  TJ locsJ XJ eJ NJ 
   refine gA XJ hx 455 (B at_453) rfl rfl rfl ?_
   refine gk XJ hx 456 0 (B at_455) rfl rfl ?_
   refine gV XJ hx 459 hZ hown w122 w123 w125 w124 w7 w126 (by decide) b10 E_b10 [(.int 0)] [] (pa_same hw b10 cp bf (4 : Int32) ((1 : Int64) + en.toInt64) (1 : Int64) c3 c0 c1 c2 c3 kF T155.heap n0 Z155 G_b10 g_cp E_b10 W155_countedPosition W155_limit W155_buf W155_pos W155_noLineEndFrom W155_counted E_cp Pl155 Pc155 Pa155 V_bf nc0 nc1 nc2 nc3 hc0 hc1 hc2 hc3 nc3) eJ 0 rfl (M rfl) (lenOf pd25 rfl) (B at_456) rfl rfl rfl (fun v T161 L X161 Y => ?_)
   obtain ⟨p_, rfl, N161q, Z161, E_p, Ql, Qc, Qa⟩ := Y
   have N161 := Fr.app NJ N161q
   refine g_astore X161 hx 461 _ (B at_459) rfl rfl rfl ?_
   refine gl X161 hx 463 (B at_461) rfl rfl ?_
   refine gf X161 hx 466 (B at_463) (by decide) rfl ?_
   refine gA X161 hx 468 (B at_466) rfl rfl rfl ?_
   refine gV X161 hx 471 hZ hown w151 w152 w154 w153 w43 w155 (by decide) p_ E_p [] [] (rm28 hw p_ ((1 : Int64) + en.toInt64) T161.heap n0 Z161 Ql) rfl 0 rfl (M rfl) (lenOf pd26 rfl) (B at_468) rfl rfl rfl (fun v T162 L X162 Y => ?_)
   obtain ⟨rfl, N162q, e162⟩ := Y
   have N162 := Fr.app N161 N162q
   refine gl X162 hx 473 (B at_471) rfl rfl ?_
   refine gL X162 hx 474 ((((((1 : Int32) + (own_ea c0 (0 : Int32))) + (own_ea c1 c0)) + (own_ea c2 c1)) + (own_ea c3 c2)).toInt64) (B at_473) rfl rfl ?_
   refine gC X162 hx 475 (B at_474) rfl ?_
   have hk163 : ((1 : Int64) + en.toInt64) = ((((((1 : Int32) + (own_ea c0 (0 : Int32))) + (own_ea c1 c0)) + (own_ea c2 c1)) + (own_ea c3 c2)).toInt64) := by rw [hen]; exact own_fin_0_3 c0 c1 c2 c3 z0 z1 z2
   refine gf X162 hx 478 (B at_475) (own_eqL hk163).2 rfl ?_
   refine gA X162 hx 480 (B at_478) rfl rfl rfl ?_
   refine gV X162 hx 483 hZ hown w156 w157 w159 w158 w43 w160 (by decide) p_ E_p [] [] (rm29 hw p_ (1 : Int64) T161.heap n0 Z161 Qc) e162 0 rfl (M rfl) (lenOf pd26 rfl) (B at_480) rfl rfl rfl (fun v T164 L X164 Y => ?_)
   obtain ⟨rfl, N164q, e164⟩ := Y
   have N164 := Fr.app N162 N164q
   refine gl X164 hx 485 (B at_483) rfl rfl ?_
   refine gl X164 hx 487 (B at_485) rfl rfl ?_
   refine gm X164 hx 488 (0 : Int32) (B at_487) (by decide) rfl ?_
   refine gk X164 hx 489 1 (B at_488) rfl rfl ?_
   refine gp X164 hx 490 (1 : Int32) (B at_489) (by decide) rfl ?_
   refine gL X164 hx 491 (1 : Int64) (B at_490) (by decide) rfl ?_
   refine gC X164 hx 492 (B at_491) rfl ?_
   refine gf X164 hx 495 (B at_492) (own_eqL rfl).2 rfl ?_
   refine gk X164 hx 496 1 (B at_495) rfl rfl ?_
   refine gg X164 hx 500 (B at_496) rfl ?_
   exact hG _ _ (g_retZ X164 hx hret hlk rfl (B at_500) (by decide) (by decide) ⟨rfl, N164⟩)
  refine gk X160 hx 376 0 (B at_375) rfl rfl ?_
  refine gs X160 hx 378 _ (B at_376) rfl rfl ?_
  refine gl X160 hx 380 (B at_378) rfl rfl ?_
  refine gf X160 hx 383 (B at_380) (by decide) rfl ?_
  refine gA X160 hx 385 (B at_383) rfl rfl rfl ?_
  refine gk X160 hx 386 0 (B at_385) rfl rfl ?_
  refine gc X160 hx 387 hZ e160 V_b1 c0 rfl rfl (B at_386) rfl ?_
  refine gS X160 hx 390 hZ hown w116 w117 w3 w118 (by decide) [(.int c0)] [] (rm21 hw c0 T155.heap n0 Z155) e160 0 rfl (M rfl) (lenOf pd0 rfl) (B at_387) rfl rfl rfl (fun v T165 L X165 Y => ?_)
  obtain ⟨rfl, N165q, e165⟩ := Y
  have N165 := Fr.app N160 N165q
  have hk166 : (own_term c0) = 0 := z0
  refine gt X165 hx 396 (B at_390) ((if0 _ _).trans (teq hk166).1) rfl ?_
  refine gl X165 hx 398 (B at_396) rfl rfl ?_
  refine gk X165 hx 399 1 (B at_398) rfl rfl ?_
  refine gF X165 hx 402 (B at_399) (by decide) rfl ?_
  refine gA X165 hx 404 (B at_402) rfl rfl rfl ?_
  refine gk X165 hx 405 1 (B at_404) rfl rfl ?_
  refine gc X165 hx 406 hZ e165 V_b1 c1 rfl rfl (B at_405) rfl ?_
  refine gS X165 hx 409 hZ hown w116 w117 w3 w118 (by decide) [(.int c1)] [] (rm21 hw c1 T155.heap n0 Z155) e165 0 rfl (M rfl) (lenOf pd0 rfl) (B at_406) rfl rfl rfl (fun v T167 L X167 Y => ?_)
  obtain ⟨rfl, N167q, e167⟩ := Y
  have N167 := Fr.app N165 N167q
  have hk168 : (own_term c1) = 0 := z1
  refine gt X167 hx 415 (B at_409) ((if0 _ _).trans (teq hk168).1) rfl ?_
  refine gl X167 hx 417 (B at_415) rfl rfl ?_
  refine gk X167 hx 418 2 (B at_417) rfl rfl ?_
  refine gF X167 hx 421 (B at_418) (by decide) rfl ?_
  refine gA X167 hx 423 (B at_421) rfl rfl rfl ?_
  refine gk X167 hx 424 2 (B at_423) rfl rfl ?_
  refine gc X167 hx 425 hZ e167 V_b1 c2 rfl rfl (B at_424) rfl ?_
  refine gS X167 hx 428 hZ hown w116 w117 w3 w118 (by decide) [(.int c2)] [] (rm21 hw c2 T155.heap n0 Z155) e167 0 rfl (M rfl) (lenOf pd0 rfl) (B at_425) rfl rfl rfl (fun v T169 L X169 Y => ?_)
  obtain ⟨rfl, N169q, e169⟩ := Y
  have N169 := Fr.app N167 N169q
  have hk170 : (own_term c2) = 0 := z2
  refine gt X169 hx 434 (B at_428) ((if0 _ _).trans (teq hk170).1) rfl ?_
  refine gl X169 hx 436 (B at_434) rfl rfl ?_
  refine gk X169 hx 437 3 (B at_436) rfl rfl ?_
  refine gF X169 hx 440 (B at_437) (by decide) rfl ?_
  refine gA X169 hx 442 (B at_440) rfl rfl rfl ?_
  refine gk X169 hx 443 3 (B at_442) rfl rfl ?_
  refine gc X169 hx 444 hZ e169 V_b1 c3 rfl rfl (B at_443) rfl ?_
  refine gS X169 hx 447 hZ hown w116 w117 w3 w118 (by decide) [(.int c3)] [] (rm21 hw c3 T155.heap n0 Z155) e169 0 rfl (M rfl) (lenOf pd0 rfl) (B at_444) rfl rfl rfl (fun v T171 L X171 Y => ?_)
  obtain ⟨rfl, N171q, e171⟩ := Y
  have N171 := Fr.app N169 N171q
  have hk172 : ¬ ((own_term c3) = 0) := te
  refine gf X171 hx 450 (B at_447) ((if0 _ _).trans (feq hk172).1) rfl ?_
  refine gk X171 hx 451 4 (B at_450) rfl rfl ?_
  refine gs X171 hx 453 #[I x0, I x1, I x2, I x3, I m_, I n_, A b1, A b10, I a_, I b_, I 0, I 1, I 3, I 4, I (((((1 : Int32) + (own_ea c0 (0 : Int32))) + (own_ea c1 c0)) + (own_ea c2 c1)) + (own_ea c3 c2)), I 4, U] (B at_451) rfl rfl ?_
  exact t453 _ _ X171 e171 N171
 have t219_3 : ∀  (TJ : State) (locsJ : List Loc), Stand p l e room_1 s m ([(.int x0), (.int x1), (.int x2), (.int x3), (.int m_), (.int n_)] : List Value).toArray below meth cO TJ locsJ 6 29 → TJ.heap = hT → Fr n0 locsJ → ¬ own_term c3 = 0 → own_term c0 = 0 → own_term c1 = 0 → own_term c2 = 0 → Go p e below Fn Q TJ (mkF m 219 #[I x0, I x1, I x2, I x3, I m_, I n_, A b1, A b10, I a_, I b_, I 0, I 1, I 3, U, U, U, U] []) := by
  intro  TJ locsJ XJ eJ NJ te z0 z1 z2
  refine gl XJ hx 221 (B at_219) rfl rfl ?_
  refine gs XJ hx 223 #[I x0, I x1, I x2, I x3, I m_, I n_, A b1, A b10, I a_, I b_, I 0, I 1, I 3, I 0, U, U, U] (B at_221) rfl rfl ?_
  refine gl XJ hx 225 (B at_223) rfl rfl ?_
  refine gf XJ hx 228 (B at_225) (by decide) rfl ?_
  refine gl XJ hx 230 (B at_228) rfl rfl ?_
  refine gl XJ hx 232 (B at_230) rfl rfl ?_
  refine gF XJ hx 235 (B at_232) (by decide) rfl ?_
  refine gA XJ hx 237 (B at_235) rfl rfl rfl ?_
  refine gl XJ hx 239 (B at_237) rfl rfl ?_
  refine gk XJ hx 240 1 (B at_239) rfl rfl ?_
  refine gm XJ hx 241 (2 : Int32) (B at_240) (by decide) rfl ?_
  refine gc XJ hx 242 hZ eJ V_b1 c2 rfl rfl (B at_241) rfl ?_
  refine gg XJ hx 261 (B at_242) rfl ?_
  refine gs XJ hx 263 _ (B at_261) rfl rfl ?_
  refine gA XJ hx 265 (B at_263) rfl rfl rfl ?_
  refine gl XJ hx 267 (B at_265) rfl rfl ?_
  refine gc XJ hx 268 hZ eJ V_b1 c3 rfl rfl (B at_267) rfl ?_
  refine gb XJ hx 270 13 (B at_268) rfl rfl ?_
  by_cases hc173 : c3 = 13
  ·
   refine gT XJ hx 280 (B at_270) (teq hc173).1 rfl ?_
   refine gk XJ hx 281 1 (B at_280) rfl rfl ?_
   refine gg XJ hx 285 (B at_281) rfl ?_
   refine gs XJ hx 287 #[I x0, I x1, I x2, I x3, I m_, I n_, A b1, A b10, I a_, I b_, I 0, I 1, I 3, I 0, I c2, I 1, U] (B at_285) rfl rfl ?_
   exact t287_3 (1 : Int32) _ _ XJ eJ NJ (by unfold own_ea; rw [if_neg te, if_pos hc173]) te z0 z1 z2
  ·
   refine gF XJ hx 273 (B at_270) (feq hc173).1 rfl ?_
   refine gl XJ hx 275 (B at_273) rfl rfl ?_
   refine gb XJ hx 277 13 (B at_275) rfl rfl ?_
   by_cases hc174 : c2 = 13
   ·
    refine gT XJ hx 284 (B at_277) (teq hc174).1 rfl ?_
    refine gk XJ hx 285 0 (B at_284) rfl rfl ?_
    refine gs XJ hx 287 #[I x0, I x1, I x2, I x3, I m_, I n_, A b1, A b10, I a_, I b_, I 0, I 1, I 3, I 0, I c2, I 0, U] (B at_285) rfl rfl ?_
    exact t287_3 (0 : Int32) _ _ XJ eJ NJ (by unfold own_ea; rw [if_neg te, if_neg hc173, if_pos hc174]) te z0 z1 z2
   ·
    refine gF XJ hx 280 (B at_277) (feq hc174).1 rfl ?_
    refine gk XJ hx 281 1 (B at_280) rfl rfl ?_
    refine gg XJ hx 285 (B at_281) rfl ?_
    refine gs XJ hx 287 #[I x0, I x1, I x2, I x3, I m_, I n_, A b1, A b10, I a_, I b_, I 0, I 1, I 3, I 0, I c2, I 1, U] (B at_285) rfl rfl ?_
    exact t287_3 (1 : Int32) _ _ XJ eJ NJ (by unfold own_ea; rw [if_neg te, if_neg hc173, if_neg hc174]) te z0 z1 z2
 refine gk XJ hx 142 (-1 : Int32) (B at_141) rfl rfl ?_
 refine gs XJ hx 144 #[I x0, I x1, I x2, I x3, I m_, I n_, A b1, A b10, I a_, I b_, I 0, I 1, I (-1 : Int32), U, U, U, U] (B at_142) rfl rfl ?_
 refine gl XJ hx 146 (B at_144) rfl rfl ?_
 refine gk XJ hx 147 3 (B at_146) rfl rfl ?_
 refine gF XJ hx 150 (B at_147) (by decide) rfl ?_
 refine gA XJ hx 152 (B at_150) rfl rfl rfl ?_
 refine gk XJ hx 153 3 (B at_152) rfl rfl ?_
 refine gc XJ hx 154 hZ eJ V_b1 c3 rfl rfl (B at_153) rfl ?_
 refine gS XJ hx 157 hZ hown w116 w117 w3 w118 (by decide) [(.int c3)] [] (rm21 hw c3 hT n0 Z17) eJ 0 rfl (M rfl) (lenOf pd0 rfl) (B at_154) rfl rfl rfl (fun v T175 L X175 Y => ?_)
 obtain ⟨rfl, N175q, e175⟩ := Y
 have N175 := Fr.app NJ N175q
 by_cases hc176 : (own_term c3) = 0
 ·
  refine gt X175 hx 163 (B at_157) ((if0 _ _).trans (teq hc176).1) rfl ?_
  refine gl X175 hx 165 (B at_163) rfl rfl ?_
  refine gk X175 hx 166 2 (B at_165) rfl rfl ?_
  refine gF X175 hx 169 (B at_166) (by decide) rfl ?_
  refine gA X175 hx 171 (B at_169) rfl rfl rfl ?_
  refine gk X175 hx 172 2 (B at_171) rfl rfl ?_
  refine gc X175 hx 173 hZ e175 V_b1 c2 rfl rfl (B at_172) rfl ?_
  refine gS X175 hx 176 hZ hown w116 w117 w3 w118 (by decide) [(.int c2)] [] (rm21 hw c2 hT n0 Z17) e175 0 rfl (M rfl) (lenOf pd0 rfl) (B at_173) rfl rfl rfl (fun v T177 L X177 Y => ?_)
  obtain ⟨rfl, N177q, e177⟩ := Y
  have N177 := Fr.app N175 N177q
  by_cases hc178 : (own_term c2) = 0
  ·
   refine gt X177 hx 182 (B at_176) ((if0 _ _).trans (teq hc178).1) rfl ?_
   refine gl X177 hx 184 (B at_182) rfl rfl ?_
   refine gk X177 hx 185 1 (B at_184) rfl rfl ?_
   refine gF X177 hx 188 (B at_185) (by decide) rfl ?_
   refine gA X177 hx 190 (B at_188) rfl rfl rfl ?_
   refine gk X177 hx 191 1 (B at_190) rfl rfl ?_
   refine gc X177 hx 192 hZ e177 V_b1 c1 rfl rfl (B at_191) rfl ?_
   refine gS X177 hx 195 hZ hown w116 w117 w3 w118 (by decide) [(.int c1)] [] (rm21 hw c1 hT n0 Z17) e177 0 rfl (M rfl) (lenOf pd0 rfl) (B at_192) rfl rfl rfl (fun v T179 L X179 Y => ?_)
   obtain ⟨rfl, N179q, e179⟩ := Y
   have N179 := Fr.app N177 N179q
   by_cases hc180 : (own_term c1) = 0
   ·
    refine gt X179 hx 201 (B at_195) ((if0 _ _).trans (teq hc180).1) rfl ?_
    refine gl X179 hx 203 (B at_201) rfl rfl ?_
    refine gf X179 hx 206 (B at_203) (by decide) rfl ?_
    refine gA X179 hx 208 (B at_206) rfl rfl rfl ?_
    refine gk X179 hx 209 0 (B at_208) rfl rfl ?_
    refine gc X179 hx 210 hZ e179 V_b1 c0 rfl rfl (B at_209) rfl ?_
    refine gS X179 hx 213 hZ hown w116 w117 w3 w118 (by decide) [(.int c0)] [] (rm21 hw c0 hT n0 Z17) e179 0 rfl (M rfl) (lenOf pd0 rfl) (B at_210) rfl rfl rfl (fun v T181 L X181 Y => ?_)
    obtain ⟨rfl, N181q, e181⟩ := Y
    have N181 := Fr.app N179 N181q
    by_cases hc182 : (own_term c0) = 0
    ·
     refine gt X181 hx 219 (B at_213) ((if0 _ _).trans (teq hc182).1) rfl ?_
     exact t219_m _ _ X181 e181 N181
    ·
     refine gf X181 hx 216 (B at_213) ((if0 _ _).trans (feq hc182).1) rfl ?_
     refine gk X181 hx 217 0 (B at_216) rfl rfl ?_
     refine gs X181 hx 219 _ (B at_217) rfl rfl ?_
     exact t219_0 _ _ X181 e181 N181 hc182 
   ·
    refine gf X179 hx 198 (B at_195) ((if0 _ _).trans (feq hc180).1) rfl ?_
    refine gk X179 hx 199 1 (B at_198) rfl rfl ?_
    refine gs X179 hx 201 _ (B at_199) rfl rfl ?_
    refine gl X179 hx 203 (B at_201) rfl rfl ?_
    refine gf X179 hx 206 (B at_203) (by decide) rfl ?_
    refine gA X179 hx 208 (B at_206) rfl rfl rfl ?_
    refine gk X179 hx 209 0 (B at_208) rfl rfl ?_
    refine gc X179 hx 210 hZ e179 V_b1 c0 rfl rfl (B at_209) rfl ?_
    refine gS X179 hx 213 hZ hown w116 w117 w3 w118 (by decide) [(.int c0)] [] (rm21 hw c0 hT n0 Z17) e179 0 rfl (M rfl) (lenOf pd0 rfl) (B at_210) rfl rfl rfl (fun v T183 L X183 Y => ?_)
    obtain ⟨rfl, N183q, e183⟩ := Y
    have N183 := Fr.app N179 N183q
    by_cases hc184 : (own_term c0) = 0
    ·
     refine gt X183 hx 219 (B at_213) ((if0 _ _).trans (teq hc184).1) rfl ?_
     exact t219_1 _ _ X183 e183 N183 hc180 hc184
    ·
     refine gf X183 hx 216 (B at_213) ((if0 _ _).trans (feq hc184).1) rfl ?_
     refine gk X183 hx 217 0 (B at_216) rfl rfl ?_
     refine gs X183 hx 219 #[I x0, I x1, I x2, I x3, I m_, I n_, A b1, A b10, I a_, I b_, I 0, I 1, I 0, U, U, U, U] (B at_217) rfl rfl ?_
     exact t219_0 _ _ X183 e183 N183 hc184 
  ·
   refine gf X177 hx 179 (B at_176) ((if0 _ _).trans (feq hc178).1) rfl ?_
   refine gk X177 hx 180 2 (B at_179) rfl rfl ?_
   refine gs X177 hx 182 _ (B at_180) rfl rfl ?_
   refine gl X177 hx 184 (B at_182) rfl rfl ?_
   refine gk X177 hx 185 1 (B at_184) rfl rfl ?_
   refine gF X177 hx 188 (B at_185) (by decide) rfl ?_
   refine gA X177 hx 190 (B at_188) rfl rfl rfl ?_
   refine gk X177 hx 191 1 (B at_190) rfl rfl ?_
   refine gc X177 hx 192 hZ e177 V_b1 c1 rfl rfl (B at_191) rfl ?_
   refine gS X177 hx 195 hZ hown w116 w117 w3 w118 (by decide) [(.int c1)] [] (rm21 hw c1 hT n0 Z17) e177 0 rfl (M rfl) (lenOf pd0 rfl) (B at_192) rfl rfl rfl (fun v T185 L X185 Y => ?_)
   obtain ⟨rfl, N185q, e185⟩ := Y
   have N185 := Fr.app N177 N185q
   by_cases hc186 : (own_term c1) = 0
   ·
    refine gt X185 hx 201 (B at_195) ((if0 _ _).trans (teq hc186).1) rfl ?_
    refine gl X185 hx 203 (B at_201) rfl rfl ?_
    refine gf X185 hx 206 (B at_203) (by decide) rfl ?_
    refine gA X185 hx 208 (B at_206) rfl rfl rfl ?_
    refine gk X185 hx 209 0 (B at_208) rfl rfl ?_
    refine gc X185 hx 210 hZ e185 V_b1 c0 rfl rfl (B at_209) rfl ?_
    refine gS X185 hx 213 hZ hown w116 w117 w3 w118 (by decide) [(.int c0)] [] (rm21 hw c0 hT n0 Z17) e185 0 rfl (M rfl) (lenOf pd0 rfl) (B at_210) rfl rfl rfl (fun v T187 L X187 Y => ?_)
    obtain ⟨rfl, N187q, e187⟩ := Y
    have N187 := Fr.app N185 N187q
    by_cases hc188 : (own_term c0) = 0
    ·
     refine gt X187 hx 219 (B at_213) ((if0 _ _).trans (teq hc188).1) rfl ?_
     exact t219_2 _ _ X187 e187 N187 hc178 hc188 hc186
    ·
     refine gf X187 hx 216 (B at_213) ((if0 _ _).trans (feq hc188).1) rfl ?_
     refine gk X187 hx 217 0 (B at_216) rfl rfl ?_
     refine gs X187 hx 219 #[I x0, I x1, I x2, I x3, I m_, I n_, A b1, A b10, I a_, I b_, I 0, I 1, I 0, U, U, U, U] (B at_217) rfl rfl ?_
     exact t219_0 _ _ X187 e187 N187 hc188 
   ·
    refine gf X185 hx 198 (B at_195) ((if0 _ _).trans (feq hc186).1) rfl ?_
    refine gk X185 hx 199 1 (B at_198) rfl rfl ?_
    refine gs X185 hx 201 #[I x0, I x1, I x2, I x3, I m_, I n_, A b1, A b10, I a_, I b_, I 0, I 1, I 1, U, U, U, U] (B at_199) rfl rfl ?_
    refine gl X185 hx 203 (B at_201) rfl rfl ?_
    refine gf X185 hx 206 (B at_203) (by decide) rfl ?_
    refine gA X185 hx 208 (B at_206) rfl rfl rfl ?_
    refine gk X185 hx 209 0 (B at_208) rfl rfl ?_
    refine gc X185 hx 210 hZ e185 V_b1 c0 rfl rfl (B at_209) rfl ?_
    refine gS X185 hx 213 hZ hown w116 w117 w3 w118 (by decide) [(.int c0)] [] (rm21 hw c0 hT n0 Z17) e185 0 rfl (M rfl) (lenOf pd0 rfl) (B at_210) rfl rfl rfl (fun v T189 L X189 Y => ?_)
    obtain ⟨rfl, N189q, e189⟩ := Y
    have N189 := Fr.app N185 N189q
    by_cases hc190 : (own_term c0) = 0
    ·
     refine gt X189 hx 219 (B at_213) ((if0 _ _).trans (teq hc190).1) rfl ?_
     exact t219_1 _ _ X189 e189 N189 hc186 hc190
    ·
     refine gf X189 hx 216 (B at_213) ((if0 _ _).trans (feq hc190).1) rfl ?_
     refine gk X189 hx 217 0 (B at_216) rfl rfl ?_
     refine gs X189 hx 219 _ (B at_217) rfl rfl ?_
     exact t219_0 _ _ X189 e189 N189 hc190 
 ·
  refine gf X175 hx 160 (B at_157) ((if0 _ _).trans (feq hc176).1) rfl ?_
  refine gk X175 hx 161 3 (B at_160) rfl rfl ?_
  refine gs X175 hx 163 _ (B at_161) rfl rfl ?_
  refine gl X175 hx 165 (B at_163) rfl rfl ?_
  refine gk X175 hx 166 2 (B at_165) rfl rfl ?_
  refine gF X175 hx 169 (B at_166) (by decide) rfl ?_
  refine gA X175 hx 171 (B at_169) rfl rfl rfl ?_
  refine gk X175 hx 172 2 (B at_171) rfl rfl ?_
  refine gc X175 hx 173 hZ e175 V_b1 c2 rfl rfl (B at_172) rfl ?_
  refine gS X175 hx 176 hZ hown w116 w117 w3 w118 (by decide) [(.int c2)] [] (rm21 hw c2 hT n0 Z17) e175 0 rfl (M rfl) (lenOf pd0 rfl) (B at_173) rfl rfl rfl (fun v T191 L X191 Y => ?_)
  obtain ⟨rfl, N191q, e191⟩ := Y
  have N191 := Fr.app N175 N191q
  by_cases hc192 : (own_term c2) = 0
  ·
   refine gt X191 hx 182 (B at_176) ((if0 _ _).trans (teq hc192).1) rfl ?_
   refine gl X191 hx 184 (B at_182) rfl rfl ?_
   refine gk X191 hx 185 1 (B at_184) rfl rfl ?_
   refine gF X191 hx 188 (B at_185) (by decide) rfl ?_
   refine gA X191 hx 190 (B at_188) rfl rfl rfl ?_
   refine gk X191 hx 191 1 (B at_190) rfl rfl ?_
   refine gc X191 hx 192 hZ e191 V_b1 c1 rfl rfl (B at_191) rfl ?_
   refine gS X191 hx 195 hZ hown w116 w117 w3 w118 (by decide) [(.int c1)] [] (rm21 hw c1 hT n0 Z17) e191 0 rfl (M rfl) (lenOf pd0 rfl) (B at_192) rfl rfl rfl (fun v T193 L X193 Y => ?_)
   obtain ⟨rfl, N193q, e193⟩ := Y
   have N193 := Fr.app N191 N193q
   by_cases hc194 : (own_term c1) = 0
   ·
    refine gt X193 hx 201 (B at_195) ((if0 _ _).trans (teq hc194).1) rfl ?_
    refine gl X193 hx 203 (B at_201) rfl rfl ?_
    refine gf X193 hx 206 (B at_203) (by decide) rfl ?_
    refine gA X193 hx 208 (B at_206) rfl rfl rfl ?_
    refine gk X193 hx 209 0 (B at_208) rfl rfl ?_
    refine gc X193 hx 210 hZ e193 V_b1 c0 rfl rfl (B at_209) rfl ?_
    refine gS X193 hx 213 hZ hown w116 w117 w3 w118 (by decide) [(.int c0)] [] (rm21 hw c0 hT n0 Z17) e193 0 rfl (M rfl) (lenOf pd0 rfl) (B at_210) rfl rfl rfl (fun v T195 L X195 Y => ?_)
    obtain ⟨rfl, N195q, e195⟩ := Y
    have N195 := Fr.app N193 N195q
    by_cases hc196 : (own_term c0) = 0
    ·
     refine gt X195 hx 219 (B at_213) ((if0 _ _).trans (teq hc196).1) rfl ?_
     exact t219_3 _ _ X195 e195 N195 hc176 hc196 hc194 hc192
    ·
     refine gf X195 hx 216 (B at_213) ((if0 _ _).trans (feq hc196).1) rfl ?_
     refine gk X195 hx 217 0 (B at_216) rfl rfl ?_
     refine gs X195 hx 219 #[I x0, I x1, I x2, I x3, I m_, I n_, A b1, A b10, I a_, I b_, I 0, I 1, I 0, U, U, U, U] (B at_217) rfl rfl ?_
     exact t219_0 _ _ X195 e195 N195 hc196 
   ·
    refine gf X193 hx 198 (B at_195) ((if0 _ _).trans (feq hc194).1) rfl ?_
    refine gk X193 hx 199 1 (B at_198) rfl rfl ?_
    refine gs X193 hx 201 #[I x0, I x1, I x2, I x3, I m_, I n_, A b1, A b10, I a_, I b_, I 0, I 1, I 1, U, U, U, U] (B at_199) rfl rfl ?_
    refine gl X193 hx 203 (B at_201) rfl rfl ?_
    refine gf X193 hx 206 (B at_203) (by decide) rfl ?_
    refine gA X193 hx 208 (B at_206) rfl rfl rfl ?_
    refine gk X193 hx 209 0 (B at_208) rfl rfl ?_
    refine gc X193 hx 210 hZ e193 V_b1 c0 rfl rfl (B at_209) rfl ?_
    refine gS X193 hx 213 hZ hown w116 w117 w3 w118 (by decide) [(.int c0)] [] (rm21 hw c0 hT n0 Z17) e193 0 rfl (M rfl) (lenOf pd0 rfl) (B at_210) rfl rfl rfl (fun v T197 L X197 Y => ?_)
    obtain ⟨rfl, N197q, e197⟩ := Y
    have N197 := Fr.app N193 N197q
    by_cases hc198 : (own_term c0) = 0
    ·
     refine gt X197 hx 219 (B at_213) ((if0 _ _).trans (teq hc198).1) rfl ?_
     exact t219_1 _ _ X197 e197 N197 hc194 hc198
    ·
     refine gf X197 hx 216 (B at_213) ((if0 _ _).trans (feq hc198).1) rfl ?_
     refine gk X197 hx 217 0 (B at_216) rfl rfl ?_
     refine gs X197 hx 219 _ (B at_217) rfl rfl ?_
     exact t219_0 _ _ X197 e197 N197 hc198 
  ·
   refine gf X191 hx 179 (B at_176) ((if0 _ _).trans (feq hc192).1) rfl ?_
   refine gk X191 hx 180 2 (B at_179) rfl rfl ?_
   refine gs X191 hx 182 #[I x0, I x1, I x2, I x3, I m_, I n_, A b1, A b10, I a_, I b_, I 0, I 1, I 2, U, U, U, U] (B at_180) rfl rfl ?_
   refine gl X191 hx 184 (B at_182) rfl rfl ?_
   refine gk X191 hx 185 1 (B at_184) rfl rfl ?_
   refine gF X191 hx 188 (B at_185) (by decide) rfl ?_
   refine gA X191 hx 190 (B at_188) rfl rfl rfl ?_
   refine gk X191 hx 191 1 (B at_190) rfl rfl ?_
   refine gc X191 hx 192 hZ e191 V_b1 c1 rfl rfl (B at_191) rfl ?_
   refine gS X191 hx 195 hZ hown w116 w117 w3 w118 (by decide) [(.int c1)] [] (rm21 hw c1 hT n0 Z17) e191 0 rfl (M rfl) (lenOf pd0 rfl) (B at_192) rfl rfl rfl (fun v T199 L X199 Y => ?_)
   obtain ⟨rfl, N199q, e199⟩ := Y
   have N199 := Fr.app N191 N199q
   by_cases hc200 : (own_term c1) = 0
   ·
    refine gt X199 hx 201 (B at_195) ((if0 _ _).trans (teq hc200).1) rfl ?_
    refine gl X199 hx 203 (B at_201) rfl rfl ?_
    refine gf X199 hx 206 (B at_203) (by decide) rfl ?_
    refine gA X199 hx 208 (B at_206) rfl rfl rfl ?_
    refine gk X199 hx 209 0 (B at_208) rfl rfl ?_
    refine gc X199 hx 210 hZ e199 V_b1 c0 rfl rfl (B at_209) rfl ?_
    refine gS X199 hx 213 hZ hown w116 w117 w3 w118 (by decide) [(.int c0)] [] (rm21 hw c0 hT n0 Z17) e199 0 rfl (M rfl) (lenOf pd0 rfl) (B at_210) rfl rfl rfl (fun v T201 L X201 Y => ?_)
    obtain ⟨rfl, N201q, e201⟩ := Y
    have N201 := Fr.app N199 N201q
    by_cases hc202 : (own_term c0) = 0
    ·
     refine gt X201 hx 219 (B at_213) ((if0 _ _).trans (teq hc202).1) rfl ?_
     exact t219_2 _ _ X201 e201 N201 hc192 hc202 hc200
    ·
     refine gf X201 hx 216 (B at_213) ((if0 _ _).trans (feq hc202).1) rfl ?_
     refine gk X201 hx 217 0 (B at_216) rfl rfl ?_
     refine gs X201 hx 219 _ (B at_217) rfl rfl ?_
     exact t219_0 _ _ X201 e201 N201 hc202 
   ·
    refine gf X199 hx 198 (B at_195) ((if0 _ _).trans (feq hc200).1) rfl ?_
    refine gk X199 hx 199 1 (B at_198) rfl rfl ?_
    refine gs X199 hx 201 _ (B at_199) rfl rfl ?_
    refine gl X199 hx 203 (B at_201) rfl rfl ?_
    refine gf X199 hx 206 (B at_203) (by decide) rfl ?_
    refine gA X199 hx 208 (B at_206) rfl rfl rfl ?_
    refine gk X199 hx 209 0 (B at_208) rfl rfl ?_
    refine gc X199 hx 210 hZ e199 V_b1 c0 rfl rfl (B at_209) rfl ?_
    refine gS X199 hx 213 hZ hown w116 w117 w3 w118 (by decide) [(.int c0)] [] (rm21 hw c0 hT n0 Z17) e199 0 rfl (M rfl) (lenOf pd0 rfl) (B at_210) rfl rfl rfl (fun v T203 L X203 Y => ?_)
    obtain ⟨rfl, N203q, e203⟩ := Y
    have N203 := Fr.app N199 N203q
    by_cases hc204 : (own_term c0) = 0
    ·
     refine gt X203 hx 219 (B at_213) ((if0 _ _).trans (teq hc204).1) rfl ?_
     exact t219_1 _ _ X203 e203 N203 hc200 hc204
    ·
     refine gf X203 hx 216 (B at_213) ((if0 _ _).trans (feq hc204).1) rfl ?_
     refine gk X203 hx 217 0 (B at_216) rfl rfl ?_
     refine gs X203 hx 219 #[I x0, I x1, I x2, I x3, I m_, I n_, A b1, A b10, I a_, I b_, I 0, I 1, I 0, U, U, U, U] (B at_217) rfl rfl ?_
     exact t219_0 _ _ X203 e203 N203 hc204 
set_option maxRecDepth 65536 in
set_option maxHeartbeats 40000000 in
theorem law_1 {l : Launch} {Z : State} {a0 : Array Value} {x0 x1 x2 x3 m_ n_ a_ b_ c0 c1 c2 c3 : Int32} {b1 b10 cp bf : Addr} {kS kF : ClassId} {hT : Heap} {n0 : Nat} {p : Program} {e : Env} {s : State} {m : MethodId} {below : List Frame} {meth : Method} {cO : Code} (hw : ∀ d ∈ tables_1, d.before a0 Z = true) (hx : p.tables.exec = Jvm.exec) (hby : cO.code = code) (hml : cO.maxLocals = 17) (hown : s.vm.findClass "gleanwell/WindowMoveByPinLaw" = some m.cls) (hret : meth.sig.returnType = some .boolean) (hlk : meth.locks = false) (hZ : Z.Warmed39 s.vm)  (TK : State) (locsJ : List Loc) (XJ : Stand p l e room_1 s m ([(.int x0), (.int x1), (.int x2), (.int x3), (.int m_), (.int n_)] : List Value).toArray below meth cO TK locsJ 6 29) (eJ : TK.heap = hT) (NJ : Fr n0 locsJ) (V_b1 : Arv Z hT b1 kS .char (4 : Int32) [(.int c0), (.int c1), (.int c2), (.int c3)] (.int 0)) (V_bf : Arv Z hT bf kF .char (5 : Int32) [(.int c0), (.int c1), (.int c2), (.int c3), (.int 0)] (.int 0)) (E_b10 : Exa Z hT b10 "gleanwell/Window") (E_cp : Exa Z hT cp "gleanwell/Position") (Pl : Fld Z hT cp "gleanwell/Position" "line" "J" (.long (1 : Int64))) (Pc : Fld Z hT cp "gleanwell/Position" "column" "J" (.long (1 : Int64))) (Pa : Fld Z hT cp "gleanwell/Position" "last" "C" (.int 0)) (W17_countedPosition : Fld Z hT b10 "gleanwell/Window" "countedPosition" "Lgleanwell/Position;" (.ref cp)) (W17_limit : Fld Z hT b10 "gleanwell/Window" "limit" "I" (.int 4)) (W17_buf : Fld Z hT b10 "gleanwell/Window" "buf" "[C" (.ref bf)) (W17_pos : Fld Z hT b10 "gleanwell/Window" "pos" "I" (.int 1)) (W17_noLineEndFrom : Fld Z hT b10 "gleanwell/Window" "noLineEndFrom" "I" (.int 1)) (W17_counted : Fld Z hT b10 "gleanwell/Window" "counted" "I" (.int 0)) (ne_b1_b10 : b1 ≠ b10) (ne_cp_w : cp ≠ b10) (ne_bf_w : bf ≠ b10) (ne_bf_cp : bf ≠ cp) (ne_u_cp : b1 ≠ cp) (G_b10 : n0 ≤ b10) (g_cp : n0 ≤ cp) (Z17 : n0 ≤ hT.size) (nc0 : nar .char c0 = c0) (nc1 : nar .char c1 = c1) (nc2 : nar .char c2 = c2) (nc3 : nar .char c3 = c3) (hc0 : ¬ 255 < c0) (hc1 : ¬ 255 < c1) (hc2 : ¬ 255 < c2) (hc3 : ¬ 255 < c3) :
  Go p e below (fun o t L => FrameEnd s o t L room_1.cells room_1.slots) (fun v h L => v = some (.int 1) ∧ Fr n0 L) TK (mkF m 141 #[I x0, I x1, I x2, I x3, I m_, I n_, A b1, A b10, I a_, I b_, I 1, I 1, U, U, U, U, U] []) := by
 have hown : s.vm.findClass "gleanwell/WindowMoveByPinLaw" = some m.cls := hown
 refine own_lq (fun Fn Q hG => ?_)
 have B {q : Nat} {r : Instr × Nat} (h : decode code q = .ok r) : decode cO.code q = .ok r := hb hby h
 have W {d : Jvm.Cond} (i : Nat) (h : tables_1[i]? = some d) : d.before a0 Z = true := own_w hw i h
 have w119 := W 119 rfl
 have w120 := W 120 rfl
 have w3 := W 3 rfl
 have w121 := W 121 rfl
 have w122 := W 122 rfl
 have w123 := W 123 rfl
 have w125 := W 125 rfl
 have w124 := W 124 rfl
 have w7 := W 7 rfl
 have w126 := W 126 rfl
 have w151 := W 151 rfl
 have w152 := W 152 rfl
 have w154 := W 154 rfl
 have w153 := W 153 rfl
 have w43 := W 43 rfl
 have w155 := W 155 rfl
 have w156 := W 156 rfl
 have w157 := W 157 rfl
 have w159 := W 159 rfl
 have w158 := W 158 rfl
 have w160 := W 160 rfl
 have w116 := W 116 rfl
 have w117 := W 117 rfl
 have w118 := W 118 rfl
 have M {n : Nat} (h : n = _) : n = cO.maxLocals := h.trans hml.symm
 have t219_m : ∀  (TJ : State) (locsJ : List Loc), Stand p l e room_1 s m ([(.int x0), (.int x1), (.int x2), (.int x3), (.int m_), (.int n_)] : List Value).toArray below meth cO TJ locsJ 6 29 → TJ.heap = hT → Fr n0 locsJ → Go p e below Fn Q TJ (mkF m 219 #[I x0, I x1, I x2, I x3, I m_, I n_, A b1, A b10, I a_, I b_, I 1, I 1, I (-1 : Int32), U, U, U, U] []) := by
  intro  TJ locsJ XJ eJ NJ 
  refine gl XJ hx 221 (B at_219) rfl rfl ?_
  refine gs XJ hx 223 #[I x0, I x1, I x2, I x3, I m_, I n_, A b1, A b10, I a_, I b_, I 1, I 1, I (-1 : Int32), I 1, U, U, U] (B at_221) rfl rfl ?_
  refine gl XJ hx 225 (B at_223) rfl rfl ?_
  refine gt XJ hx 336 (B at_225) (by decide) rfl ?_
  refine gk XJ hx 337 1 (B at_336) rfl rfl ?_
  refine gA XJ hx 339 (B at_337) rfl rfl rfl ?_
  refine gk XJ hx 340 0 (B at_339) rfl rfl ?_
  refine gl XJ hx 342 (B at_340) rfl rfl ?_
  refine gS XJ hx 345 hZ hown w119 w120 w3 w121 (by decide) [(.ref b1), (.int 0), (.int 1)] [(.int 1)] (re_0_t hw b1 (1 : Int32) c0 c1 c2 c3 kS hT n0 Z17 (by decide) V_b1) eJ 1 rfl (M rfl) (lenOf pd24 rfl) (B at_342) rfl rfl rfl (fun v T101 L X101 Y => ?_)
  obtain ⟨rfl, N101q, e101⟩ := Y
  have N101 := Fr.app NJ N101q
  refine gp X101 hx 346 ((1 : Int32) + (own_ea c0 (0 : Int32))) (B at_345) rfl rfl ?_
  refine gA X101 hx 348 (B at_346) rfl rfl rfl ?_
  refine gk X101 hx 349 1 (B at_348) rfl rfl ?_
  refine gl X101 hx 351 (B at_349) rfl rfl ?_
  refine gS X101 hx 354 hZ hown w119 w120 w3 w121 (by decide) [(.ref b1), (.int 1), (.int 1)] [(.int ((1 : Int32) + (own_ea c0 (0 : Int32))))] (re_1_f hw b1 (1 : Int32) hT n0 Z17 (by decide)) e101 1 rfl (M rfl) (lenOf pd24 rfl) (B at_351) rfl rfl rfl (fun v T102 L X102 Y => ?_)
  obtain ⟨rfl, N102q, e102⟩ := Y
  have N102 := Fr.app N101 N102q
  refine gp X102 hx 355 (((1 : Int32) + (own_ea c0 (0 : Int32))) + 0) (B at_354) rfl rfl ?_
  refine gA X102 hx 357 (B at_355) rfl rfl rfl ?_
  refine gk X102 hx 358 2 (B at_357) rfl rfl ?_
  refine gl X102 hx 360 (B at_358) rfl rfl ?_
  refine gS X102 hx 363 hZ hown w119 w120 w3 w121 (by decide) [(.ref b1), (.int 2), (.int 1)] [(.int (((1 : Int32) + (own_ea c0 (0 : Int32))) + 0))] (re_2_f hw b1 (1 : Int32) hT n0 Z17 (by decide)) e102 1 rfl (M rfl) (lenOf pd24 rfl) (B at_360) rfl rfl rfl (fun v T103 L X103 Y => ?_)
  obtain ⟨rfl, N103q, e103⟩ := Y
  have N103 := Fr.app N102 N103q
  refine gp X103 hx 364 ((((1 : Int32) + (own_ea c0 (0 : Int32))) + 0) + 0) (B at_363) rfl rfl ?_
  refine gA X103 hx 366 (B at_364) rfl rfl rfl ?_
  refine gk X103 hx 367 3 (B at_366) rfl rfl ?_
  refine gl X103 hx 369 (B at_367) rfl rfl ?_
  refine gS X103 hx 372 hZ hown w119 w120 w3 w121 (by decide) [(.ref b1), (.int 3), (.int 1)] [(.int ((((1 : Int32) + (own_ea c0 (0 : Int32))) + 0) + 0))] (re_3_f hw b1 (1 : Int32) hT n0 Z17 (by decide)) e103 1 rfl (M rfl) (lenOf pd24 rfl) (B at_369) rfl rfl rfl (fun v T104 L X104 Y => ?_)
  obtain ⟨rfl, N104q, e104⟩ := Y
  have N104 := Fr.app N103 N104q
  refine gp X104 hx 373 (((((1 : Int32) + (own_ea c0 (0 : Int32))) + 0) + 0) + 0) (B at_372) rfl rfl ?_
  refine gs X104 hx 375 _ (B at_373) rfl rfl ?_
  have t453_0 : ∀  (TJ : State) (locsJ : List Loc), Stand p l e room_1 s m ([(.int x0), (.int x1), (.int x2), (.int x3), (.int m_), (.int n_)] : List Value).toArray below meth cO TJ locsJ 6 29 → TJ.heap = hT → Fr n0 locsJ → (own_st c0 1 (0 : Int32)) = 0 → Go p e below Fn Q TJ (mkF m 453 #[I x0, I x1, I x2, I x3, I m_, I n_, A b1, A b10, I a_, I b_, I 1, I 1, I (-1 : Int32), I 1, I (((((1 : Int32) + (own_ea c0 (0 : Int32))) + 0) + 0) + 0), I 0, U] []) := by
   intro  TJ locsJ XJ eJ NJ hS
   refine gA XJ hx 455 (B at_453) rfl rfl rfl ?_
   refine gk XJ hx 456 0 (B at_455) rfl rfl ?_
   refine gV XJ hx 459 hZ hown w122 w123 w125 w124 w7 w126 (by decide) b10 E_b10 [(.int 0)] [] (pa_1 hw b10 cp bf c0 c1 c2 c3 kF hT n0 Z17 G_b10 g_cp E_b10 W17_countedPosition W17_limit W17_buf W17_pos W17_noLineEndFrom W17_counted E_cp Pl Pc Pa V_bf nc0 nc1 nc2 nc3 hc0 hc1 hc2 hc3) eJ 0 rfl (M rfl) (lenOf pd25 rfl) (B at_456) rfl rfl rfl (fun v T105 L X105 Y => ?_)
   obtain ⟨p_, rfl, N105q, Z105, E_p, Ql, Qc, Qa⟩ := Y
   have N105 := Fr.app NJ N105q
   refine g_astore X105 hx 461 #[I x0, I x1, I x2, I x3, I m_, I n_, A b1, A b10, I a_, I b_, I 1, I 1, I (-1 : Int32), I 1, I (((((1 : Int32) + (own_ea c0 (0 : Int32))) + 0) + 0) + 0), I 0, A p_] (B at_459) rfl rfl rfl ?_
   refine gl X105 hx 463 (B at_461) rfl rfl ?_
   refine gf X105 hx 466 (B at_463) (by decide) rfl ?_
   refine gA X105 hx 468 (B at_466) rfl rfl rfl ?_
   refine gV X105 hx 471 hZ hown w151 w152 w154 w153 w43 w155 (by decide) p_ E_p [] [] (rm28 hw p_ (own_step c0 0 (1 : Int64)) T105.heap n0 Z105 Ql) rfl 0 rfl (M rfl) (lenOf pd26 rfl) (B at_468) rfl rfl rfl (fun v T106 L X106 Y => ?_)
   obtain ⟨rfl, N106q, e106⟩ := Y
   have N106 := Fr.app N105 N106q
   refine gl X106 hx 473 (B at_471) rfl rfl ?_
   refine gL X106 hx 474 ((((((1 : Int32) + (own_ea c0 (0 : Int32))) + 0) + 0) + 0).toInt64) (B at_473) rfl rfl ?_
   refine gC X106 hx 475 (B at_474) rfl ?_
   have hk107 : (own_step c0 0 (1 : Int64)) = ((((((1 : Int32) + (own_ea c0 (0 : Int32))) + 0) + 0) + 0).toInt64) := own_fin_1 c0 c1 c2 c3
   refine gf X106 hx 478 (B at_475) (own_eqL hk107).2 rfl ?_
   refine gA X106 hx 480 (B at_478) rfl rfl rfl ?_
   refine gV X106 hx 483 hZ hown w156 w157 w159 w158 w43 w160 (by decide) p_ E_p [] [] (rm29 hw p_ (own_colf (1 : Int32) (own_st c0 1 (0 : Int32))) T105.heap n0 Z105 Qc) e106 0 rfl (M rfl) (lenOf pd26 rfl) (B at_480) rfl rfl rfl (fun v T108 L X108 Y => ?_)
   obtain ⟨rfl, N108q, e108⟩ := Y
   have N108 := Fr.app N106 N108q
   refine gl X108 hx 485 (B at_483) rfl rfl ?_
   refine gl X108 hx 487 (B at_485) rfl rfl ?_
   refine gm X108 hx 488 (1 : Int32) (B at_487) (by decide) rfl ?_
   refine gk X108 hx 489 1 (B at_488) rfl rfl ?_
   refine gp X108 hx 490 (2 : Int32) (B at_489) (by decide) rfl ?_
   refine gL X108 hx 491 (2 : Int64) (B at_490) (by decide) rfl ?_
   refine gC X108 hx 492 (B at_491) rfl ?_
   have hk109 : (own_colf (1 : Int32) (own_st c0 1 (0 : Int32))) = (2 : Int64) := by rw [hS]; decide
   refine gf X108 hx 495 (B at_492) (own_eqL hk109).2 rfl ?_
   refine gk X108 hx 496 1 (B at_495) rfl rfl ?_
   refine gg X108 hx 500 (B at_496) rfl ?_
   exact hG _ _ (g_retZ X108 hx hret hlk rfl (B at_500) (by decide) (by decide) ⟨rfl, N108⟩)
  have t453_1 : ∀  (TJ : State) (locsJ : List Loc), Stand p l e room_1 s m ([(.int x0), (.int x1), (.int x2), (.int x3), (.int m_), (.int n_)] : List Value).toArray below meth cO TJ locsJ 6 29 → TJ.heap = hT → Fr n0 locsJ → (own_st c0 1 (0 : Int32)) = 1 → Go p e below Fn Q TJ (mkF m 453 #[I x0, I x1, I x2, I x3, I m_, I n_, A b1, A b10, I a_, I b_, I 1, I 1, I (-1 : Int32), I 1, I (((((1 : Int32) + (own_ea c0 (0 : Int32))) + 0) + 0) + 0), I 1, U] []) := by
   intro  TJ locsJ XJ eJ NJ hS
   refine gA XJ hx 455 (B at_453) rfl rfl rfl ?_
   refine gk XJ hx 456 0 (B at_455) rfl rfl ?_
   refine gV XJ hx 459 hZ hown w122 w123 w125 w124 w7 w126 (by decide) b10 E_b10 [(.int 0)] [] (pa_1 hw b10 cp bf c0 c1 c2 c3 kF hT n0 Z17 G_b10 g_cp E_b10 W17_countedPosition W17_limit W17_buf W17_pos W17_noLineEndFrom W17_counted E_cp Pl Pc Pa V_bf nc0 nc1 nc2 nc3 hc0 hc1 hc2 hc3) eJ 0 rfl (M rfl) (lenOf pd25 rfl) (B at_456) rfl rfl rfl (fun v T110 L X110 Y => ?_)
   obtain ⟨p_, rfl, N110q, Z110, E_p, Ql, Qc, Qa⟩ := Y
   have N110 := Fr.app NJ N110q
   refine g_astore X110 hx 461 #[I x0, I x1, I x2, I x3, I m_, I n_, A b1, A b10, I a_, I b_, I 1, I 1, I (-1 : Int32), I 1, I (((((1 : Int32) + (own_ea c0 (0 : Int32))) + 0) + 0) + 0), I 1, A p_] (B at_459) rfl rfl rfl ?_
   refine gl X110 hx 463 (B at_461) rfl rfl ?_
   refine gf X110 hx 466 (B at_463) (by decide) rfl ?_
   refine gA X110 hx 468 (B at_466) rfl rfl rfl ?_
   refine gV X110 hx 471 hZ hown w151 w152 w154 w153 w43 w155 (by decide) p_ E_p [] [] (rm28 hw p_ (own_step c0 0 (1 : Int64)) T110.heap n0 Z110 Ql) rfl 0 rfl (M rfl) (lenOf pd26 rfl) (B at_468) rfl rfl rfl (fun v T111 L X111 Y => ?_)
   obtain ⟨rfl, N111q, e111⟩ := Y
   have N111 := Fr.app N110 N111q
   refine gl X111 hx 473 (B at_471) rfl rfl ?_
   refine gL X111 hx 474 ((((((1 : Int32) + (own_ea c0 (0 : Int32))) + 0) + 0) + 0).toInt64) (B at_473) rfl rfl ?_
   refine gC X111 hx 475 (B at_474) rfl ?_
   have hk112 : (own_step c0 0 (1 : Int64)) = ((((((1 : Int32) + (own_ea c0 (0 : Int32))) + 0) + 0) + 0).toInt64) := own_fin_1 c0 c1 c2 c3
   refine gf X111 hx 478 (B at_475) (own_eqL hk112).2 rfl ?_
   refine gA X111 hx 480 (B at_478) rfl rfl rfl ?_
   refine gV X111 hx 483 hZ hown w156 w157 w159 w158 w43 w160 (by decide) p_ E_p [] [] (rm29 hw p_ (own_colf (1 : Int32) (own_st c0 1 (0 : Int32))) T110.heap n0 Z110 Qc) e111 0 rfl (M rfl) (lenOf pd26 rfl) (B at_480) rfl rfl rfl (fun v T113 L X113 Y => ?_)
   obtain ⟨rfl, N113q, e113⟩ := Y
   have N113 := Fr.app N111 N113q
   refine gl X113 hx 485 (B at_483) rfl rfl ?_
   refine gl X113 hx 487 (B at_485) rfl rfl ?_
   refine gm X113 hx 488 (0 : Int32) (B at_487) (by decide) rfl ?_
   refine gk X113 hx 489 1 (B at_488) rfl rfl ?_
   refine gp X113 hx 490 (1 : Int32) (B at_489) (by decide) rfl ?_
   refine gL X113 hx 491 (1 : Int64) (B at_490) (by decide) rfl ?_
   refine gC X113 hx 492 (B at_491) rfl ?_
   have hk114 : (own_colf (1 : Int32) (own_st c0 1 (0 : Int32))) = (1 : Int64) := by rw [hS]; decide
   refine gf X113 hx 495 (B at_492) (own_eqL hk114).2 rfl ?_
   refine gk X113 hx 496 1 (B at_495) rfl rfl ?_
   refine gg X113 hx 500 (B at_496) rfl ?_
   exact hG _ _ (g_retZ X113 hx hret hlk rfl (B at_500) (by decide) (by decide) ⟨rfl, N113⟩)
  refine gk X104 hx 376 0 (B at_375) rfl rfl ?_
  refine gs X104 hx 378 #[I x0, I x1, I x2, I x3, I m_, I n_, A b1, A b10, I a_, I b_, I 1, I 1, I (-1 : Int32), I 1, I (((((1 : Int32) + (own_ea c0 (0 : Int32))) + 0) + 0) + 0), I 0, U] (B at_376) rfl rfl ?_
  refine gl X104 hx 380 (B at_378) rfl rfl ?_
  refine gf X104 hx 383 (B at_380) (by decide) rfl ?_
  refine gA X104 hx 385 (B at_383) rfl rfl rfl ?_
  refine gk X104 hx 386 0 (B at_385) rfl rfl ?_
  refine gc X104 hx 387 hZ e104 V_b1 c0 rfl rfl (B at_386) rfl ?_
  refine gS X104 hx 390 hZ hown w116 w117 w3 w118 (by decide) [(.int c0)] [] (rm21 hw c0 hT n0 Z17) e104 0 rfl (M rfl) (lenOf pd0 rfl) (B at_387) rfl rfl rfl (fun v T115 L X115 Y => ?_)
  obtain ⟨rfl, N115q, e115⟩ := Y
  have N115 := Fr.app N104 N115q
  by_cases hc116 : (own_term c0) = 0
  ·
   refine gt X115 hx 396 (B at_390) ((if0 _ _).trans (teq hc116).1) rfl ?_
   refine gl X115 hx 398 (B at_396) rfl rfl ?_
   refine gk X115 hx 399 1 (B at_398) rfl rfl ?_
   refine gT X115 hx 415 (B at_399) (by decide) rfl ?_
   refine gl X115 hx 417 (B at_415) rfl rfl ?_
   refine gk X115 hx 418 2 (B at_417) rfl rfl ?_
   refine gT X115 hx 434 (B at_418) (by decide) rfl ?_
   refine gl X115 hx 436 (B at_434) rfl rfl ?_
   refine gk X115 hx 437 3 (B at_436) rfl rfl ?_
   refine gT X115 hx 453 (B at_437) (by decide) rfl ?_
   exact t453_0 _ _ X115 e115 N115 (by simp [own_st, hc116])
  ·
   refine gf X115 hx 393 (B at_390) ((if0 _ _).trans (feq hc116).1) rfl ?_
   refine gk X115 hx 394 1 (B at_393) rfl rfl ?_
   refine gs X115 hx 396 _ (B at_394) rfl rfl ?_
   refine gl X115 hx 398 (B at_396) rfl rfl ?_
   refine gk X115 hx 399 1 (B at_398) rfl rfl ?_
   refine gT X115 hx 415 (B at_399) (by decide) rfl ?_
   refine gl X115 hx 417 (B at_415) rfl rfl ?_
   refine gk X115 hx 418 2 (B at_417) rfl rfl ?_
   refine gT X115 hx 434 (B at_418) (by decide) rfl ?_
   refine gl X115 hx 436 (B at_434) rfl rfl ?_
   refine gk X115 hx 437 3 (B at_436) rfl rfl ?_
   refine gT X115 hx 453 (B at_437) (by decide) rfl ?_
   exact t453_1 _ _ X115 e115 N115 (by simp [own_st, hc116])
 have t287_1 : ∀ (en : Int32) (TJ : State) (locsJ : List Loc), Stand p l e room_1 s m ([(.int x0), (.int x1), (.int x2), (.int x3), (.int m_), (.int n_)] : List Value).toArray below meth cO TJ locsJ 6 29 → TJ.heap = hT → Fr n0 locsJ → en = own_ea c1 c0 → ¬ own_term c1 = 0 → Go p e below Fn Q TJ (mkF m 287 #[I x0, I x1, I x2, I x3, I m_, I n_, A b1, A b10, I a_, I b_, I 1, I 1, I 1, I 1, I c0, I en, U] []) := by
  intro en TJ locsJ XJ eJ NJ hen te
  refine gA XJ hx 289 (B at_287) rfl rfl rfl ?_
  refine gl XJ hx 291 (B at_289) rfl rfl ?_
  refine gl XJ hx 293 (B at_291) rfl rfl ?_
  refine gm XJ hx 294 (0 : Int32) (B at_293) (by decide) rfl ?_
  refine gk XJ hx 295 1 (B at_294) rfl rfl ?_
  refine gp XJ hx 296 (1 : Int32) (B at_295) (by decide) rfl ?_
  refine gl XJ hx 298 (B at_296) rfl rfl ?_
  refine gl XJ hx 300 (B at_298) rfl rfl ?_
  refine gl XJ hx 302 (B at_300) rfl rfl ?_
  refine gm XJ hx 303 (0 : Int32) (B at_302) (by decide) rfl ?_
  refine gk XJ hx 304 1 (B at_303) rfl rfl ?_
  refine gp XJ hx 305 (1 : Int32) (B at_304) (by decide) rfl ?_
  refine gV XJ hx 308 hZ hown (W 168 rfl) (W 169 rfl) (W 171 rfl) (W 170 rfl) w7 (W 172 rfl) (by decide) b10 E_b10 [(.int 1), (.int en), (.int 1)] [] (mo_1_1 hw b10 cp bf en c0 c1 c2 c3 kF hT n0 Z17 G_b10 g_cp E_b10 W17_countedPosition W17_limit W17_buf W17_pos W17_noLineEndFrom W17_counted E_cp Pl Pc Pa V_bf nc0 nc1 nc2 nc3 hc0 hc1 hc2 hc3) eJ 0 rfl (M rfl) (lenOf pd11 rfl) (B at_305) rfl rfl rfl (fun v T117 L X117 Y => ?_)
  obtain ⟨rfl, N117q, K117, E117x, W117_countedPosition, W117_limit, W117_buf, W117_pos, W117_noLineEndFrom, W117_counted, E117y, Pl117, Pc117, Pa117⟩ := Y
  have N117 := Fr.app NJ N117q
  have V_b1 := V_b1.keep K117 (ninS ne_b1_b10 (ninS ne_u_cp nin0))
  have E_b10 := E_b10.keep K117
  have E_cp := E_cp.keep K117
  have V_bf := V_bf.keep K117 (ninS ne_bf_w (ninS ne_bf_cp nin0))
  have Z117 := Nat.le_trans Z17 K117.1
  refine gl X117 hx 310 (B at_308) rfl rfl ?_
  refine gk X117 hx 311 1 (B at_310) rfl rfl ?_
  refine gp X117 hx 312 (2 : Int32) (B at_311) (by decide) rfl ?_
  refine gs X117 hx 314 #[I x0, I x1, I x2, I x3, I m_, I n_, A b1, A b10, I a_, I b_, I 1, I 1, I 1, I 2, I c0, I en, U] (B at_312) rfl rfl ?_
  refine gl X117 hx 316 (B at_314) rfl rfl ?_
  refine gf X117 hx 319 (B at_316) (by decide) rfl ?_
  refine gA X117 hx 321 (B at_319) rfl rfl rfl ?_
  refine gG X117 hx 324 hZ hown (host := "") (Or.inl (W 114 rfl)) Via.refl rfl W117_pos (B at_321) rfl (fun T118 X118 e118 => ?_)
  refine gl X118 hx 326 (B at_324) rfl rfl ?_
  refine gF X118 hx 329 (B at_326) (by decide) rfl ?_
  refine gk X118 hx 330 1 (B at_329) rfl rfl ?_
  refine gg X118 hx 334 (B at_330) rfl ?_
  refine gs X118 hx 336 _ (B at_334) rfl rfl ?_
  refine gk X118 hx 337 1 (B at_336) rfl rfl ?_
  refine gA X118 hx 339 (B at_337) rfl rfl rfl ?_
  refine gk X118 hx 340 0 (B at_339) rfl rfl ?_
  refine gl X118 hx 342 (B at_340) rfl rfl ?_
  refine gS X118 hx 345 hZ hown w119 w120 w3 w121 (by decide) [(.ref b1), (.int 0), (.int 2)] [(.int 1)] (re_0_t hw b1 (2 : Int32) c0 c1 c2 c3 kS T117.heap n0 Z117 (by decide) V_b1) e118 1 rfl (M rfl) (lenOf pd24 rfl) (B at_342) rfl rfl rfl (fun v T119 L X119 Y => ?_)
  obtain ⟨rfl, N119q, e119⟩ := Y
  have N119 := Fr.app N117 N119q
  refine gp X119 hx 346 ((1 : Int32) + (own_ea c0 (0 : Int32))) (B at_345) rfl rfl ?_
  refine gA X119 hx 348 (B at_346) rfl rfl rfl ?_
  refine gk X119 hx 349 1 (B at_348) rfl rfl ?_
  refine gl X119 hx 351 (B at_349) rfl rfl ?_
  refine gS X119 hx 354 hZ hown w119 w120 w3 w121 (by decide) [(.ref b1), (.int 1), (.int 2)] [(.int ((1 : Int32) + (own_ea c0 (0 : Int32))))] (re_1_t hw b1 (2 : Int32) c0 c1 c2 c3 kS T117.heap n0 Z117 (by decide) V_b1) e119 1 rfl (M rfl) (lenOf pd24 rfl) (B at_351) rfl rfl rfl (fun v T120 L X120 Y => ?_)
  obtain ⟨rfl, N120q, e120⟩ := Y
  have N120 := Fr.app N119 N120q
  refine gp X120 hx 355 (((1 : Int32) + (own_ea c0 (0 : Int32))) + (own_ea c1 c0)) (B at_354) rfl rfl ?_
  refine gA X120 hx 357 (B at_355) rfl rfl rfl ?_
  refine gk X120 hx 358 2 (B at_357) rfl rfl ?_
  refine gl X120 hx 360 (B at_358) rfl rfl ?_
  refine gS X120 hx 363 hZ hown w119 w120 w3 w121 (by decide) [(.ref b1), (.int 2), (.int 2)] [(.int (((1 : Int32) + (own_ea c0 (0 : Int32))) + (own_ea c1 c0)))] (re_2_f hw b1 (2 : Int32) T117.heap n0 Z117 (by decide)) e120 1 rfl (M rfl) (lenOf pd24 rfl) (B at_360) rfl rfl rfl (fun v T121 L X121 Y => ?_)
  obtain ⟨rfl, N121q, e121⟩ := Y
  have N121 := Fr.app N120 N121q
  refine gp X121 hx 364 ((((1 : Int32) + (own_ea c0 (0 : Int32))) + (own_ea c1 c0)) + 0) (B at_363) rfl rfl ?_
  refine gA X121 hx 366 (B at_364) rfl rfl rfl ?_
  refine gk X121 hx 367 3 (B at_366) rfl rfl ?_
  refine gl X121 hx 369 (B at_367) rfl rfl ?_
  refine gS X121 hx 372 hZ hown w119 w120 w3 w121 (by decide) [(.ref b1), (.int 3), (.int 2)] [(.int ((((1 : Int32) + (own_ea c0 (0 : Int32))) + (own_ea c1 c0)) + 0))] (re_3_f hw b1 (2 : Int32) T117.heap n0 Z117 (by decide)) e121 1 rfl (M rfl) (lenOf pd24 rfl) (B at_369) rfl rfl rfl (fun v T122 L X122 Y => ?_)
  obtain ⟨rfl, N122q, e122⟩ := Y
  have N122 := Fr.app N121 N122q
  refine gp X122 hx 373 (((((1 : Int32) + (own_ea c0 (0 : Int32))) + (own_ea c1 c0)) + 0) + 0) (B at_372) rfl rfl ?_
  refine gs X122 hx 375 #[I x0, I x1, I x2, I x3, I m_, I n_, A b1, A b10, I a_, I b_, I 1, I 1, I 1, I 2, I (((((1 : Int32) + (own_ea c0 (0 : Int32))) + (own_ea c1 c0)) + 0) + 0), I en, U] (B at_373) rfl rfl ?_
  have t453 : ∀  (TJ : State) (locsJ : List Loc), Stand p l e room_1 s m ([(.int x0), (.int x1), (.int x2), (.int x3), (.int m_), (.int n_)] : List Value).toArray below meth cO TJ locsJ 6 29 → TJ.heap = T117.heap → Fr n0 locsJ → Go p e below Fn Q TJ (mkF m 453 #[I x0, I x1, I x2, I x3, I m_, I n_, A b1, A b10, I a_, I b_, I 1, I 1, I 1, I 2, I (((((1 : Int32) + (own_ea c0 (0 : Int32))) + (own_ea c1 c0)) + 0) + 0), I 2, U] []) := by
   intro  TJ locsJ XJ eJ NJ 
   refine gA XJ hx 455 (B at_453) rfl rfl rfl ?_
   refine gk XJ hx 456 0 (B at_455) rfl rfl ?_
   refine gV XJ hx 459 hZ hown w122 w123 w125 w124 w7 w126 (by decide) b10 E_b10 [(.int 0)] [] (pa_same hw b10 cp bf (2 : Int32) ((own_step c0 0 (1 : Int64)) + en.toInt64) (1 : Int64) c1 c0 c1 c2 c3 kF T117.heap n0 Z117 G_b10 g_cp E_b10 W117_countedPosition W117_limit W117_buf W117_pos W117_noLineEndFrom W117_counted E_cp Pl117 Pc117 Pa117 V_bf nc0 nc1 nc2 nc3 hc0 hc1 hc2 hc3 nc1) eJ 0 rfl (M rfl) (lenOf pd25 rfl) (B at_456) rfl rfl rfl (fun v T123 L X123 Y => ?_)
   obtain ⟨p_, rfl, N123q, Z123, E_p, Ql, Qc, Qa⟩ := Y
   have N123 := Fr.app NJ N123q
   refine g_astore X123 hx 461 _ (B at_459) rfl rfl rfl ?_
   refine gl X123 hx 463 (B at_461) rfl rfl ?_
   refine gf X123 hx 466 (B at_463) (by decide) rfl ?_
   refine gA X123 hx 468 (B at_466) rfl rfl rfl ?_
   refine gV X123 hx 471 hZ hown w151 w152 w154 w153 w43 w155 (by decide) p_ E_p [] [] (rm28 hw p_ ((own_step c0 0 (1 : Int64)) + en.toInt64) T123.heap n0 Z123 Ql) rfl 0 rfl (M rfl) (lenOf pd26 rfl) (B at_468) rfl rfl rfl (fun v T124 L X124 Y => ?_)
   obtain ⟨rfl, N124q, e124⟩ := Y
   have N124 := Fr.app N123 N124q
   refine gl X124 hx 473 (B at_471) rfl rfl ?_
   refine gL X124 hx 474 ((((((1 : Int32) + (own_ea c0 (0 : Int32))) + (own_ea c1 c0)) + 0) + 0).toInt64) (B at_473) rfl rfl ?_
   refine gC X124 hx 475 (B at_474) rfl ?_
   have hk125 : ((own_step c0 0 (1 : Int64)) + en.toInt64) = ((((((1 : Int32) + (own_ea c0 (0 : Int32))) + (own_ea c1 c0)) + 0) + 0).toInt64) := by rw [hen]; exact own_fin_1_1 c0 c1 c2 c3 
   refine gf X124 hx 478 (B at_475) (own_eqL hk125).2 rfl ?_
   refine gA X124 hx 480 (B at_478) rfl rfl rfl ?_
   refine gV X124 hx 483 hZ hown w156 w157 w159 w158 w43 w160 (by decide) p_ E_p [] [] (rm29 hw p_ (1 : Int64) T123.heap n0 Z123 Qc) e124 0 rfl (M rfl) (lenOf pd26 rfl) (B at_480) rfl rfl rfl (fun v T126 L X126 Y => ?_)
   obtain ⟨rfl, N126q, e126⟩ := Y
   have N126 := Fr.app N124 N126q
   refine gl X126 hx 485 (B at_483) rfl rfl ?_
   refine gl X126 hx 487 (B at_485) rfl rfl ?_
   refine gm X126 hx 488 (0 : Int32) (B at_487) (by decide) rfl ?_
   refine gk X126 hx 489 1 (B at_488) rfl rfl ?_
   refine gp X126 hx 490 (1 : Int32) (B at_489) (by decide) rfl ?_
   refine gL X126 hx 491 (1 : Int64) (B at_490) (by decide) rfl ?_
   refine gC X126 hx 492 (B at_491) rfl ?_
   refine gf X126 hx 495 (B at_492) (own_eqL rfl).2 rfl ?_
   refine gk X126 hx 496 1 (B at_495) rfl rfl ?_
   refine gg X126 hx 500 (B at_496) rfl ?_
   exact hG _ _ (g_retZ X126 hx hret hlk rfl (B at_500) (by decide) (by decide) ⟨rfl, N126⟩)
  refine gk X122 hx 376 0 (B at_375) rfl rfl ?_
  refine gs X122 hx 378 _ (B at_376) rfl rfl ?_
  refine gl X122 hx 380 (B at_378) rfl rfl ?_
  refine gf X122 hx 383 (B at_380) (by decide) rfl ?_
  refine gA X122 hx 385 (B at_383) rfl rfl rfl ?_
  refine gk X122 hx 386 0 (B at_385) rfl rfl ?_
  refine gc X122 hx 387 hZ e122 V_b1 c0 rfl rfl (B at_386) rfl ?_
  refine gS X122 hx 390 hZ hown w116 w117 w3 w118 (by decide) [(.int c0)] [] (rm21 hw c0 T117.heap n0 Z117) e122 0 rfl (M rfl) (lenOf pd0 rfl) (B at_387) rfl rfl rfl (fun v T127 L X127 Y => ?_)
  obtain ⟨rfl, N127q, e127⟩ := Y
  have N127 := Fr.app N122 N127q
  by_cases hc128 : (own_term c0) = 0
  ·
   refine gt X127 hx 396 (B at_390) ((if0 _ _).trans (teq hc128).1) rfl ?_
   refine gl X127 hx 398 (B at_396) rfl rfl ?_
   refine gk X127 hx 399 1 (B at_398) rfl rfl ?_
   refine gF X127 hx 402 (B at_399) (by decide) rfl ?_
   refine gA X127 hx 404 (B at_402) rfl rfl rfl ?_
   refine gk X127 hx 405 1 (B at_404) rfl rfl ?_
   refine gc X127 hx 406 hZ e127 V_b1 c1 rfl rfl (B at_405) rfl ?_
   refine gS X127 hx 409 hZ hown w116 w117 w3 w118 (by decide) [(.int c1)] [] (rm21 hw c1 T117.heap n0 Z117) e127 0 rfl (M rfl) (lenOf pd0 rfl) (B at_406) rfl rfl rfl (fun v T129 L X129 Y => ?_)
   obtain ⟨rfl, N129q, e129⟩ := Y
   have N129 := Fr.app N127 N129q
   have hk130 : ¬ ((own_term c1) = 0) := te
   refine gf X129 hx 412 (B at_409) ((if0 _ _).trans (feq hk130).1) rfl ?_
   refine gk X129 hx 413 2 (B at_412) rfl rfl ?_
   refine gs X129 hx 415 #[I x0, I x1, I x2, I x3, I m_, I n_, A b1, A b10, I a_, I b_, I 1, I 1, I 1, I 2, I (((((1 : Int32) + (own_ea c0 (0 : Int32))) + (own_ea c1 c0)) + 0) + 0), I 2, U] (B at_413) rfl rfl ?_
   refine gl X129 hx 417 (B at_415) rfl rfl ?_
   refine gk X129 hx 418 2 (B at_417) rfl rfl ?_
   refine gT X129 hx 434 (B at_418) (by decide) rfl ?_
   refine gl X129 hx 436 (B at_434) rfl rfl ?_
   refine gk X129 hx 437 3 (B at_436) rfl rfl ?_
   refine gT X129 hx 453 (B at_437) (by decide) rfl ?_
   exact t453 _ _ X129 e129 N129
  ·
   refine gf X127 hx 393 (B at_390) ((if0 _ _).trans (feq hc128).1) rfl ?_
   refine gk X127 hx 394 1 (B at_393) rfl rfl ?_
   refine gs X127 hx 396 #[I x0, I x1, I x2, I x3, I m_, I n_, A b1, A b10, I a_, I b_, I 1, I 1, I 1, I 2, I (((((1 : Int32) + (own_ea c0 (0 : Int32))) + (own_ea c1 c0)) + 0) + 0), I 1, U] (B at_394) rfl rfl ?_
   refine gl X127 hx 398 (B at_396) rfl rfl ?_
   refine gk X127 hx 399 1 (B at_398) rfl rfl ?_
   refine gF X127 hx 402 (B at_399) (by decide) rfl ?_
   refine gA X127 hx 404 (B at_402) rfl rfl rfl ?_
   refine gk X127 hx 405 1 (B at_404) rfl rfl ?_
   refine gc X127 hx 406 hZ e127 V_b1 c1 rfl rfl (B at_405) rfl ?_
   refine gS X127 hx 409 hZ hown w116 w117 w3 w118 (by decide) [(.int c1)] [] (rm21 hw c1 T117.heap n0 Z117) e127 0 rfl (M rfl) (lenOf pd0 rfl) (B at_406) rfl rfl rfl (fun v T131 L X131 Y => ?_)
   obtain ⟨rfl, N131q, e131⟩ := Y
   have N131 := Fr.app N127 N131q
   have hk132 : ¬ ((own_term c1) = 0) := te
   refine gf X131 hx 412 (B at_409) ((if0 _ _).trans (feq hk132).1) rfl ?_
   refine gk X131 hx 413 2 (B at_412) rfl rfl ?_
   refine gs X131 hx 415 _ (B at_413) rfl rfl ?_
   refine gl X131 hx 417 (B at_415) rfl rfl ?_
   refine gk X131 hx 418 2 (B at_417) rfl rfl ?_
   refine gT X131 hx 434 (B at_418) (by decide) rfl ?_
   refine gl X131 hx 436 (B at_434) rfl rfl ?_
   refine gk X131 hx 437 3 (B at_436) rfl rfl ?_
   refine gT X131 hx 453 (B at_437) (by decide) rfl ?_
   exact t453 _ _ X131 e131 N131
 have t219_1 : ∀  (TJ : State) (locsJ : List Loc), Stand p l e room_1 s m ([(.int x0), (.int x1), (.int x2), (.int x3), (.int m_), (.int n_)] : List Value).toArray below meth cO TJ locsJ 6 29 → TJ.heap = hT → Fr n0 locsJ → ¬ own_term c1 = 0 → Go p e below Fn Q TJ (mkF m 219 #[I x0, I x1, I x2, I x3, I m_, I n_, A b1, A b10, I a_, I b_, I 1, I 1, I 1, U, U, U, U] []) := by
  intro  TJ locsJ XJ eJ NJ te
  refine gl XJ hx 221 (B at_219) rfl rfl ?_
  refine gs XJ hx 223 #[I x0, I x1, I x2, I x3, I m_, I n_, A b1, A b10, I a_, I b_, I 1, I 1, I 1, I 1, U, U, U] (B at_221) rfl rfl ?_
  refine gl XJ hx 225 (B at_223) rfl rfl ?_
  refine gf XJ hx 228 (B at_225) (by decide) rfl ?_
  refine gl XJ hx 230 (B at_228) rfl rfl ?_
  refine gl XJ hx 232 (B at_230) rfl rfl ?_
  refine gT XJ hx 245 (B at_232) (by decide) rfl ?_
  refine gl XJ hx 247 (B at_245) rfl rfl ?_
  refine gf XJ hx 250 (B at_247) (by decide) rfl ?_
  refine gA XJ hx 252 (B at_250) rfl rfl rfl ?_
  refine gl XJ hx 254 (B at_252) rfl rfl ?_
  refine gk XJ hx 255 1 (B at_254) rfl rfl ?_
  refine gm XJ hx 256 (0 : Int32) (B at_255) (by decide) rfl ?_
  refine gc XJ hx 257 hZ eJ V_b1 c0 rfl rfl (B at_256) rfl ?_
  refine gg XJ hx 261 (B at_257) rfl ?_
  refine gs XJ hx 263 _ (B at_261) rfl rfl ?_
  refine gA XJ hx 265 (B at_263) rfl rfl rfl ?_
  refine gl XJ hx 267 (B at_265) rfl rfl ?_
  refine gc XJ hx 268 hZ eJ V_b1 c1 rfl rfl (B at_267) rfl ?_
  refine gb XJ hx 270 13 (B at_268) rfl rfl ?_
  by_cases hc133 : c1 = 13
  ·
   refine gT XJ hx 280 (B at_270) (teq hc133).1 rfl ?_
   refine gk XJ hx 281 1 (B at_280) rfl rfl ?_
   refine gg XJ hx 285 (B at_281) rfl ?_
   refine gs XJ hx 287 #[I x0, I x1, I x2, I x3, I m_, I n_, A b1, A b10, I a_, I b_, I 1, I 1, I 1, I 1, I c0, I 1, U] (B at_285) rfl rfl ?_
   exact t287_1 (1 : Int32) _ _ XJ eJ NJ (by unfold own_ea; rw [if_neg te, if_pos hc133]) te 
  ·
   refine gF XJ hx 273 (B at_270) (feq hc133).1 rfl ?_
   refine gl XJ hx 275 (B at_273) rfl rfl ?_
   refine gb XJ hx 277 13 (B at_275) rfl rfl ?_
   by_cases hc134 : c0 = 13
   ·
    refine gT XJ hx 284 (B at_277) (teq hc134).1 rfl ?_
    refine gk XJ hx 285 0 (B at_284) rfl rfl ?_
    refine gs XJ hx 287 #[I x0, I x1, I x2, I x3, I m_, I n_, A b1, A b10, I a_, I b_, I 1, I 1, I 1, I 1, I c0, I 0, U] (B at_285) rfl rfl ?_
    exact t287_1 (0 : Int32) _ _ XJ eJ NJ (by unfold own_ea; rw [if_neg te, if_neg hc133, if_pos hc134]) te 
   ·
    refine gF XJ hx 280 (B at_277) (feq hc134).1 rfl ?_
    refine gk XJ hx 281 1 (B at_280) rfl rfl ?_
    refine gg XJ hx 285 (B at_281) rfl ?_
    refine gs XJ hx 287 #[I x0, I x1, I x2, I x3, I m_, I n_, A b1, A b10, I a_, I b_, I 1, I 1, I 1, I 1, I c0, I 1, U] (B at_285) rfl rfl ?_
    exact t287_1 (1 : Int32) _ _ XJ eJ NJ (by unfold own_ea; rw [if_neg te, if_neg hc133, if_neg hc134]) te 
 have t287_2 : ∀ (en : Int32) (TJ : State) (locsJ : List Loc), Stand p l e room_1 s m ([(.int x0), (.int x1), (.int x2), (.int x3), (.int m_), (.int n_)] : List Value).toArray below meth cO TJ locsJ 6 29 → TJ.heap = hT → Fr n0 locsJ → en = own_ea c2 c1 → ¬ own_term c2 = 0 → own_term c1 = 0 → Go p e below Fn Q TJ (mkF m 287 #[I x0, I x1, I x2, I x3, I m_, I n_, A b1, A b10, I a_, I b_, I 1, I 1, I 2, I 1, I c1, I en, U] []) := by
  intro en TJ locsJ XJ eJ NJ hen te z1
  refine gA XJ hx 289 (B at_287) rfl rfl rfl ?_
  refine gl XJ hx 291 (B at_289) rfl rfl ?_
  refine gl XJ hx 293 (B at_291) rfl rfl ?_
  refine gm XJ hx 294 (1 : Int32) (B at_293) (by decide) rfl ?_
  refine gk XJ hx 295 1 (B at_294) rfl rfl ?_
  refine gp XJ hx 296 (2 : Int32) (B at_295) (by decide) rfl ?_
  refine gl XJ hx 298 (B at_296) rfl rfl ?_
  refine gl XJ hx 300 (B at_298) rfl rfl ?_
  refine gl XJ hx 302 (B at_300) rfl rfl ?_
  refine gm XJ hx 303 (1 : Int32) (B at_302) (by decide) rfl ?_
  refine gk XJ hx 304 1 (B at_303) rfl rfl ?_
  refine gp XJ hx 305 (2 : Int32) (B at_304) (by decide) rfl ?_
  refine gV XJ hx 308 hZ hown (W 168 rfl) (W 169 rfl) (W 171 rfl) (W 170 rfl) w7 (W 172 rfl) (by decide) b10 E_b10 [(.int 2), (.int en), (.int 2)] [] (mo_1_2 hw b10 cp bf en c0 c1 c2 c3 kF hT n0 Z17 G_b10 g_cp E_b10 W17_countedPosition W17_limit W17_buf W17_pos W17_noLineEndFrom W17_counted E_cp Pl Pc Pa V_bf nc0 nc1 nc2 nc3 hc0 hc1 hc2 hc3) eJ 0 rfl (M rfl) (lenOf pd11 rfl) (B at_305) rfl rfl rfl (fun v T135 L X135 Y => ?_)
  obtain ⟨rfl, N135q, K135, E135x, W135_countedPosition, W135_limit, W135_buf, W135_pos, W135_noLineEndFrom, W135_counted, E135y, Pl135, Pc135, Pa135⟩ := Y
  have N135 := Fr.app NJ N135q
  have V_b1 := V_b1.keep K135 (ninS ne_b1_b10 (ninS ne_u_cp nin0))
  have E_b10 := E_b10.keep K135
  have E_cp := E_cp.keep K135
  have V_bf := V_bf.keep K135 (ninS ne_bf_w (ninS ne_bf_cp nin0))
  have Z135 := Nat.le_trans Z17 K135.1
  refine gl X135 hx 310 (B at_308) rfl rfl ?_
  refine gk X135 hx 311 1 (B at_310) rfl rfl ?_
  refine gp X135 hx 312 (3 : Int32) (B at_311) (by decide) rfl ?_
  refine gs X135 hx 314 #[I x0, I x1, I x2, I x3, I m_, I n_, A b1, A b10, I a_, I b_, I 1, I 1, I 2, I 3, I c1, I en, U] (B at_312) rfl rfl ?_
  refine gl X135 hx 316 (B at_314) rfl rfl ?_
  refine gf X135 hx 319 (B at_316) (by decide) rfl ?_
  refine gA X135 hx 321 (B at_319) rfl rfl rfl ?_
  refine gG X135 hx 324 hZ hown (host := "") (Or.inl (W 114 rfl)) Via.refl rfl W135_pos (B at_321) rfl (fun T136 X136 e136 => ?_)
  refine gl X136 hx 326 (B at_324) rfl rfl ?_
  refine gF X136 hx 329 (B at_326) (by decide) rfl ?_
  refine gk X136 hx 330 1 (B at_329) rfl rfl ?_
  refine gg X136 hx 334 (B at_330) rfl ?_
  refine gs X136 hx 336 _ (B at_334) rfl rfl ?_
  refine gk X136 hx 337 1 (B at_336) rfl rfl ?_
  refine gA X136 hx 339 (B at_337) rfl rfl rfl ?_
  refine gk X136 hx 340 0 (B at_339) rfl rfl ?_
  refine gl X136 hx 342 (B at_340) rfl rfl ?_
  refine gS X136 hx 345 hZ hown w119 w120 w3 w121 (by decide) [(.ref b1), (.int 0), (.int 3)] [(.int 1)] (re_0_t hw b1 (3 : Int32) c0 c1 c2 c3 kS T135.heap n0 Z135 (by decide) V_b1) e136 1 rfl (M rfl) (lenOf pd24 rfl) (B at_342) rfl rfl rfl (fun v T137 L X137 Y => ?_)
  obtain ⟨rfl, N137q, e137⟩ := Y
  have N137 := Fr.app N135 N137q
  refine gp X137 hx 346 ((1 : Int32) + (own_ea c0 (0 : Int32))) (B at_345) rfl rfl ?_
  refine gA X137 hx 348 (B at_346) rfl rfl rfl ?_
  refine gk X137 hx 349 1 (B at_348) rfl rfl ?_
  refine gl X137 hx 351 (B at_349) rfl rfl ?_
  refine gS X137 hx 354 hZ hown w119 w120 w3 w121 (by decide) [(.ref b1), (.int 1), (.int 3)] [(.int ((1 : Int32) + (own_ea c0 (0 : Int32))))] (re_1_t hw b1 (3 : Int32) c0 c1 c2 c3 kS T135.heap n0 Z135 (by decide) V_b1) e137 1 rfl (M rfl) (lenOf pd24 rfl) (B at_351) rfl rfl rfl (fun v T138 L X138 Y => ?_)
  obtain ⟨rfl, N138q, e138⟩ := Y
  have N138 := Fr.app N137 N138q
  refine gp X138 hx 355 (((1 : Int32) + (own_ea c0 (0 : Int32))) + (own_ea c1 c0)) (B at_354) rfl rfl ?_
  refine gA X138 hx 357 (B at_355) rfl rfl rfl ?_
  refine gk X138 hx 358 2 (B at_357) rfl rfl ?_
  refine gl X138 hx 360 (B at_358) rfl rfl ?_
  refine gS X138 hx 363 hZ hown w119 w120 w3 w121 (by decide) [(.ref b1), (.int 2), (.int 3)] [(.int (((1 : Int32) + (own_ea c0 (0 : Int32))) + (own_ea c1 c0)))] (re_2_t hw b1 (3 : Int32) c0 c1 c2 c3 kS T135.heap n0 Z135 (by decide) V_b1) e138 1 rfl (M rfl) (lenOf pd24 rfl) (B at_360) rfl rfl rfl (fun v T139 L X139 Y => ?_)
  obtain ⟨rfl, N139q, e139⟩ := Y
  have N139 := Fr.app N138 N139q
  refine gp X139 hx 364 ((((1 : Int32) + (own_ea c0 (0 : Int32))) + (own_ea c1 c0)) + (own_ea c2 c1)) (B at_363) rfl rfl ?_
  refine gA X139 hx 366 (B at_364) rfl rfl rfl ?_
  refine gk X139 hx 367 3 (B at_366) rfl rfl ?_
  refine gl X139 hx 369 (B at_367) rfl rfl ?_
  refine gS X139 hx 372 hZ hown w119 w120 w3 w121 (by decide) [(.ref b1), (.int 3), (.int 3)] [(.int ((((1 : Int32) + (own_ea c0 (0 : Int32))) + (own_ea c1 c0)) + (own_ea c2 c1)))] (re_3_f hw b1 (3 : Int32) T135.heap n0 Z135 (by decide)) e139 1 rfl (M rfl) (lenOf pd24 rfl) (B at_369) rfl rfl rfl (fun v T140 L X140 Y => ?_)
  obtain ⟨rfl, N140q, e140⟩ := Y
  have N140 := Fr.app N139 N140q
  refine gp X140 hx 373 (((((1 : Int32) + (own_ea c0 (0 : Int32))) + (own_ea c1 c0)) + (own_ea c2 c1)) + 0) (B at_372) rfl rfl ?_
  refine gs X140 hx 375 #[I x0, I x1, I x2, I x3, I m_, I n_, A b1, A b10, I a_, I b_, I 1, I 1, I 2, I 3, I (((((1 : Int32) + (own_ea c0 (0 : Int32))) + (own_ea c1 c0)) + (own_ea c2 c1)) + 0), I en, U] (B at_373) rfl rfl ?_
  have t453 : ∀  (TJ : State) (locsJ : List Loc), Stand p l e room_1 s m ([(.int x0), (.int x1), (.int x2), (.int x3), (.int m_), (.int n_)] : List Value).toArray below meth cO TJ locsJ 6 29 → TJ.heap = T135.heap → Fr n0 locsJ → Go p e below Fn Q TJ (mkF m 453 #[I x0, I x1, I x2, I x3, I m_, I n_, A b1, A b10, I a_, I b_, I 1, I 1, I 2, I 3, I (((((1 : Int32) + (own_ea c0 (0 : Int32))) + (own_ea c1 c0)) + (own_ea c2 c1)) + 0), I 3, U] []) := by
   intro  TJ locsJ XJ eJ NJ 
   refine gA XJ hx 455 (B at_453) rfl rfl rfl ?_
   refine gk XJ hx 456 0 (B at_455) rfl rfl ?_
   refine gV XJ hx 459 hZ hown w122 w123 w125 w124 w7 w126 (by decide) b10 E_b10 [(.int 0)] [] (pa_same hw b10 cp bf (3 : Int32) ((own_step c0 0 (1 : Int64)) + en.toInt64) (1 : Int64) c2 c0 c1 c2 c3 kF T135.heap n0 Z135 G_b10 g_cp E_b10 W135_countedPosition W135_limit W135_buf W135_pos W135_noLineEndFrom W135_counted E_cp Pl135 Pc135 Pa135 V_bf nc0 nc1 nc2 nc3 hc0 hc1 hc2 hc3 nc2) eJ 0 rfl (M rfl) (lenOf pd25 rfl) (B at_456) rfl rfl rfl (fun v T141 L X141 Y => ?_)
   obtain ⟨p_, rfl, N141q, Z141, E_p, Ql, Qc, Qa⟩ := Y
   have N141 := Fr.app NJ N141q
   refine g_astore X141 hx 461 _ (B at_459) rfl rfl rfl ?_
   refine gl X141 hx 463 (B at_461) rfl rfl ?_
   refine gf X141 hx 466 (B at_463) (by decide) rfl ?_
   refine gA X141 hx 468 (B at_466) rfl rfl rfl ?_
   refine gV X141 hx 471 hZ hown w151 w152 w154 w153 w43 w155 (by decide) p_ E_p [] [] (rm28 hw p_ ((own_step c0 0 (1 : Int64)) + en.toInt64) T141.heap n0 Z141 Ql) rfl 0 rfl (M rfl) (lenOf pd26 rfl) (B at_468) rfl rfl rfl (fun v T142 L X142 Y => ?_)
   obtain ⟨rfl, N142q, e142⟩ := Y
   have N142 := Fr.app N141 N142q
   refine gl X142 hx 473 (B at_471) rfl rfl ?_
   refine gL X142 hx 474 ((((((1 : Int32) + (own_ea c0 (0 : Int32))) + (own_ea c1 c0)) + (own_ea c2 c1)) + 0).toInt64) (B at_473) rfl rfl ?_
   refine gC X142 hx 475 (B at_474) rfl ?_
   have hk143 : ((own_step c0 0 (1 : Int64)) + en.toInt64) = ((((((1 : Int32) + (own_ea c0 (0 : Int32))) + (own_ea c1 c0)) + (own_ea c2 c1)) + 0).toInt64) := by rw [hen]; exact own_fin_1_2 c0 c1 c2 c3 z1
   refine gf X142 hx 478 (B at_475) (own_eqL hk143).2 rfl ?_
   refine gA X142 hx 480 (B at_478) rfl rfl rfl ?_
   refine gV X142 hx 483 hZ hown w156 w157 w159 w158 w43 w160 (by decide) p_ E_p [] [] (rm29 hw p_ (1 : Int64) T141.heap n0 Z141 Qc) e142 0 rfl (M rfl) (lenOf pd26 rfl) (B at_480) rfl rfl rfl (fun v T144 L X144 Y => ?_)
   obtain ⟨rfl, N144q, e144⟩ := Y
   have N144 := Fr.app N142 N144q
   refine gl X144 hx 485 (B at_483) rfl rfl ?_
   refine gl X144 hx 487 (B at_485) rfl rfl ?_
   refine gm X144 hx 488 (0 : Int32) (B at_487) (by decide) rfl ?_
   refine gk X144 hx 489 1 (B at_488) rfl rfl ?_
   refine gp X144 hx 490 (1 : Int32) (B at_489) (by decide) rfl ?_
   refine gL X144 hx 491 (1 : Int64) (B at_490) (by decide) rfl ?_
   refine gC X144 hx 492 (B at_491) rfl ?_
   refine gf X144 hx 495 (B at_492) (own_eqL rfl).2 rfl ?_
   refine gk X144 hx 496 1 (B at_495) rfl rfl ?_
   refine gg X144 hx 500 (B at_496) rfl ?_
   exact hG _ _ (g_retZ X144 hx hret hlk rfl (B at_500) (by decide) (by decide) ⟨rfl, N144⟩)
  refine gk X140 hx 376 0 (B at_375) rfl rfl ?_
  refine gs X140 hx 378 _ (B at_376) rfl rfl ?_
  refine gl X140 hx 380 (B at_378) rfl rfl ?_
  refine gf X140 hx 383 (B at_380) (by decide) rfl ?_
  refine gA X140 hx 385 (B at_383) rfl rfl rfl ?_
  refine gk X140 hx 386 0 (B at_385) rfl rfl ?_
  refine gc X140 hx 387 hZ e140 V_b1 c0 rfl rfl (B at_386) rfl ?_
  refine gS X140 hx 390 hZ hown w116 w117 w3 w118 (by decide) [(.int c0)] [] (rm21 hw c0 T135.heap n0 Z135) e140 0 rfl (M rfl) (lenOf pd0 rfl) (B at_387) rfl rfl rfl (fun v T145 L X145 Y => ?_)
  obtain ⟨rfl, N145q, e145⟩ := Y
  have N145 := Fr.app N140 N145q
  by_cases hc146 : (own_term c0) = 0
  ·
   refine gt X145 hx 396 (B at_390) ((if0 _ _).trans (teq hc146).1) rfl ?_
   refine gl X145 hx 398 (B at_396) rfl rfl ?_
   refine gk X145 hx 399 1 (B at_398) rfl rfl ?_
   refine gF X145 hx 402 (B at_399) (by decide) rfl ?_
   refine gA X145 hx 404 (B at_402) rfl rfl rfl ?_
   refine gk X145 hx 405 1 (B at_404) rfl rfl ?_
   refine gc X145 hx 406 hZ e145 V_b1 c1 rfl rfl (B at_405) rfl ?_
   refine gS X145 hx 409 hZ hown w116 w117 w3 w118 (by decide) [(.int c1)] [] (rm21 hw c1 T135.heap n0 Z135) e145 0 rfl (M rfl) (lenOf pd0 rfl) (B at_406) rfl rfl rfl (fun v T147 L X147 Y => ?_)
   obtain ⟨rfl, N147q, e147⟩ := Y
   have N147 := Fr.app N145 N147q
   have hk148 : (own_term c1) = 0 := z1
   refine gt X147 hx 415 (B at_409) ((if0 _ _).trans (teq hk148).1) rfl ?_
   refine gl X147 hx 417 (B at_415) rfl rfl ?_
   refine gk X147 hx 418 2 (B at_417) rfl rfl ?_
   refine gF X147 hx 421 (B at_418) (by decide) rfl ?_
   refine gA X147 hx 423 (B at_421) rfl rfl rfl ?_
   refine gk X147 hx 424 2 (B at_423) rfl rfl ?_
   refine gc X147 hx 425 hZ e147 V_b1 c2 rfl rfl (B at_424) rfl ?_
   refine gS X147 hx 428 hZ hown w116 w117 w3 w118 (by decide) [(.int c2)] [] (rm21 hw c2 T135.heap n0 Z135) e147 0 rfl (M rfl) (lenOf pd0 rfl) (B at_425) rfl rfl rfl (fun v T149 L X149 Y => ?_)
   obtain ⟨rfl, N149q, e149⟩ := Y
   have N149 := Fr.app N147 N149q
   have hk150 : ¬ ((own_term c2) = 0) := te
   refine gf X149 hx 431 (B at_428) ((if0 _ _).trans (feq hk150).1) rfl ?_
   refine gk X149 hx 432 3 (B at_431) rfl rfl ?_
   refine gs X149 hx 434 #[I x0, I x1, I x2, I x3, I m_, I n_, A b1, A b10, I a_, I b_, I 1, I 1, I 2, I 3, I (((((1 : Int32) + (own_ea c0 (0 : Int32))) + (own_ea c1 c0)) + (own_ea c2 c1)) + 0), I 3, U] (B at_432) rfl rfl ?_
   refine gl X149 hx 436 (B at_434) rfl rfl ?_
   refine gk X149 hx 437 3 (B at_436) rfl rfl ?_
   refine gT X149 hx 453 (B at_437) (by decide) rfl ?_
   exact t453 _ _ X149 e149 N149
  ·
   refine gf X145 hx 393 (B at_390) ((if0 _ _).trans (feq hc146).1) rfl ?_
   refine gk X145 hx 394 1 (B at_393) rfl rfl ?_
   refine gs X145 hx 396 #[I x0, I x1, I x2, I x3, I m_, I n_, A b1, A b10, I a_, I b_, I 1, I 1, I 2, I 3, I (((((1 : Int32) + (own_ea c0 (0 : Int32))) + (own_ea c1 c0)) + (own_ea c2 c1)) + 0), I 1, U] (B at_394) rfl rfl ?_
   refine gl X145 hx 398 (B at_396) rfl rfl ?_
   refine gk X145 hx 399 1 (B at_398) rfl rfl ?_
   refine gF X145 hx 402 (B at_399) (by decide) rfl ?_
   refine gA X145 hx 404 (B at_402) rfl rfl rfl ?_
   refine gk X145 hx 405 1 (B at_404) rfl rfl ?_
   refine gc X145 hx 406 hZ e145 V_b1 c1 rfl rfl (B at_405) rfl ?_
   refine gS X145 hx 409 hZ hown w116 w117 w3 w118 (by decide) [(.int c1)] [] (rm21 hw c1 T135.heap n0 Z135) e145 0 rfl (M rfl) (lenOf pd0 rfl) (B at_406) rfl rfl rfl (fun v T151 L X151 Y => ?_)
   obtain ⟨rfl, N151q, e151⟩ := Y
   have N151 := Fr.app N145 N151q
   have hk152 : (own_term c1) = 0 := z1
   refine gt X151 hx 415 (B at_409) ((if0 _ _).trans (teq hk152).1) rfl ?_
   refine gl X151 hx 417 (B at_415) rfl rfl ?_
   refine gk X151 hx 418 2 (B at_417) rfl rfl ?_
   refine gF X151 hx 421 (B at_418) (by decide) rfl ?_
   refine gA X151 hx 423 (B at_421) rfl rfl rfl ?_
   refine gk X151 hx 424 2 (B at_423) rfl rfl ?_
   refine gc X151 hx 425 hZ e151 V_b1 c2 rfl rfl (B at_424) rfl ?_
   refine gS X151 hx 428 hZ hown w116 w117 w3 w118 (by decide) [(.int c2)] [] (rm21 hw c2 T135.heap n0 Z135) e151 0 rfl (M rfl) (lenOf pd0 rfl) (B at_425) rfl rfl rfl (fun v T153 L X153 Y => ?_)
   obtain ⟨rfl, N153q, e153⟩ := Y
   have N153 := Fr.app N151 N153q
   have hk154 : ¬ ((own_term c2) = 0) := te
   refine gf X153 hx 431 (B at_428) ((if0 _ _).trans (feq hk154).1) rfl ?_
   refine gk X153 hx 432 3 (B at_431) rfl rfl ?_
   refine gs X153 hx 434 _ (B at_432) rfl rfl ?_
   refine gl X153 hx 436 (B at_434) rfl rfl ?_
   refine gk X153 hx 437 3 (B at_436) rfl rfl ?_
   refine gT X153 hx 453 (B at_437) (by decide) rfl ?_
   exact t453 _ _ X153 e153 N153
 have t219_2 : ∀  (TJ : State) (locsJ : List Loc), Stand p l e room_1 s m ([(.int x0), (.int x1), (.int x2), (.int x3), (.int m_), (.int n_)] : List Value).toArray below meth cO TJ locsJ 6 29 → TJ.heap = hT → Fr n0 locsJ → ¬ own_term c2 = 0 → own_term c1 = 0 → Go p e below Fn Q TJ (mkF m 219 #[I x0, I x1, I x2, I x3, I m_, I n_, A b1, A b10, I a_, I b_, I 1, I 1, I 2, U, U, U, U] []) := by
  intro  TJ locsJ XJ eJ NJ te z1
  refine gl XJ hx 221 (B at_219) rfl rfl ?_
  refine gs XJ hx 223 #[I x0, I x1, I x2, I x3, I m_, I n_, A b1, A b10, I a_, I b_, I 1, I 1, I 2, I 1, U, U, U] (B at_221) rfl rfl ?_
  refine gl XJ hx 225 (B at_223) rfl rfl ?_
  refine gf XJ hx 228 (B at_225) (by decide) rfl ?_
  refine gl XJ hx 230 (B at_228) rfl rfl ?_
  refine gl XJ hx 232 (B at_230) rfl rfl ?_
  refine gF XJ hx 235 (B at_232) (by decide) rfl ?_
  refine gA XJ hx 237 (B at_235) rfl rfl rfl ?_
  refine gl XJ hx 239 (B at_237) rfl rfl ?_
  refine gk XJ hx 240 1 (B at_239) rfl rfl ?_
  refine gm XJ hx 241 (1 : Int32) (B at_240) (by decide) rfl ?_
  refine gc XJ hx 242 hZ eJ V_b1 c1 rfl rfl (B at_241) rfl ?_
  refine gg XJ hx 261 (B at_242) rfl ?_
  refine gs XJ hx 263 _ (B at_261) rfl rfl ?_
  refine gA XJ hx 265 (B at_263) rfl rfl rfl ?_
  refine gl XJ hx 267 (B at_265) rfl rfl ?_
  refine gc XJ hx 268 hZ eJ V_b1 c2 rfl rfl (B at_267) rfl ?_
  refine gb XJ hx 270 13 (B at_268) rfl rfl ?_
  by_cases hc155 : c2 = 13
  ·
   refine gT XJ hx 280 (B at_270) (teq hc155).1 rfl ?_
   refine gk XJ hx 281 1 (B at_280) rfl rfl ?_
   refine gg XJ hx 285 (B at_281) rfl ?_
   refine gs XJ hx 287 #[I x0, I x1, I x2, I x3, I m_, I n_, A b1, A b10, I a_, I b_, I 1, I 1, I 2, I 1, I c1, I 1, U] (B at_285) rfl rfl ?_
   exact t287_2 (1 : Int32) _ _ XJ eJ NJ (by unfold own_ea; rw [if_neg te, if_pos hc155]) te z1
  ·
   refine gF XJ hx 273 (B at_270) (feq hc155).1 rfl ?_
   refine gl XJ hx 275 (B at_273) rfl rfl ?_
   refine gb XJ hx 277 13 (B at_275) rfl rfl ?_
   by_cases hc156 : c1 = 13
   ·
    refine gT XJ hx 284 (B at_277) (teq hc156).1 rfl ?_
    refine gk XJ hx 285 0 (B at_284) rfl rfl ?_
    refine gs XJ hx 287 #[I x0, I x1, I x2, I x3, I m_, I n_, A b1, A b10, I a_, I b_, I 1, I 1, I 2, I 1, I c1, I 0, U] (B at_285) rfl rfl ?_
    exact t287_2 (0 : Int32) _ _ XJ eJ NJ (by unfold own_ea; rw [if_neg te, if_neg hc155, if_pos hc156]) te z1
   ·
    refine gF XJ hx 280 (B at_277) (feq hc156).1 rfl ?_
    refine gk XJ hx 281 1 (B at_280) rfl rfl ?_
    refine gg XJ hx 285 (B at_281) rfl ?_
    refine gs XJ hx 287 #[I x0, I x1, I x2, I x3, I m_, I n_, A b1, A b10, I a_, I b_, I 1, I 1, I 2, I 1, I c1, I 1, U] (B at_285) rfl rfl ?_
    exact t287_2 (1 : Int32) _ _ XJ eJ NJ (by unfold own_ea; rw [if_neg te, if_neg hc155, if_neg hc156]) te z1
 have t287_3 : ∀ (en : Int32) (TJ : State) (locsJ : List Loc), Stand p l e room_1 s m ([(.int x0), (.int x1), (.int x2), (.int x3), (.int m_), (.int n_)] : List Value).toArray below meth cO TJ locsJ 6 29 → TJ.heap = hT → Fr n0 locsJ → en = own_ea c3 c2 → ¬ own_term c3 = 0 → own_term c1 = 0 → own_term c2 = 0 → Go p e below Fn Q TJ (mkF m 287 #[I x0, I x1, I x2, I x3, I m_, I n_, A b1, A b10, I a_, I b_, I 1, I 1, I 3, I 1, I c2, I en, U] []) := by
  intro en TJ locsJ XJ eJ NJ hen te z1 z2
  refine gA XJ hx 289 (B at_287) rfl rfl rfl ?_
  refine gl XJ hx 291 (B at_289) rfl rfl ?_
  refine gl XJ hx 293 (B at_291) rfl rfl ?_
  refine gm XJ hx 294 (2 : Int32) (B at_293) (by decide) rfl ?_
  refine gk XJ hx 295 1 (B at_294) rfl rfl ?_
  refine gp XJ hx 296 (3 : Int32) (B at_295) (by decide) rfl ?_
  refine gl XJ hx 298 (B at_296) rfl rfl ?_
  refine gl XJ hx 300 (B at_298) rfl rfl ?_
  refine gl XJ hx 302 (B at_300) rfl rfl ?_
  refine gm XJ hx 303 (2 : Int32) (B at_302) (by decide) rfl ?_
  refine gk XJ hx 304 1 (B at_303) rfl rfl ?_
  refine gp XJ hx 305 (3 : Int32) (B at_304) (by decide) rfl ?_
  refine gV XJ hx 308 hZ hown (W 168 rfl) (W 169 rfl) (W 171 rfl) (W 170 rfl) w7 (W 172 rfl) (by decide) b10 E_b10 [(.int 3), (.int en), (.int 3)] [] (mo_1_3 hw b10 cp bf en c0 c1 c2 c3 kF hT n0 Z17 G_b10 g_cp E_b10 W17_countedPosition W17_limit W17_buf W17_pos W17_noLineEndFrom W17_counted E_cp Pl Pc Pa V_bf nc0 nc1 nc2 nc3 hc0 hc1 hc2 hc3) eJ 0 rfl (M rfl) (lenOf pd11 rfl) (B at_305) rfl rfl rfl (fun v T157 L X157 Y => ?_)
  obtain ⟨rfl, N157q, K157, E157x, W157_countedPosition, W157_limit, W157_buf, W157_pos, W157_noLineEndFrom, W157_counted, E157y, Pl157, Pc157, Pa157⟩ := Y
  have N157 := Fr.app NJ N157q
  have V_b1 := V_b1.keep K157 (ninS ne_b1_b10 (ninS ne_u_cp nin0))
  have E_b10 := E_b10.keep K157
  have E_cp := E_cp.keep K157
  have V_bf := V_bf.keep K157 (ninS ne_bf_w (ninS ne_bf_cp nin0))
  have Z157 := Nat.le_trans Z17 K157.1
  refine gl X157 hx 310 (B at_308) rfl rfl ?_
  refine gk X157 hx 311 1 (B at_310) rfl rfl ?_
  refine gp X157 hx 312 (4 : Int32) (B at_311) (by decide) rfl ?_
  refine gs X157 hx 314 #[I x0, I x1, I x2, I x3, I m_, I n_, A b1, A b10, I a_, I b_, I 1, I 1, I 3, I 4, I c2, I en, U] (B at_312) rfl rfl ?_
  refine gl X157 hx 316 (B at_314) rfl rfl ?_
  refine gf X157 hx 319 (B at_316) (by decide) rfl ?_
  refine gA X157 hx 321 (B at_319) rfl rfl rfl ?_
  refine gG X157 hx 324 hZ hown (host := "") (Or.inl (W 114 rfl)) Via.refl rfl W157_pos (B at_321) rfl (fun T158 X158 e158 => ?_)
  refine gl X158 hx 326 (B at_324) rfl rfl ?_
  refine gF X158 hx 329 (B at_326) (by decide) rfl ?_
  refine gk X158 hx 330 1 (B at_329) rfl rfl ?_
  refine gg X158 hx 334 (B at_330) rfl ?_
  refine gs X158 hx 336 _ (B at_334) rfl rfl ?_
  refine gk X158 hx 337 1 (B at_336) rfl rfl ?_
  refine gA X158 hx 339 (B at_337) rfl rfl rfl ?_
  refine gk X158 hx 340 0 (B at_339) rfl rfl ?_
  refine gl X158 hx 342 (B at_340) rfl rfl ?_
  refine gS X158 hx 345 hZ hown w119 w120 w3 w121 (by decide) [(.ref b1), (.int 0), (.int 4)] [(.int 1)] (re_0_t hw b1 (4 : Int32) c0 c1 c2 c3 kS T157.heap n0 Z157 (by decide) V_b1) e158 1 rfl (M rfl) (lenOf pd24 rfl) (B at_342) rfl rfl rfl (fun v T159 L X159 Y => ?_)
  obtain ⟨rfl, N159q, e159⟩ := Y
  have N159 := Fr.app N157 N159q
  refine gp X159 hx 346 ((1 : Int32) + (own_ea c0 (0 : Int32))) (B at_345) rfl rfl ?_
  refine gA X159 hx 348 (B at_346) rfl rfl rfl ?_
  refine gk X159 hx 349 1 (B at_348) rfl rfl ?_
  refine gl X159 hx 351 (B at_349) rfl rfl ?_
  refine gS X159 hx 354 hZ hown w119 w120 w3 w121 (by decide) [(.ref b1), (.int 1), (.int 4)] [(.int ((1 : Int32) + (own_ea c0 (0 : Int32))))] (re_1_t hw b1 (4 : Int32) c0 c1 c2 c3 kS T157.heap n0 Z157 (by decide) V_b1) e159 1 rfl (M rfl) (lenOf pd24 rfl) (B at_351) rfl rfl rfl (fun v T160 L X160 Y => ?_)
  obtain ⟨rfl, N160q, e160⟩ := Y
  have N160 := Fr.app N159 N160q
  refine gp X160 hx 355 (((1 : Int32) + (own_ea c0 (0 : Int32))) + (own_ea c1 c0)) (B at_354) rfl rfl ?_
  refine gA X160 hx 357 (B at_355) rfl rfl rfl ?_
  refine gk X160 hx 358 2 (B at_357) rfl rfl ?_
  refine gl X160 hx 360 (B at_358) rfl rfl ?_
  refine gS X160 hx 363 hZ hown w119 w120 w3 w121 (by decide) [(.ref b1), (.int 2), (.int 4)] [(.int (((1 : Int32) + (own_ea c0 (0 : Int32))) + (own_ea c1 c0)))] (re_2_t hw b1 (4 : Int32) c0 c1 c2 c3 kS T157.heap n0 Z157 (by decide) V_b1) e160 1 rfl (M rfl) (lenOf pd24 rfl) (B at_360) rfl rfl rfl (fun v T161 L X161 Y => ?_)
  obtain ⟨rfl, N161q, e161⟩ := Y
  have N161 := Fr.app N160 N161q
  refine gp X161 hx 364 ((((1 : Int32) + (own_ea c0 (0 : Int32))) + (own_ea c1 c0)) + (own_ea c2 c1)) (B at_363) rfl rfl ?_
  refine gA X161 hx 366 (B at_364) rfl rfl rfl ?_
  refine gk X161 hx 367 3 (B at_366) rfl rfl ?_
  refine gl X161 hx 369 (B at_367) rfl rfl ?_
  refine gS X161 hx 372 hZ hown w119 w120 w3 w121 (by decide) [(.ref b1), (.int 3), (.int 4)] [(.int ((((1 : Int32) + (own_ea c0 (0 : Int32))) + (own_ea c1 c0)) + (own_ea c2 c1)))] (re_3_t hw b1 (4 : Int32) c0 c1 c2 c3 kS T157.heap n0 Z157 (by decide) V_b1) e161 1 rfl (M rfl) (lenOf pd24 rfl) (B at_369) rfl rfl rfl (fun v T162 L X162 Y => ?_)
  obtain ⟨rfl, N162q, e162⟩ := Y
  have N162 := Fr.app N161 N162q
  refine gp X162 hx 373 (((((1 : Int32) + (own_ea c0 (0 : Int32))) + (own_ea c1 c0)) + (own_ea c2 c1)) + (own_ea c3 c2)) (B at_372) rfl rfl ?_
  refine gs X162 hx 375 #[I x0, I x1, I x2, I x3, I m_, I n_, A b1, A b10, I a_, I b_, I 1, I 1, I 3, I 4, I (((((1 : Int32) + (own_ea c0 (0 : Int32))) + (own_ea c1 c0)) + (own_ea c2 c1)) + (own_ea c3 c2)), I en, U] (B at_373) rfl rfl ?_
  have t453 : ∀  (TJ : State) (locsJ : List Loc), Stand p l e room_1 s m ([(.int x0), (.int x1), (.int x2), (.int x3), (.int m_), (.int n_)] : List Value).toArray below meth cO TJ locsJ 6 29 → TJ.heap = T157.heap → Fr n0 locsJ → Go p e below Fn Q TJ (mkF m 453 #[I x0, I x1, I x2, I x3, I m_, I n_, A b1, A b10, I a_, I b_, I 1, I 1, I 3, I 4, I (((((1 : Int32) + (own_ea c0 (0 : Int32))) + (own_ea c1 c0)) + (own_ea c2 c1)) + (own_ea c3 c2)), I 4, U] []) := by
   intro  TJ locsJ XJ eJ NJ 
   refine gA XJ hx 455 (B at_453) rfl rfl rfl ?_
   refine gk XJ hx 456 0 (B at_455) rfl rfl ?_
   refine gV XJ hx 459 hZ hown w122 w123 w125 w124 w7 w126 (by decide) b10 E_b10 [(.int 0)] [] (pa_same hw b10 cp bf (4 : Int32) ((own_step c0 0 (1 : Int64)) + en.toInt64) (1 : Int64) c3 c0 c1 c2 c3 kF T157.heap n0 Z157 G_b10 g_cp E_b10 W157_countedPosition W157_limit W157_buf W157_pos W157_noLineEndFrom W157_counted E_cp Pl157 Pc157 Pa157 V_bf nc0 nc1 nc2 nc3 hc0 hc1 hc2 hc3 nc3) eJ 0 rfl (M rfl) (lenOf pd25 rfl) (B at_456) rfl rfl rfl (fun v T163 L X163 Y => ?_)
   obtain ⟨p_, rfl, N163q, Z163, E_p, Ql, Qc, Qa⟩ := Y
   have N163 := Fr.app NJ N163q
   refine g_astore X163 hx 461 _ (B at_459) rfl rfl rfl ?_
   refine gl X163 hx 463 (B at_461) rfl rfl ?_
   refine gf X163 hx 466 (B at_463) (by decide) rfl ?_
   refine gA X163 hx 468 (B at_466) rfl rfl rfl ?_
   refine gV X163 hx 471 hZ hown w151 w152 w154 w153 w43 w155 (by decide) p_ E_p [] [] (rm28 hw p_ ((own_step c0 0 (1 : Int64)) + en.toInt64) T163.heap n0 Z163 Ql) rfl 0 rfl (M rfl) (lenOf pd26 rfl) (B at_468) rfl rfl rfl (fun v T164 L X164 Y => ?_)
   obtain ⟨rfl, N164q, e164⟩ := Y
   have N164 := Fr.app N163 N164q
   refine gl X164 hx 473 (B at_471) rfl rfl ?_
   refine gL X164 hx 474 ((((((1 : Int32) + (own_ea c0 (0 : Int32))) + (own_ea c1 c0)) + (own_ea c2 c1)) + (own_ea c3 c2)).toInt64) (B at_473) rfl rfl ?_
   refine gC X164 hx 475 (B at_474) rfl ?_
   have hk165 : ((own_step c0 0 (1 : Int64)) + en.toInt64) = ((((((1 : Int32) + (own_ea c0 (0 : Int32))) + (own_ea c1 c0)) + (own_ea c2 c1)) + (own_ea c3 c2)).toInt64) := by rw [hen]; exact own_fin_1_3 c0 c1 c2 c3 z1 z2
   refine gf X164 hx 478 (B at_475) (own_eqL hk165).2 rfl ?_
   refine gA X164 hx 480 (B at_478) rfl rfl rfl ?_
   refine gV X164 hx 483 hZ hown w156 w157 w159 w158 w43 w160 (by decide) p_ E_p [] [] (rm29 hw p_ (1 : Int64) T163.heap n0 Z163 Qc) e164 0 rfl (M rfl) (lenOf pd26 rfl) (B at_480) rfl rfl rfl (fun v T166 L X166 Y => ?_)
   obtain ⟨rfl, N166q, e166⟩ := Y
   have N166 := Fr.app N164 N166q
   refine gl X166 hx 485 (B at_483) rfl rfl ?_
   refine gl X166 hx 487 (B at_485) rfl rfl ?_
   refine gm X166 hx 488 (0 : Int32) (B at_487) (by decide) rfl ?_
   refine gk X166 hx 489 1 (B at_488) rfl rfl ?_
   refine gp X166 hx 490 (1 : Int32) (B at_489) (by decide) rfl ?_
   refine gL X166 hx 491 (1 : Int64) (B at_490) (by decide) rfl ?_
   refine gC X166 hx 492 (B at_491) rfl ?_
   refine gf X166 hx 495 (B at_492) (own_eqL rfl).2 rfl ?_
   refine gk X166 hx 496 1 (B at_495) rfl rfl ?_
   refine gg X166 hx 500 (B at_496) rfl ?_
   exact hG _ _ (g_retZ X166 hx hret hlk rfl (B at_500) (by decide) (by decide) ⟨rfl, N166⟩)
  refine gk X162 hx 376 0 (B at_375) rfl rfl ?_
  refine gs X162 hx 378 _ (B at_376) rfl rfl ?_
  refine gl X162 hx 380 (B at_378) rfl rfl ?_
  refine gf X162 hx 383 (B at_380) (by decide) rfl ?_
  refine gA X162 hx 385 (B at_383) rfl rfl rfl ?_
  refine gk X162 hx 386 0 (B at_385) rfl rfl ?_
  refine gc X162 hx 387 hZ e162 V_b1 c0 rfl rfl (B at_386) rfl ?_
  refine gS X162 hx 390 hZ hown w116 w117 w3 w118 (by decide) [(.int c0)] [] (rm21 hw c0 T157.heap n0 Z157) e162 0 rfl (M rfl) (lenOf pd0 rfl) (B at_387) rfl rfl rfl (fun v T167 L X167 Y => ?_)
  obtain ⟨rfl, N167q, e167⟩ := Y
  have N167 := Fr.app N162 N167q
  by_cases hc168 : (own_term c0) = 0
  ·
   refine gt X167 hx 396 (B at_390) ((if0 _ _).trans (teq hc168).1) rfl ?_
   refine gl X167 hx 398 (B at_396) rfl rfl ?_
   refine gk X167 hx 399 1 (B at_398) rfl rfl ?_
   refine gF X167 hx 402 (B at_399) (by decide) rfl ?_
   refine gA X167 hx 404 (B at_402) rfl rfl rfl ?_
   refine gk X167 hx 405 1 (B at_404) rfl rfl ?_
   refine gc X167 hx 406 hZ e167 V_b1 c1 rfl rfl (B at_405) rfl ?_
   refine gS X167 hx 409 hZ hown w116 w117 w3 w118 (by decide) [(.int c1)] [] (rm21 hw c1 T157.heap n0 Z157) e167 0 rfl (M rfl) (lenOf pd0 rfl) (B at_406) rfl rfl rfl (fun v T169 L X169 Y => ?_)
   obtain ⟨rfl, N169q, e169⟩ := Y
   have N169 := Fr.app N167 N169q
   have hk170 : (own_term c1) = 0 := z1
   refine gt X169 hx 415 (B at_409) ((if0 _ _).trans (teq hk170).1) rfl ?_
   refine gl X169 hx 417 (B at_415) rfl rfl ?_
   refine gk X169 hx 418 2 (B at_417) rfl rfl ?_
   refine gF X169 hx 421 (B at_418) (by decide) rfl ?_
   refine gA X169 hx 423 (B at_421) rfl rfl rfl ?_
   refine gk X169 hx 424 2 (B at_423) rfl rfl ?_
   refine gc X169 hx 425 hZ e169 V_b1 c2 rfl rfl (B at_424) rfl ?_
   refine gS X169 hx 428 hZ hown w116 w117 w3 w118 (by decide) [(.int c2)] [] (rm21 hw c2 T157.heap n0 Z157) e169 0 rfl (M rfl) (lenOf pd0 rfl) (B at_425) rfl rfl rfl (fun v T171 L X171 Y => ?_)
   obtain ⟨rfl, N171q, e171⟩ := Y
   have N171 := Fr.app N169 N171q
   have hk172 : (own_term c2) = 0 := z2
   refine gt X171 hx 434 (B at_428) ((if0 _ _).trans (teq hk172).1) rfl ?_
   refine gl X171 hx 436 (B at_434) rfl rfl ?_
   refine gk X171 hx 437 3 (B at_436) rfl rfl ?_
   refine gF X171 hx 440 (B at_437) (by decide) rfl ?_
   refine gA X171 hx 442 (B at_440) rfl rfl rfl ?_
   refine gk X171 hx 443 3 (B at_442) rfl rfl ?_
   refine gc X171 hx 444 hZ e171 V_b1 c3 rfl rfl (B at_443) rfl ?_
   refine gS X171 hx 447 hZ hown w116 w117 w3 w118 (by decide) [(.int c3)] [] (rm21 hw c3 T157.heap n0 Z157) e171 0 rfl (M rfl) (lenOf pd0 rfl) (B at_444) rfl rfl rfl (fun v T173 L X173 Y => ?_)
   obtain ⟨rfl, N173q, e173⟩ := Y
   have N173 := Fr.app N171 N173q
   have hk174 : ¬ ((own_term c3) = 0) := te
   refine gf X173 hx 450 (B at_447) ((if0 _ _).trans (feq hk174).1) rfl ?_
   refine gk X173 hx 451 4 (B at_450) rfl rfl ?_
   refine gs X173 hx 453 #[I x0, I x1, I x2, I x3, I m_, I n_, A b1, A b10, I a_, I b_, I 1, I 1, I 3, I 4, I (((((1 : Int32) + (own_ea c0 (0 : Int32))) + (own_ea c1 c0)) + (own_ea c2 c1)) + (own_ea c3 c2)), I 4, U] (B at_451) rfl rfl ?_
   exact t453 _ _ X173 e173 N173
  ·
   refine gf X167 hx 393 (B at_390) ((if0 _ _).trans (feq hc168).1) rfl ?_
   refine gk X167 hx 394 1 (B at_393) rfl rfl ?_
   refine gs X167 hx 396 #[I x0, I x1, I x2, I x3, I m_, I n_, A b1, A b10, I a_, I b_, I 1, I 1, I 3, I 4, I (((((1 : Int32) + (own_ea c0 (0 : Int32))) + (own_ea c1 c0)) + (own_ea c2 c1)) + (own_ea c3 c2)), I 1, U] (B at_394) rfl rfl ?_
   refine gl X167 hx 398 (B at_396) rfl rfl ?_
   refine gk X167 hx 399 1 (B at_398) rfl rfl ?_
   refine gF X167 hx 402 (B at_399) (by decide) rfl ?_
   refine gA X167 hx 404 (B at_402) rfl rfl rfl ?_
   refine gk X167 hx 405 1 (B at_404) rfl rfl ?_
   refine gc X167 hx 406 hZ e167 V_b1 c1 rfl rfl (B at_405) rfl ?_
   refine gS X167 hx 409 hZ hown w116 w117 w3 w118 (by decide) [(.int c1)] [] (rm21 hw c1 T157.heap n0 Z157) e167 0 rfl (M rfl) (lenOf pd0 rfl) (B at_406) rfl rfl rfl (fun v T175 L X175 Y => ?_)
   obtain ⟨rfl, N175q, e175⟩ := Y
   have N175 := Fr.app N167 N175q
   have hk176 : (own_term c1) = 0 := z1
   refine gt X175 hx 415 (B at_409) ((if0 _ _).trans (teq hk176).1) rfl ?_
   refine gl X175 hx 417 (B at_415) rfl rfl ?_
   refine gk X175 hx 418 2 (B at_417) rfl rfl ?_
   refine gF X175 hx 421 (B at_418) (by decide) rfl ?_
   refine gA X175 hx 423 (B at_421) rfl rfl rfl ?_
   refine gk X175 hx 424 2 (B at_423) rfl rfl ?_
   refine gc X175 hx 425 hZ e175 V_b1 c2 rfl rfl (B at_424) rfl ?_
   refine gS X175 hx 428 hZ hown w116 w117 w3 w118 (by decide) [(.int c2)] [] (rm21 hw c2 T157.heap n0 Z157) e175 0 rfl (M rfl) (lenOf pd0 rfl) (B at_425) rfl rfl rfl (fun v T177 L X177 Y => ?_)
   obtain ⟨rfl, N177q, e177⟩ := Y
   have N177 := Fr.app N175 N177q
   have hk178 : (own_term c2) = 0 := z2
   refine gt X177 hx 434 (B at_428) ((if0 _ _).trans (teq hk178).1) rfl ?_
   refine gl X177 hx 436 (B at_434) rfl rfl ?_
   refine gk X177 hx 437 3 (B at_436) rfl rfl ?_
   refine gF X177 hx 440 (B at_437) (by decide) rfl ?_
   refine gA X177 hx 442 (B at_440) rfl rfl rfl ?_
   refine gk X177 hx 443 3 (B at_442) rfl rfl ?_
   refine gc X177 hx 444 hZ e177 V_b1 c3 rfl rfl (B at_443) rfl ?_
   refine gS X177 hx 447 hZ hown w116 w117 w3 w118 (by decide) [(.int c3)] [] (rm21 hw c3 T157.heap n0 Z157) e177 0 rfl (M rfl) (lenOf pd0 rfl) (B at_444) rfl rfl rfl (fun v T179 L X179 Y => ?_)
   obtain ⟨rfl, N179q, e179⟩ := Y
   have N179 := Fr.app N177 N179q
   have hk180 : ¬ ((own_term c3) = 0) := te
   refine gf X179 hx 450 (B at_447) ((if0 _ _).trans (feq hk180).1) rfl ?_
   refine gk X179 hx 451 4 (B at_450) rfl rfl ?_
   refine gs X179 hx 453 _ (B at_451) rfl rfl ?_
   exact t453 _ _ X179 e179 N179
 have t219_3 : ∀  (TJ : State) (locsJ : List Loc), Stand p l e room_1 s m ([(.int x0), (.int x1), (.int x2), (.int x3), (.int m_), (.int n_)] : List Value).toArray below meth cO TJ locsJ 6 29 → TJ.heap = hT → Fr n0 locsJ → ¬ own_term c3 = 0 → own_term c1 = 0 → own_term c2 = 0 → Go p e below Fn Q TJ (mkF m 219 #[I x0, I x1, I x2, I x3, I m_, I n_, A b1, A b10, I a_, I b_, I 1, I 1, I 3, U, U, U, U] []) := by
  intro  TJ locsJ XJ eJ NJ te z1 z2
  refine gl XJ hx 221 (B at_219) rfl rfl ?_
  refine gs XJ hx 223 #[I x0, I x1, I x2, I x3, I m_, I n_, A b1, A b10, I a_, I b_, I 1, I 1, I 3, I 1, U, U, U] (B at_221) rfl rfl ?_
  refine gl XJ hx 225 (B at_223) rfl rfl ?_
  refine gf XJ hx 228 (B at_225) (by decide) rfl ?_
  refine gl XJ hx 230 (B at_228) rfl rfl ?_
  refine gl XJ hx 232 (B at_230) rfl rfl ?_
  refine gF XJ hx 235 (B at_232) (by decide) rfl ?_
  refine gA XJ hx 237 (B at_235) rfl rfl rfl ?_
  refine gl XJ hx 239 (B at_237) rfl rfl ?_
  refine gk XJ hx 240 1 (B at_239) rfl rfl ?_
  refine gm XJ hx 241 (2 : Int32) (B at_240) (by decide) rfl ?_
  refine gc XJ hx 242 hZ eJ V_b1 c2 rfl rfl (B at_241) rfl ?_
  refine gg XJ hx 261 (B at_242) rfl ?_
  refine gs XJ hx 263 _ (B at_261) rfl rfl ?_
  refine gA XJ hx 265 (B at_263) rfl rfl rfl ?_
  refine gl XJ hx 267 (B at_265) rfl rfl ?_
  refine gc XJ hx 268 hZ eJ V_b1 c3 rfl rfl (B at_267) rfl ?_
  refine gb XJ hx 270 13 (B at_268) rfl rfl ?_
  by_cases hc181 : c3 = 13
  ·
   refine gT XJ hx 280 (B at_270) (teq hc181).1 rfl ?_
   refine gk XJ hx 281 1 (B at_280) rfl rfl ?_
   refine gg XJ hx 285 (B at_281) rfl ?_
   refine gs XJ hx 287 #[I x0, I x1, I x2, I x3, I m_, I n_, A b1, A b10, I a_, I b_, I 1, I 1, I 3, I 1, I c2, I 1, U] (B at_285) rfl rfl ?_
   exact t287_3 (1 : Int32) _ _ XJ eJ NJ (by unfold own_ea; rw [if_neg te, if_pos hc181]) te z1 z2
  ·
   refine gF XJ hx 273 (B at_270) (feq hc181).1 rfl ?_
   refine gl XJ hx 275 (B at_273) rfl rfl ?_
   refine gb XJ hx 277 13 (B at_275) rfl rfl ?_
   by_cases hc182 : c2 = 13
   ·
    refine gT XJ hx 284 (B at_277) (teq hc182).1 rfl ?_
    refine gk XJ hx 285 0 (B at_284) rfl rfl ?_
    refine gs XJ hx 287 #[I x0, I x1, I x2, I x3, I m_, I n_, A b1, A b10, I a_, I b_, I 1, I 1, I 3, I 1, I c2, I 0, U] (B at_285) rfl rfl ?_
    exact t287_3 (0 : Int32) _ _ XJ eJ NJ (by unfold own_ea; rw [if_neg te, if_neg hc181, if_pos hc182]) te z1 z2
   ·
    refine gF XJ hx 280 (B at_277) (feq hc182).1 rfl ?_
    refine gk XJ hx 281 1 (B at_280) rfl rfl ?_
    refine gg XJ hx 285 (B at_281) rfl ?_
    refine gs XJ hx 287 #[I x0, I x1, I x2, I x3, I m_, I n_, A b1, A b10, I a_, I b_, I 1, I 1, I 3, I 1, I c2, I 1, U] (B at_285) rfl rfl ?_
    exact t287_3 (1 : Int32) _ _ XJ eJ NJ (by unfold own_ea; rw [if_neg te, if_neg hc181, if_neg hc182]) te z1 z2
 refine gk XJ hx 142 (-1 : Int32) (B at_141) rfl rfl ?_
 refine gs XJ hx 144 #[I x0, I x1, I x2, I x3, I m_, I n_, A b1, A b10, I a_, I b_, I 1, I 1, I (-1 : Int32), U, U, U, U] (B at_142) rfl rfl ?_
 refine gl XJ hx 146 (B at_144) rfl rfl ?_
 refine gk XJ hx 147 3 (B at_146) rfl rfl ?_
 refine gF XJ hx 150 (B at_147) (by decide) rfl ?_
 refine gA XJ hx 152 (B at_150) rfl rfl rfl ?_
 refine gk XJ hx 153 3 (B at_152) rfl rfl ?_
 refine gc XJ hx 154 hZ eJ V_b1 c3 rfl rfl (B at_153) rfl ?_
 refine gS XJ hx 157 hZ hown w116 w117 w3 w118 (by decide) [(.int c3)] [] (rm21 hw c3 hT n0 Z17) eJ 0 rfl (M rfl) (lenOf pd0 rfl) (B at_154) rfl rfl rfl (fun v T183 L X183 Y => ?_)
 obtain ⟨rfl, N183q, e183⟩ := Y
 have N183 := Fr.app NJ N183q
 by_cases hc184 : (own_term c3) = 0
 ·
  refine gt X183 hx 163 (B at_157) ((if0 _ _).trans (teq hc184).1) rfl ?_
  refine gl X183 hx 165 (B at_163) rfl rfl ?_
  refine gk X183 hx 166 2 (B at_165) rfl rfl ?_
  refine gF X183 hx 169 (B at_166) (by decide) rfl ?_
  refine gA X183 hx 171 (B at_169) rfl rfl rfl ?_
  refine gk X183 hx 172 2 (B at_171) rfl rfl ?_
  refine gc X183 hx 173 hZ e183 V_b1 c2 rfl rfl (B at_172) rfl ?_
  refine gS X183 hx 176 hZ hown w116 w117 w3 w118 (by decide) [(.int c2)] [] (rm21 hw c2 hT n0 Z17) e183 0 rfl (M rfl) (lenOf pd0 rfl) (B at_173) rfl rfl rfl (fun v T185 L X185 Y => ?_)
  obtain ⟨rfl, N185q, e185⟩ := Y
  have N185 := Fr.app N183 N185q
  by_cases hc186 : (own_term c2) = 0
  ·
   refine gt X185 hx 182 (B at_176) ((if0 _ _).trans (teq hc186).1) rfl ?_
   refine gl X185 hx 184 (B at_182) rfl rfl ?_
   refine gk X185 hx 185 1 (B at_184) rfl rfl ?_
   refine gF X185 hx 188 (B at_185) (by decide) rfl ?_
   refine gA X185 hx 190 (B at_188) rfl rfl rfl ?_
   refine gk X185 hx 191 1 (B at_190) rfl rfl ?_
   refine gc X185 hx 192 hZ e185 V_b1 c1 rfl rfl (B at_191) rfl ?_
   refine gS X185 hx 195 hZ hown w116 w117 w3 w118 (by decide) [(.int c1)] [] (rm21 hw c1 hT n0 Z17) e185 0 rfl (M rfl) (lenOf pd0 rfl) (B at_192) rfl rfl rfl (fun v T187 L X187 Y => ?_)
   obtain ⟨rfl, N187q, e187⟩ := Y
   have N187 := Fr.app N185 N187q
   by_cases hc188 : (own_term c1) = 0
   ·
    refine gt X187 hx 201 (B at_195) ((if0 _ _).trans (teq hc188).1) rfl ?_
    refine gl X187 hx 203 (B at_201) rfl rfl ?_
    refine gt X187 hx 219 (B at_203) (by decide) rfl ?_
    exact t219_m _ _ X187 e187 N187
   ·
    refine gf X187 hx 198 (B at_195) ((if0 _ _).trans (feq hc188).1) rfl ?_
    refine gk X187 hx 199 1 (B at_198) rfl rfl ?_
    refine gs X187 hx 201 _ (B at_199) rfl rfl ?_
    refine gl X187 hx 203 (B at_201) rfl rfl ?_
    refine gt X187 hx 219 (B at_203) (by decide) rfl ?_
    exact t219_1 _ _ X187 e187 N187 hc188 
  ·
   refine gf X185 hx 179 (B at_176) ((if0 _ _).trans (feq hc186).1) rfl ?_
   refine gk X185 hx 180 2 (B at_179) rfl rfl ?_
   refine gs X185 hx 182 _ (B at_180) rfl rfl ?_
   refine gl X185 hx 184 (B at_182) rfl rfl ?_
   refine gk X185 hx 185 1 (B at_184) rfl rfl ?_
   refine gF X185 hx 188 (B at_185) (by decide) rfl ?_
   refine gA X185 hx 190 (B at_188) rfl rfl rfl ?_
   refine gk X185 hx 191 1 (B at_190) rfl rfl ?_
   refine gc X185 hx 192 hZ e185 V_b1 c1 rfl rfl (B at_191) rfl ?_
   refine gS X185 hx 195 hZ hown w116 w117 w3 w118 (by decide) [(.int c1)] [] (rm21 hw c1 hT n0 Z17) e185 0 rfl (M rfl) (lenOf pd0 rfl) (B at_192) rfl rfl rfl (fun v T189 L X189 Y => ?_)
   obtain ⟨rfl, N189q, e189⟩ := Y
   have N189 := Fr.app N185 N189q
   by_cases hc190 : (own_term c1) = 0
   ·
    refine gt X189 hx 201 (B at_195) ((if0 _ _).trans (teq hc190).1) rfl ?_
    refine gl X189 hx 203 (B at_201) rfl rfl ?_
    refine gt X189 hx 219 (B at_203) (by decide) rfl ?_
    exact t219_2 _ _ X189 e189 N189 hc186 hc190
   ·
    refine gf X189 hx 198 (B at_195) ((if0 _ _).trans (feq hc190).1) rfl ?_
    refine gk X189 hx 199 1 (B at_198) rfl rfl ?_
    refine gs X189 hx 201 #[I x0, I x1, I x2, I x3, I m_, I n_, A b1, A b10, I a_, I b_, I 1, I 1, I 1, U, U, U, U] (B at_199) rfl rfl ?_
    refine gl X189 hx 203 (B at_201) rfl rfl ?_
    refine gt X189 hx 219 (B at_203) (by decide) rfl ?_
    exact t219_1 _ _ X189 e189 N189 hc190 
 ·
  refine gf X183 hx 160 (B at_157) ((if0 _ _).trans (feq hc184).1) rfl ?_
  refine gk X183 hx 161 3 (B at_160) rfl rfl ?_
  refine gs X183 hx 163 _ (B at_161) rfl rfl ?_
  refine gl X183 hx 165 (B at_163) rfl rfl ?_
  refine gk X183 hx 166 2 (B at_165) rfl rfl ?_
  refine gF X183 hx 169 (B at_166) (by decide) rfl ?_
  refine gA X183 hx 171 (B at_169) rfl rfl rfl ?_
  refine gk X183 hx 172 2 (B at_171) rfl rfl ?_
  refine gc X183 hx 173 hZ e183 V_b1 c2 rfl rfl (B at_172) rfl ?_
  refine gS X183 hx 176 hZ hown w116 w117 w3 w118 (by decide) [(.int c2)] [] (rm21 hw c2 hT n0 Z17) e183 0 rfl (M rfl) (lenOf pd0 rfl) (B at_173) rfl rfl rfl (fun v T191 L X191 Y => ?_)
  obtain ⟨rfl, N191q, e191⟩ := Y
  have N191 := Fr.app N183 N191q
  by_cases hc192 : (own_term c2) = 0
  ·
   refine gt X191 hx 182 (B at_176) ((if0 _ _).trans (teq hc192).1) rfl ?_
   refine gl X191 hx 184 (B at_182) rfl rfl ?_
   refine gk X191 hx 185 1 (B at_184) rfl rfl ?_
   refine gF X191 hx 188 (B at_185) (by decide) rfl ?_
   refine gA X191 hx 190 (B at_188) rfl rfl rfl ?_
   refine gk X191 hx 191 1 (B at_190) rfl rfl ?_
   refine gc X191 hx 192 hZ e191 V_b1 c1 rfl rfl (B at_191) rfl ?_
   refine gS X191 hx 195 hZ hown w116 w117 w3 w118 (by decide) [(.int c1)] [] (rm21 hw c1 hT n0 Z17) e191 0 rfl (M rfl) (lenOf pd0 rfl) (B at_192) rfl rfl rfl (fun v T193 L X193 Y => ?_)
   obtain ⟨rfl, N193q, e193⟩ := Y
   have N193 := Fr.app N191 N193q
   by_cases hc194 : (own_term c1) = 0
   ·
    refine gt X193 hx 201 (B at_195) ((if0 _ _).trans (teq hc194).1) rfl ?_
    refine gl X193 hx 203 (B at_201) rfl rfl ?_
    refine gt X193 hx 219 (B at_203) (by decide) rfl ?_
    exact t219_3 _ _ X193 e193 N193 hc184 hc194 hc192
   ·
    refine gf X193 hx 198 (B at_195) ((if0 _ _).trans (feq hc194).1) rfl ?_
    refine gk X193 hx 199 1 (B at_198) rfl rfl ?_
    refine gs X193 hx 201 #[I x0, I x1, I x2, I x3, I m_, I n_, A b1, A b10, I a_, I b_, I 1, I 1, I 1, U, U, U, U] (B at_199) rfl rfl ?_
    refine gl X193 hx 203 (B at_201) rfl rfl ?_
    refine gt X193 hx 219 (B at_203) (by decide) rfl ?_
    exact t219_1 _ _ X193 e193 N193 hc194 
  ·
   refine gf X191 hx 179 (B at_176) ((if0 _ _).trans (feq hc192).1) rfl ?_
   refine gk X191 hx 180 2 (B at_179) rfl rfl ?_
   refine gs X191 hx 182 #[I x0, I x1, I x2, I x3, I m_, I n_, A b1, A b10, I a_, I b_, I 1, I 1, I 2, U, U, U, U] (B at_180) rfl rfl ?_
   refine gl X191 hx 184 (B at_182) rfl rfl ?_
   refine gk X191 hx 185 1 (B at_184) rfl rfl ?_
   refine gF X191 hx 188 (B at_185) (by decide) rfl ?_
   refine gA X191 hx 190 (B at_188) rfl rfl rfl ?_
   refine gk X191 hx 191 1 (B at_190) rfl rfl ?_
   refine gc X191 hx 192 hZ e191 V_b1 c1 rfl rfl (B at_191) rfl ?_
   refine gS X191 hx 195 hZ hown w116 w117 w3 w118 (by decide) [(.int c1)] [] (rm21 hw c1 hT n0 Z17) e191 0 rfl (M rfl) (lenOf pd0 rfl) (B at_192) rfl rfl rfl (fun v T195 L X195 Y => ?_)
   obtain ⟨rfl, N195q, e195⟩ := Y
   have N195 := Fr.app N191 N195q
   by_cases hc196 : (own_term c1) = 0
   ·
    refine gt X195 hx 201 (B at_195) ((if0 _ _).trans (teq hc196).1) rfl ?_
    refine gl X195 hx 203 (B at_201) rfl rfl ?_
    refine gt X195 hx 219 (B at_203) (by decide) rfl ?_
    exact t219_2 _ _ X195 e195 N195 hc192 hc196
   ·
    refine gf X195 hx 198 (B at_195) ((if0 _ _).trans (feq hc196).1) rfl ?_
    refine gk X195 hx 199 1 (B at_198) rfl rfl ?_
    refine gs X195 hx 201 _ (B at_199) rfl rfl ?_
    refine gl X195 hx 203 (B at_201) rfl rfl ?_
    refine gt X195 hx 219 (B at_203) (by decide) rfl ?_
    exact t219_1 _ _ X195 e195 N195 hc196 
set_option maxRecDepth 65536 in
set_option maxHeartbeats 40000000 in
theorem law_2 {l : Launch} {Z : State} {a0 : Array Value} {x0 x1 x2 x3 m_ n_ a_ b_ c0 c1 c2 c3 : Int32} {b1 b10 cp bf : Addr} {kS kF : ClassId} {hT : Heap} {n0 : Nat} {p : Program} {e : Env} {s : State} {m : MethodId} {below : List Frame} {meth : Method} {cO : Code} (hw : ∀ d ∈ tables_1, d.before a0 Z = true) (hx : p.tables.exec = Jvm.exec) (hby : cO.code = code) (hml : cO.maxLocals = 17) (hown : s.vm.findClass "gleanwell/WindowMoveByPinLaw" = some m.cls) (hret : meth.sig.returnType = some .boolean) (hlk : meth.locks = false) (hZ : Z.Warmed39 s.vm)  (TK : State) (locsJ : List Loc) (XJ : Stand p l e room_1 s m ([(.int x0), (.int x1), (.int x2), (.int x3), (.int m_), (.int n_)] : List Value).toArray below meth cO TK locsJ 6 29) (eJ : TK.heap = hT) (NJ : Fr n0 locsJ) (V_b1 : Arv Z hT b1 kS .char (4 : Int32) [(.int c0), (.int c1), (.int c2), (.int c3)] (.int 0)) (V_bf : Arv Z hT bf kF .char (5 : Int32) [(.int c0), (.int c1), (.int c2), (.int c3), (.int 0)] (.int 0)) (E_b10 : Exa Z hT b10 "gleanwell/Window") (E_cp : Exa Z hT cp "gleanwell/Position") (Pl : Fld Z hT cp "gleanwell/Position" "line" "J" (.long (1 : Int64))) (Pc : Fld Z hT cp "gleanwell/Position" "column" "J" (.long (1 : Int64))) (Pa : Fld Z hT cp "gleanwell/Position" "last" "C" (.int 0)) (W17_countedPosition : Fld Z hT b10 "gleanwell/Window" "countedPosition" "Lgleanwell/Position;" (.ref cp)) (W17_limit : Fld Z hT b10 "gleanwell/Window" "limit" "I" (.int 4)) (W17_buf : Fld Z hT b10 "gleanwell/Window" "buf" "[C" (.ref bf)) (W17_pos : Fld Z hT b10 "gleanwell/Window" "pos" "I" (.int 2)) (W17_noLineEndFrom : Fld Z hT b10 "gleanwell/Window" "noLineEndFrom" "I" (.int 2)) (W17_counted : Fld Z hT b10 "gleanwell/Window" "counted" "I" (.int 0)) (ne_b1_b10 : b1 ≠ b10) (ne_cp_w : cp ≠ b10) (ne_bf_w : bf ≠ b10) (ne_bf_cp : bf ≠ cp) (ne_u_cp : b1 ≠ cp) (G_b10 : n0 ≤ b10) (g_cp : n0 ≤ cp) (Z17 : n0 ≤ hT.size) (nc0 : nar .char c0 = c0) (nc1 : nar .char c1 = c1) (nc2 : nar .char c2 = c2) (nc3 : nar .char c3 = c3) (hc0 : ¬ 255 < c0) (hc1 : ¬ 255 < c1) (hc2 : ¬ 255 < c2) (hc3 : ¬ 255 < c3) :
  Go p e below (fun o t L => FrameEnd s o t L room_1.cells room_1.slots) (fun v h L => v = some (.int 1) ∧ Fr n0 L) TK (mkF m 141 #[I x0, I x1, I x2, I x3, I m_, I n_, A b1, A b10, I a_, I b_, I 2, I 1, U, U, U, U, U] []) := by
 have hown : s.vm.findClass "gleanwell/WindowMoveByPinLaw" = some m.cls := hown
 refine own_lq (fun Fn Q hG => ?_)
 have B {q : Nat} {r : Instr × Nat} (h : decode code q = .ok r) : decode cO.code q = .ok r := hb hby h
 have W {d : Jvm.Cond} (i : Nat) (h : tables_1[i]? = some d) : d.before a0 Z = true := own_w hw i h
 have w119 := W 119 rfl
 have w120 := W 120 rfl
 have w3 := W 3 rfl
 have w121 := W 121 rfl
 have w122 := W 122 rfl
 have w123 := W 123 rfl
 have w125 := W 125 rfl
 have w124 := W 124 rfl
 have w7 := W 7 rfl
 have w126 := W 126 rfl
 have w151 := W 151 rfl
 have w152 := W 152 rfl
 have w154 := W 154 rfl
 have w153 := W 153 rfl
 have w43 := W 43 rfl
 have w155 := W 155 rfl
 have w156 := W 156 rfl
 have w157 := W 157 rfl
 have w159 := W 159 rfl
 have w158 := W 158 rfl
 have w160 := W 160 rfl
 have w116 := W 116 rfl
 have w117 := W 117 rfl
 have w118 := W 118 rfl
 have M {n : Nat} (h : n = _) : n = cO.maxLocals := h.trans hml.symm
 have t219_m : ∀  (TJ : State) (locsJ : List Loc), Stand p l e room_1 s m ([(.int x0), (.int x1), (.int x2), (.int x3), (.int m_), (.int n_)] : List Value).toArray below meth cO TJ locsJ 6 29 → TJ.heap = hT → Fr n0 locsJ → Go p e below Fn Q TJ (mkF m 219 #[I x0, I x1, I x2, I x3, I m_, I n_, A b1, A b10, I a_, I b_, I 2, I 1, I (-1 : Int32), U, U, U, U] []) := by
  intro  TJ locsJ XJ eJ NJ 
  refine gl XJ hx 221 (B at_219) rfl rfl ?_
  refine gs XJ hx 223 #[I x0, I x1, I x2, I x3, I m_, I n_, A b1, A b10, I a_, I b_, I 2, I 1, I (-1 : Int32), I 2, U, U, U] (B at_221) rfl rfl ?_
  refine gl XJ hx 225 (B at_223) rfl rfl ?_
  refine gt XJ hx 336 (B at_225) (by decide) rfl ?_
  refine gk XJ hx 337 1 (B at_336) rfl rfl ?_
  refine gA XJ hx 339 (B at_337) rfl rfl rfl ?_
  refine gk XJ hx 340 0 (B at_339) rfl rfl ?_
  refine gl XJ hx 342 (B at_340) rfl rfl ?_
  refine gS XJ hx 345 hZ hown w119 w120 w3 w121 (by decide) [(.ref b1), (.int 0), (.int 2)] [(.int 1)] (re_0_t hw b1 (2 : Int32) c0 c1 c2 c3 kS hT n0 Z17 (by decide) V_b1) eJ 1 rfl (M rfl) (lenOf pd24 rfl) (B at_342) rfl rfl rfl (fun v T101 L X101 Y => ?_)
  obtain ⟨rfl, N101q, e101⟩ := Y
  have N101 := Fr.app NJ N101q
  refine gp X101 hx 346 ((1 : Int32) + (own_ea c0 (0 : Int32))) (B at_345) rfl rfl ?_
  refine gA X101 hx 348 (B at_346) rfl rfl rfl ?_
  refine gk X101 hx 349 1 (B at_348) rfl rfl ?_
  refine gl X101 hx 351 (B at_349) rfl rfl ?_
  refine gS X101 hx 354 hZ hown w119 w120 w3 w121 (by decide) [(.ref b1), (.int 1), (.int 2)] [(.int ((1 : Int32) + (own_ea c0 (0 : Int32))))] (re_1_t hw b1 (2 : Int32) c0 c1 c2 c3 kS hT n0 Z17 (by decide) V_b1) e101 1 rfl (M rfl) (lenOf pd24 rfl) (B at_351) rfl rfl rfl (fun v T102 L X102 Y => ?_)
  obtain ⟨rfl, N102q, e102⟩ := Y
  have N102 := Fr.app N101 N102q
  refine gp X102 hx 355 (((1 : Int32) + (own_ea c0 (0 : Int32))) + (own_ea c1 c0)) (B at_354) rfl rfl ?_
  refine gA X102 hx 357 (B at_355) rfl rfl rfl ?_
  refine gk X102 hx 358 2 (B at_357) rfl rfl ?_
  refine gl X102 hx 360 (B at_358) rfl rfl ?_
  refine gS X102 hx 363 hZ hown w119 w120 w3 w121 (by decide) [(.ref b1), (.int 2), (.int 2)] [(.int (((1 : Int32) + (own_ea c0 (0 : Int32))) + (own_ea c1 c0)))] (re_2_f hw b1 (2 : Int32) hT n0 Z17 (by decide)) e102 1 rfl (M rfl) (lenOf pd24 rfl) (B at_360) rfl rfl rfl (fun v T103 L X103 Y => ?_)
  obtain ⟨rfl, N103q, e103⟩ := Y
  have N103 := Fr.app N102 N103q
  refine gp X103 hx 364 ((((1 : Int32) + (own_ea c0 (0 : Int32))) + (own_ea c1 c0)) + 0) (B at_363) rfl rfl ?_
  refine gA X103 hx 366 (B at_364) rfl rfl rfl ?_
  refine gk X103 hx 367 3 (B at_366) rfl rfl ?_
  refine gl X103 hx 369 (B at_367) rfl rfl ?_
  refine gS X103 hx 372 hZ hown w119 w120 w3 w121 (by decide) [(.ref b1), (.int 3), (.int 2)] [(.int ((((1 : Int32) + (own_ea c0 (0 : Int32))) + (own_ea c1 c0)) + 0))] (re_3_f hw b1 (2 : Int32) hT n0 Z17 (by decide)) e103 1 rfl (M rfl) (lenOf pd24 rfl) (B at_369) rfl rfl rfl (fun v T104 L X104 Y => ?_)
  obtain ⟨rfl, N104q, e104⟩ := Y
  have N104 := Fr.app N103 N104q
  refine gp X104 hx 373 (((((1 : Int32) + (own_ea c0 (0 : Int32))) + (own_ea c1 c0)) + 0) + 0) (B at_372) rfl rfl ?_
  refine gs X104 hx 375 _ (B at_373) rfl rfl ?_
  have t453_0 : ∀  (TJ : State) (locsJ : List Loc), Stand p l e room_1 s m ([(.int x0), (.int x1), (.int x2), (.int x3), (.int m_), (.int n_)] : List Value).toArray below meth cO TJ locsJ 6 29 → TJ.heap = hT → Fr n0 locsJ → (own_st c1 2 (own_st c0 1 (0 : Int32))) = 0 → Go p e below Fn Q TJ (mkF m 453 #[I x0, I x1, I x2, I x3, I m_, I n_, A b1, A b10, I a_, I b_, I 2, I 1, I (-1 : Int32), I 2, I (((((1 : Int32) + (own_ea c0 (0 : Int32))) + (own_ea c1 c0)) + 0) + 0), I 0, U] []) := by
   intro  TJ locsJ XJ eJ NJ hS
   refine gA XJ hx 455 (B at_453) rfl rfl rfl ?_
   refine gk XJ hx 456 0 (B at_455) rfl rfl ?_
   refine gV XJ hx 459 hZ hown w122 w123 w125 w124 w7 w126 (by decide) b10 E_b10 [(.int 0)] [] (pa_2 hw b10 cp bf c0 c1 c2 c3 kF hT n0 Z17 G_b10 g_cp E_b10 W17_countedPosition W17_limit W17_buf W17_pos W17_noLineEndFrom W17_counted E_cp Pl Pc Pa V_bf nc0 nc1 nc2 nc3 hc0 hc1 hc2 hc3) eJ 0 rfl (M rfl) (lenOf pd25 rfl) (B at_456) rfl rfl rfl (fun v T105 L X105 Y => ?_)
   obtain ⟨p_, rfl, N105q, Z105, E_p, Ql, Qc, Qa⟩ := Y
   have N105 := Fr.app NJ N105q
   refine g_astore X105 hx 461 #[I x0, I x1, I x2, I x3, I m_, I n_, A b1, A b10, I a_, I b_, I 2, I 1, I (-1 : Int32), I 2, I (((((1 : Int32) + (own_ea c0 (0 : Int32))) + (own_ea c1 c0)) + 0) + 0), I 0, A p_] (B at_459) rfl rfl rfl ?_
   refine gl X105 hx 463 (B at_461) rfl rfl ?_
   refine gf X105 hx 466 (B at_463) (by decide) rfl ?_
   refine gA X105 hx 468 (B at_466) rfl rfl rfl ?_
   refine gV X105 hx 471 hZ hown w151 w152 w154 w153 w43 w155 (by decide) p_ E_p [] [] (rm28 hw p_ (own_step c1 c0 (own_step c0 0 (1 : Int64))) T105.heap n0 Z105 Ql) rfl 0 rfl (M rfl) (lenOf pd26 rfl) (B at_468) rfl rfl rfl (fun v T106 L X106 Y => ?_)
   obtain ⟨rfl, N106q, e106⟩ := Y
   have N106 := Fr.app N105 N106q
   refine gl X106 hx 473 (B at_471) rfl rfl ?_
   refine gL X106 hx 474 ((((((1 : Int32) + (own_ea c0 (0 : Int32))) + (own_ea c1 c0)) + 0) + 0).toInt64) (B at_473) rfl rfl ?_
   refine gC X106 hx 475 (B at_474) rfl ?_
   have hk107 : (own_step c1 c0 (own_step c0 0 (1 : Int64))) = ((((((1 : Int32) + (own_ea c0 (0 : Int32))) + (own_ea c1 c0)) + 0) + 0).toInt64) := own_fin_2 c0 c1 c2 c3
   refine gf X106 hx 478 (B at_475) (own_eqL hk107).2 rfl ?_
   refine gA X106 hx 480 (B at_478) rfl rfl rfl ?_
   refine gV X106 hx 483 hZ hown w156 w157 w159 w158 w43 w160 (by decide) p_ E_p [] [] (rm29 hw p_ (own_colf (2 : Int32) (own_st c1 2 (own_st c0 1 (0 : Int32)))) T105.heap n0 Z105 Qc) e106 0 rfl (M rfl) (lenOf pd26 rfl) (B at_480) rfl rfl rfl (fun v T108 L X108 Y => ?_)
   obtain ⟨rfl, N108q, e108⟩ := Y
   have N108 := Fr.app N106 N108q
   refine gl X108 hx 485 (B at_483) rfl rfl ?_
   refine gl X108 hx 487 (B at_485) rfl rfl ?_
   refine gm X108 hx 488 (2 : Int32) (B at_487) (by decide) rfl ?_
   refine gk X108 hx 489 1 (B at_488) rfl rfl ?_
   refine gp X108 hx 490 (3 : Int32) (B at_489) (by decide) rfl ?_
   refine gL X108 hx 491 (3 : Int64) (B at_490) (by decide) rfl ?_
   refine gC X108 hx 492 (B at_491) rfl ?_
   have hk109 : (own_colf (2 : Int32) (own_st c1 2 (own_st c0 1 (0 : Int32)))) = (3 : Int64) := by rw [hS]; decide
   refine gf X108 hx 495 (B at_492) (own_eqL hk109).2 rfl ?_
   refine gk X108 hx 496 1 (B at_495) rfl rfl ?_
   refine gg X108 hx 500 (B at_496) rfl ?_
   exact hG _ _ (g_retZ X108 hx hret hlk rfl (B at_500) (by decide) (by decide) ⟨rfl, N108⟩)
  have t453_1 : ∀  (TJ : State) (locsJ : List Loc), Stand p l e room_1 s m ([(.int x0), (.int x1), (.int x2), (.int x3), (.int m_), (.int n_)] : List Value).toArray below meth cO TJ locsJ 6 29 → TJ.heap = hT → Fr n0 locsJ → (own_st c1 2 (own_st c0 1 (0 : Int32))) = 1 → Go p e below Fn Q TJ (mkF m 453 #[I x0, I x1, I x2, I x3, I m_, I n_, A b1, A b10, I a_, I b_, I 2, I 1, I (-1 : Int32), I 2, I (((((1 : Int32) + (own_ea c0 (0 : Int32))) + (own_ea c1 c0)) + 0) + 0), I 1, U] []) := by
   intro  TJ locsJ XJ eJ NJ hS
   refine gA XJ hx 455 (B at_453) rfl rfl rfl ?_
   refine gk XJ hx 456 0 (B at_455) rfl rfl ?_
   refine gV XJ hx 459 hZ hown w122 w123 w125 w124 w7 w126 (by decide) b10 E_b10 [(.int 0)] [] (pa_2 hw b10 cp bf c0 c1 c2 c3 kF hT n0 Z17 G_b10 g_cp E_b10 W17_countedPosition W17_limit W17_buf W17_pos W17_noLineEndFrom W17_counted E_cp Pl Pc Pa V_bf nc0 nc1 nc2 nc3 hc0 hc1 hc2 hc3) eJ 0 rfl (M rfl) (lenOf pd25 rfl) (B at_456) rfl rfl rfl (fun v T110 L X110 Y => ?_)
   obtain ⟨p_, rfl, N110q, Z110, E_p, Ql, Qc, Qa⟩ := Y
   have N110 := Fr.app NJ N110q
   refine g_astore X110 hx 461 #[I x0, I x1, I x2, I x3, I m_, I n_, A b1, A b10, I a_, I b_, I 2, I 1, I (-1 : Int32), I 2, I (((((1 : Int32) + (own_ea c0 (0 : Int32))) + (own_ea c1 c0)) + 0) + 0), I 1, A p_] (B at_459) rfl rfl rfl ?_
   refine gl X110 hx 463 (B at_461) rfl rfl ?_
   refine gf X110 hx 466 (B at_463) (by decide) rfl ?_
   refine gA X110 hx 468 (B at_466) rfl rfl rfl ?_
   refine gV X110 hx 471 hZ hown w151 w152 w154 w153 w43 w155 (by decide) p_ E_p [] [] (rm28 hw p_ (own_step c1 c0 (own_step c0 0 (1 : Int64))) T110.heap n0 Z110 Ql) rfl 0 rfl (M rfl) (lenOf pd26 rfl) (B at_468) rfl rfl rfl (fun v T111 L X111 Y => ?_)
   obtain ⟨rfl, N111q, e111⟩ := Y
   have N111 := Fr.app N110 N111q
   refine gl X111 hx 473 (B at_471) rfl rfl ?_
   refine gL X111 hx 474 ((((((1 : Int32) + (own_ea c0 (0 : Int32))) + (own_ea c1 c0)) + 0) + 0).toInt64) (B at_473) rfl rfl ?_
   refine gC X111 hx 475 (B at_474) rfl ?_
   have hk112 : (own_step c1 c0 (own_step c0 0 (1 : Int64))) = ((((((1 : Int32) + (own_ea c0 (0 : Int32))) + (own_ea c1 c0)) + 0) + 0).toInt64) := own_fin_2 c0 c1 c2 c3
   refine gf X111 hx 478 (B at_475) (own_eqL hk112).2 rfl ?_
   refine gA X111 hx 480 (B at_478) rfl rfl rfl ?_
   refine gV X111 hx 483 hZ hown w156 w157 w159 w158 w43 w160 (by decide) p_ E_p [] [] (rm29 hw p_ (own_colf (2 : Int32) (own_st c1 2 (own_st c0 1 (0 : Int32)))) T110.heap n0 Z110 Qc) e111 0 rfl (M rfl) (lenOf pd26 rfl) (B at_480) rfl rfl rfl (fun v T113 L X113 Y => ?_)
   obtain ⟨rfl, N113q, e113⟩ := Y
   have N113 := Fr.app N111 N113q
   refine gl X113 hx 485 (B at_483) rfl rfl ?_
   refine gl X113 hx 487 (B at_485) rfl rfl ?_
   refine gm X113 hx 488 (1 : Int32) (B at_487) (by decide) rfl ?_
   refine gk X113 hx 489 1 (B at_488) rfl rfl ?_
   refine gp X113 hx 490 (2 : Int32) (B at_489) (by decide) rfl ?_
   refine gL X113 hx 491 (2 : Int64) (B at_490) (by decide) rfl ?_
   refine gC X113 hx 492 (B at_491) rfl ?_
   have hk114 : (own_colf (2 : Int32) (own_st c1 2 (own_st c0 1 (0 : Int32)))) = (2 : Int64) := by rw [hS]; decide
   refine gf X113 hx 495 (B at_492) (own_eqL hk114).2 rfl ?_
   refine gk X113 hx 496 1 (B at_495) rfl rfl ?_
   refine gg X113 hx 500 (B at_496) rfl ?_
   exact hG _ _ (g_retZ X113 hx hret hlk rfl (B at_500) (by decide) (by decide) ⟨rfl, N113⟩)
  have t453_2 : ∀  (TJ : State) (locsJ : List Loc), Stand p l e room_1 s m ([(.int x0), (.int x1), (.int x2), (.int x3), (.int m_), (.int n_)] : List Value).toArray below meth cO TJ locsJ 6 29 → TJ.heap = hT → Fr n0 locsJ → (own_st c1 2 (own_st c0 1 (0 : Int32))) = 2 → Go p e below Fn Q TJ (mkF m 453 #[I x0, I x1, I x2, I x3, I m_, I n_, A b1, A b10, I a_, I b_, I 2, I 1, I (-1 : Int32), I 2, I (((((1 : Int32) + (own_ea c0 (0 : Int32))) + (own_ea c1 c0)) + 0) + 0), I 2, U] []) := by
   intro  TJ locsJ XJ eJ NJ hS
   refine gA XJ hx 455 (B at_453) rfl rfl rfl ?_
   refine gk XJ hx 456 0 (B at_455) rfl rfl ?_
   refine gV XJ hx 459 hZ hown w122 w123 w125 w124 w7 w126 (by decide) b10 E_b10 [(.int 0)] [] (pa_2 hw b10 cp bf c0 c1 c2 c3 kF hT n0 Z17 G_b10 g_cp E_b10 W17_countedPosition W17_limit W17_buf W17_pos W17_noLineEndFrom W17_counted E_cp Pl Pc Pa V_bf nc0 nc1 nc2 nc3 hc0 hc1 hc2 hc3) eJ 0 rfl (M rfl) (lenOf pd25 rfl) (B at_456) rfl rfl rfl (fun v T115 L X115 Y => ?_)
   obtain ⟨p_, rfl, N115q, Z115, E_p, Ql, Qc, Qa⟩ := Y
   have N115 := Fr.app NJ N115q
   refine g_astore X115 hx 461 #[I x0, I x1, I x2, I x3, I m_, I n_, A b1, A b10, I a_, I b_, I 2, I 1, I (-1 : Int32), I 2, I (((((1 : Int32) + (own_ea c0 (0 : Int32))) + (own_ea c1 c0)) + 0) + 0), I 2, A p_] (B at_459) rfl rfl rfl ?_
   refine gl X115 hx 463 (B at_461) rfl rfl ?_
   refine gf X115 hx 466 (B at_463) (by decide) rfl ?_
   refine gA X115 hx 468 (B at_466) rfl rfl rfl ?_
   refine gV X115 hx 471 hZ hown w151 w152 w154 w153 w43 w155 (by decide) p_ E_p [] [] (rm28 hw p_ (own_step c1 c0 (own_step c0 0 (1 : Int64))) T115.heap n0 Z115 Ql) rfl 0 rfl (M rfl) (lenOf pd26 rfl) (B at_468) rfl rfl rfl (fun v T116 L X116 Y => ?_)
   obtain ⟨rfl, N116q, e116⟩ := Y
   have N116 := Fr.app N115 N116q
   refine gl X116 hx 473 (B at_471) rfl rfl ?_
   refine gL X116 hx 474 ((((((1 : Int32) + (own_ea c0 (0 : Int32))) + (own_ea c1 c0)) + 0) + 0).toInt64) (B at_473) rfl rfl ?_
   refine gC X116 hx 475 (B at_474) rfl ?_
   have hk117 : (own_step c1 c0 (own_step c0 0 (1 : Int64))) = ((((((1 : Int32) + (own_ea c0 (0 : Int32))) + (own_ea c1 c0)) + 0) + 0).toInt64) := own_fin_2 c0 c1 c2 c3
   refine gf X116 hx 478 (B at_475) (own_eqL hk117).2 rfl ?_
   refine gA X116 hx 480 (B at_478) rfl rfl rfl ?_
   refine gV X116 hx 483 hZ hown w156 w157 w159 w158 w43 w160 (by decide) p_ E_p [] [] (rm29 hw p_ (own_colf (2 : Int32) (own_st c1 2 (own_st c0 1 (0 : Int32)))) T115.heap n0 Z115 Qc) e116 0 rfl (M rfl) (lenOf pd26 rfl) (B at_480) rfl rfl rfl (fun v T118 L X118 Y => ?_)
   obtain ⟨rfl, N118q, e118⟩ := Y
   have N118 := Fr.app N116 N118q
   refine gl X118 hx 485 (B at_483) rfl rfl ?_
   refine gl X118 hx 487 (B at_485) rfl rfl ?_
   refine gm X118 hx 488 (0 : Int32) (B at_487) (by decide) rfl ?_
   refine gk X118 hx 489 1 (B at_488) rfl rfl ?_
   refine gp X118 hx 490 (1 : Int32) (B at_489) (by decide) rfl ?_
   refine gL X118 hx 491 (1 : Int64) (B at_490) (by decide) rfl ?_
   refine gC X118 hx 492 (B at_491) rfl ?_
   have hk119 : (own_colf (2 : Int32) (own_st c1 2 (own_st c0 1 (0 : Int32)))) = (1 : Int64) := by rw [hS]; decide
   refine gf X118 hx 495 (B at_492) (own_eqL hk119).2 rfl ?_
   refine gk X118 hx 496 1 (B at_495) rfl rfl ?_
   refine gg X118 hx 500 (B at_496) rfl ?_
   exact hG _ _ (g_retZ X118 hx hret hlk rfl (B at_500) (by decide) (by decide) ⟨rfl, N118⟩)
  refine gk X104 hx 376 0 (B at_375) rfl rfl ?_
  refine gs X104 hx 378 #[I x0, I x1, I x2, I x3, I m_, I n_, A b1, A b10, I a_, I b_, I 2, I 1, I (-1 : Int32), I 2, I (((((1 : Int32) + (own_ea c0 (0 : Int32))) + (own_ea c1 c0)) + 0) + 0), I 0, U] (B at_376) rfl rfl ?_
  refine gl X104 hx 380 (B at_378) rfl rfl ?_
  refine gf X104 hx 383 (B at_380) (by decide) rfl ?_
  refine gA X104 hx 385 (B at_383) rfl rfl rfl ?_
  refine gk X104 hx 386 0 (B at_385) rfl rfl ?_
  refine gc X104 hx 387 hZ e104 V_b1 c0 rfl rfl (B at_386) rfl ?_
  refine gS X104 hx 390 hZ hown w116 w117 w3 w118 (by decide) [(.int c0)] [] (rm21 hw c0 hT n0 Z17) e104 0 rfl (M rfl) (lenOf pd0 rfl) (B at_387) rfl rfl rfl (fun v T120 L X120 Y => ?_)
  obtain ⟨rfl, N120q, e120⟩ := Y
  have N120 := Fr.app N104 N120q
  by_cases hc121 : (own_term c0) = 0
  ·
   refine gt X120 hx 396 (B at_390) ((if0 _ _).trans (teq hc121).1) rfl ?_
   refine gl X120 hx 398 (B at_396) rfl rfl ?_
   refine gk X120 hx 399 1 (B at_398) rfl rfl ?_
   refine gF X120 hx 402 (B at_399) (by decide) rfl ?_
   refine gA X120 hx 404 (B at_402) rfl rfl rfl ?_
   refine gk X120 hx 405 1 (B at_404) rfl rfl ?_
   refine gc X120 hx 406 hZ e120 V_b1 c1 rfl rfl (B at_405) rfl ?_
   refine gS X120 hx 409 hZ hown w116 w117 w3 w118 (by decide) [(.int c1)] [] (rm21 hw c1 hT n0 Z17) e120 0 rfl (M rfl) (lenOf pd0 rfl) (B at_406) rfl rfl rfl (fun v T122 L X122 Y => ?_)
   obtain ⟨rfl, N122q, e122⟩ := Y
   have N122 := Fr.app N120 N122q
   by_cases hc123 : (own_term c1) = 0
   ·
    refine gt X122 hx 415 (B at_409) ((if0 _ _).trans (teq hc123).1) rfl ?_
    refine gl X122 hx 417 (B at_415) rfl rfl ?_
    refine gk X122 hx 418 2 (B at_417) rfl rfl ?_
    refine gT X122 hx 434 (B at_418) (by decide) rfl ?_
    refine gl X122 hx 436 (B at_434) rfl rfl ?_
    refine gk X122 hx 437 3 (B at_436) rfl rfl ?_
    refine gT X122 hx 453 (B at_437) (by decide) rfl ?_
    exact t453_0 _ _ X122 e122 N122 (by simp [own_st, hc121, hc123])
   ·
    refine gf X122 hx 412 (B at_409) ((if0 _ _).trans (feq hc123).1) rfl ?_
    refine gk X122 hx 413 2 (B at_412) rfl rfl ?_
    refine gs X122 hx 415 _ (B at_413) rfl rfl ?_
    refine gl X122 hx 417 (B at_415) rfl rfl ?_
    refine gk X122 hx 418 2 (B at_417) rfl rfl ?_
    refine gT X122 hx 434 (B at_418) (by decide) rfl ?_
    refine gl X122 hx 436 (B at_434) rfl rfl ?_
    refine gk X122 hx 437 3 (B at_436) rfl rfl ?_
    refine gT X122 hx 453 (B at_437) (by decide) rfl ?_
    exact t453_2 _ _ X122 e122 N122 (by simp [own_st, hc121, hc123])
  ·
   refine gf X120 hx 393 (B at_390) ((if0 _ _).trans (feq hc121).1) rfl ?_
   refine gk X120 hx 394 1 (B at_393) rfl rfl ?_
   refine gs X120 hx 396 _ (B at_394) rfl rfl ?_
   refine gl X120 hx 398 (B at_396) rfl rfl ?_
   refine gk X120 hx 399 1 (B at_398) rfl rfl ?_
   refine gF X120 hx 402 (B at_399) (by decide) rfl ?_
   refine gA X120 hx 404 (B at_402) rfl rfl rfl ?_
   refine gk X120 hx 405 1 (B at_404) rfl rfl ?_
   refine gc X120 hx 406 hZ e120 V_b1 c1 rfl rfl (B at_405) rfl ?_
   refine gS X120 hx 409 hZ hown w116 w117 w3 w118 (by decide) [(.int c1)] [] (rm21 hw c1 hT n0 Z17) e120 0 rfl (M rfl) (lenOf pd0 rfl) (B at_406) rfl rfl rfl (fun v T124 L X124 Y => ?_)
   obtain ⟨rfl, N124q, e124⟩ := Y
   have N124 := Fr.app N120 N124q
   by_cases hc125 : (own_term c1) = 0
   ·
    refine gt X124 hx 415 (B at_409) ((if0 _ _).trans (teq hc125).1) rfl ?_
    refine gl X124 hx 417 (B at_415) rfl rfl ?_
    refine gk X124 hx 418 2 (B at_417) rfl rfl ?_
    refine gT X124 hx 434 (B at_418) (by decide) rfl ?_
    refine gl X124 hx 436 (B at_434) rfl rfl ?_
    refine gk X124 hx 437 3 (B at_436) rfl rfl ?_
    refine gT X124 hx 453 (B at_437) (by decide) rfl ?_
    exact t453_1 _ _ X124 e124 N124 (by simp [own_st, hc121, hc125])
   ·
    refine gf X124 hx 412 (B at_409) ((if0 _ _).trans (feq hc125).1) rfl ?_
    refine gk X124 hx 413 2 (B at_412) rfl rfl ?_
    refine gs X124 hx 415 #[I x0, I x1, I x2, I x3, I m_, I n_, A b1, A b10, I a_, I b_, I 2, I 1, I (-1 : Int32), I 2, I (((((1 : Int32) + (own_ea c0 (0 : Int32))) + (own_ea c1 c0)) + 0) + 0), I 2, U] (B at_413) rfl rfl ?_
    refine gl X124 hx 417 (B at_415) rfl rfl ?_
    refine gk X124 hx 418 2 (B at_417) rfl rfl ?_
    refine gT X124 hx 434 (B at_418) (by decide) rfl ?_
    refine gl X124 hx 436 (B at_434) rfl rfl ?_
    refine gk X124 hx 437 3 (B at_436) rfl rfl ?_
    refine gT X124 hx 453 (B at_437) (by decide) rfl ?_
    exact t453_2 _ _ X124 e124 N124 (by simp [own_st, hc121, hc125])
 have t287_2 : ∀ (en : Int32) (TJ : State) (locsJ : List Loc), Stand p l e room_1 s m ([(.int x0), (.int x1), (.int x2), (.int x3), (.int m_), (.int n_)] : List Value).toArray below meth cO TJ locsJ 6 29 → TJ.heap = hT → Fr n0 locsJ → en = own_ea c2 c1 → ¬ own_term c2 = 0 → Go p e below Fn Q TJ (mkF m 287 #[I x0, I x1, I x2, I x3, I m_, I n_, A b1, A b10, I a_, I b_, I 2, I 1, I 2, I 2, I c1, I en, U] []) := by
  intro en TJ locsJ XJ eJ NJ hen te
  refine gA XJ hx 289 (B at_287) rfl rfl rfl ?_
  refine gl XJ hx 291 (B at_289) rfl rfl ?_
  refine gl XJ hx 293 (B at_291) rfl rfl ?_
  refine gm XJ hx 294 (0 : Int32) (B at_293) (by decide) rfl ?_
  refine gk XJ hx 295 1 (B at_294) rfl rfl ?_
  refine gp XJ hx 296 (1 : Int32) (B at_295) (by decide) rfl ?_
  refine gl XJ hx 298 (B at_296) rfl rfl ?_
  refine gl XJ hx 300 (B at_298) rfl rfl ?_
  refine gl XJ hx 302 (B at_300) rfl rfl ?_
  refine gm XJ hx 303 (0 : Int32) (B at_302) (by decide) rfl ?_
  refine gk XJ hx 304 1 (B at_303) rfl rfl ?_
  refine gp XJ hx 305 (1 : Int32) (B at_304) (by decide) rfl ?_
  refine gV XJ hx 308 hZ hown (W 168 rfl) (W 169 rfl) (W 171 rfl) (W 170 rfl) w7 (W 172 rfl) (by decide) b10 E_b10 [(.int 1), (.int en), (.int 1)] [] (mo_2_2 hw b10 cp bf en c0 c1 c2 c3 kF hT n0 Z17 G_b10 g_cp E_b10 W17_countedPosition W17_limit W17_buf W17_pos W17_noLineEndFrom W17_counted E_cp Pl Pc Pa V_bf nc0 nc1 nc2 nc3 hc0 hc1 hc2 hc3) eJ 0 rfl (M rfl) (lenOf pd11 rfl) (B at_305) rfl rfl rfl (fun v T126 L X126 Y => ?_)
  obtain ⟨rfl, N126q, K126, E126x, W126_countedPosition, W126_limit, W126_buf, W126_pos, W126_noLineEndFrom, W126_counted, E126y, Pl126, Pc126, Pa126⟩ := Y
  have N126 := Fr.app NJ N126q
  have V_b1 := V_b1.keep K126 (ninS ne_b1_b10 (ninS ne_u_cp nin0))
  have E_b10 := E_b10.keep K126
  have E_cp := E_cp.keep K126
  have V_bf := V_bf.keep K126 (ninS ne_bf_w (ninS ne_bf_cp nin0))
  have Z126 := Nat.le_trans Z17 K126.1
  refine gl X126 hx 310 (B at_308) rfl rfl ?_
  refine gk X126 hx 311 1 (B at_310) rfl rfl ?_
  refine gp X126 hx 312 (3 : Int32) (B at_311) (by decide) rfl ?_
  refine gs X126 hx 314 #[I x0, I x1, I x2, I x3, I m_, I n_, A b1, A b10, I a_, I b_, I 2, I 1, I 2, I 3, I c1, I en, U] (B at_312) rfl rfl ?_
  refine gl X126 hx 316 (B at_314) rfl rfl ?_
  refine gf X126 hx 319 (B at_316) (by decide) rfl ?_
  refine gA X126 hx 321 (B at_319) rfl rfl rfl ?_
  refine gG X126 hx 324 hZ hown (host := "") (Or.inl (W 114 rfl)) Via.refl rfl W126_pos (B at_321) rfl (fun T127 X127 e127 => ?_)
  refine gl X127 hx 326 (B at_324) rfl rfl ?_
  refine gF X127 hx 329 (B at_326) (by decide) rfl ?_
  refine gk X127 hx 330 1 (B at_329) rfl rfl ?_
  refine gg X127 hx 334 (B at_330) rfl ?_
  refine gs X127 hx 336 _ (B at_334) rfl rfl ?_
  refine gk X127 hx 337 1 (B at_336) rfl rfl ?_
  refine gA X127 hx 339 (B at_337) rfl rfl rfl ?_
  refine gk X127 hx 340 0 (B at_339) rfl rfl ?_
  refine gl X127 hx 342 (B at_340) rfl rfl ?_
  refine gS X127 hx 345 hZ hown w119 w120 w3 w121 (by decide) [(.ref b1), (.int 0), (.int 3)] [(.int 1)] (re_0_t hw b1 (3 : Int32) c0 c1 c2 c3 kS T126.heap n0 Z126 (by decide) V_b1) e127 1 rfl (M rfl) (lenOf pd24 rfl) (B at_342) rfl rfl rfl (fun v T128 L X128 Y => ?_)
  obtain ⟨rfl, N128q, e128⟩ := Y
  have N128 := Fr.app N126 N128q
  refine gp X128 hx 346 ((1 : Int32) + (own_ea c0 (0 : Int32))) (B at_345) rfl rfl ?_
  refine gA X128 hx 348 (B at_346) rfl rfl rfl ?_
  refine gk X128 hx 349 1 (B at_348) rfl rfl ?_
  refine gl X128 hx 351 (B at_349) rfl rfl ?_
  refine gS X128 hx 354 hZ hown w119 w120 w3 w121 (by decide) [(.ref b1), (.int 1), (.int 3)] [(.int ((1 : Int32) + (own_ea c0 (0 : Int32))))] (re_1_t hw b1 (3 : Int32) c0 c1 c2 c3 kS T126.heap n0 Z126 (by decide) V_b1) e128 1 rfl (M rfl) (lenOf pd24 rfl) (B at_351) rfl rfl rfl (fun v T129 L X129 Y => ?_)
  obtain ⟨rfl, N129q, e129⟩ := Y
  have N129 := Fr.app N128 N129q
  refine gp X129 hx 355 (((1 : Int32) + (own_ea c0 (0 : Int32))) + (own_ea c1 c0)) (B at_354) rfl rfl ?_
  refine gA X129 hx 357 (B at_355) rfl rfl rfl ?_
  refine gk X129 hx 358 2 (B at_357) rfl rfl ?_
  refine gl X129 hx 360 (B at_358) rfl rfl ?_
  refine gS X129 hx 363 hZ hown w119 w120 w3 w121 (by decide) [(.ref b1), (.int 2), (.int 3)] [(.int (((1 : Int32) + (own_ea c0 (0 : Int32))) + (own_ea c1 c0)))] (re_2_t hw b1 (3 : Int32) c0 c1 c2 c3 kS T126.heap n0 Z126 (by decide) V_b1) e129 1 rfl (M rfl) (lenOf pd24 rfl) (B at_360) rfl rfl rfl (fun v T130 L X130 Y => ?_)
  obtain ⟨rfl, N130q, e130⟩ := Y
  have N130 := Fr.app N129 N130q
  refine gp X130 hx 364 ((((1 : Int32) + (own_ea c0 (0 : Int32))) + (own_ea c1 c0)) + (own_ea c2 c1)) (B at_363) rfl rfl ?_
  refine gA X130 hx 366 (B at_364) rfl rfl rfl ?_
  refine gk X130 hx 367 3 (B at_366) rfl rfl ?_
  refine gl X130 hx 369 (B at_367) rfl rfl ?_
  refine gS X130 hx 372 hZ hown w119 w120 w3 w121 (by decide) [(.ref b1), (.int 3), (.int 3)] [(.int ((((1 : Int32) + (own_ea c0 (0 : Int32))) + (own_ea c1 c0)) + (own_ea c2 c1)))] (re_3_f hw b1 (3 : Int32) T126.heap n0 Z126 (by decide)) e130 1 rfl (M rfl) (lenOf pd24 rfl) (B at_369) rfl rfl rfl (fun v T131 L X131 Y => ?_)
  obtain ⟨rfl, N131q, e131⟩ := Y
  have N131 := Fr.app N130 N131q
  refine gp X131 hx 373 (((((1 : Int32) + (own_ea c0 (0 : Int32))) + (own_ea c1 c0)) + (own_ea c2 c1)) + 0) (B at_372) rfl rfl ?_
  refine gs X131 hx 375 #[I x0, I x1, I x2, I x3, I m_, I n_, A b1, A b10, I a_, I b_, I 2, I 1, I 2, I 3, I (((((1 : Int32) + (own_ea c0 (0 : Int32))) + (own_ea c1 c0)) + (own_ea c2 c1)) + 0), I en, U] (B at_373) rfl rfl ?_
  have t453 : ∀  (TJ : State) (locsJ : List Loc), Stand p l e room_1 s m ([(.int x0), (.int x1), (.int x2), (.int x3), (.int m_), (.int n_)] : List Value).toArray below meth cO TJ locsJ 6 29 → TJ.heap = T126.heap → Fr n0 locsJ → Go p e below Fn Q TJ (mkF m 453 #[I x0, I x1, I x2, I x3, I m_, I n_, A b1, A b10, I a_, I b_, I 2, I 1, I 2, I 3, I (((((1 : Int32) + (own_ea c0 (0 : Int32))) + (own_ea c1 c0)) + (own_ea c2 c1)) + 0), I 3, U] []) := by
   intro  TJ locsJ XJ eJ NJ 
   refine gA XJ hx 455 (B at_453) rfl rfl rfl ?_
   refine gk XJ hx 456 0 (B at_455) rfl rfl ?_
   refine gV XJ hx 459 hZ hown w122 w123 w125 w124 w7 w126 (by decide) b10 E_b10 [(.int 0)] [] (pa_same hw b10 cp bf (3 : Int32) ((own_step c1 c0 (own_step c0 0 (1 : Int64))) + en.toInt64) (1 : Int64) c2 c0 c1 c2 c3 kF T126.heap n0 Z126 G_b10 g_cp E_b10 W126_countedPosition W126_limit W126_buf W126_pos W126_noLineEndFrom W126_counted E_cp Pl126 Pc126 Pa126 V_bf nc0 nc1 nc2 nc3 hc0 hc1 hc2 hc3 nc2) eJ 0 rfl (M rfl) (lenOf pd25 rfl) (B at_456) rfl rfl rfl (fun v T132 L X132 Y => ?_)
   obtain ⟨p_, rfl, N132q, Z132, E_p, Ql, Qc, Qa⟩ := Y
   have N132 := Fr.app NJ N132q
   refine g_astore X132 hx 461 _ (B at_459) rfl rfl rfl ?_
   refine gl X132 hx 463 (B at_461) rfl rfl ?_
   refine gf X132 hx 466 (B at_463) (by decide) rfl ?_
   refine gA X132 hx 468 (B at_466) rfl rfl rfl ?_
   refine gV X132 hx 471 hZ hown w151 w152 w154 w153 w43 w155 (by decide) p_ E_p [] [] (rm28 hw p_ ((own_step c1 c0 (own_step c0 0 (1 : Int64))) + en.toInt64) T132.heap n0 Z132 Ql) rfl 0 rfl (M rfl) (lenOf pd26 rfl) (B at_468) rfl rfl rfl (fun v T133 L X133 Y => ?_)
   obtain ⟨rfl, N133q, e133⟩ := Y
   have N133 := Fr.app N132 N133q
   refine gl X133 hx 473 (B at_471) rfl rfl ?_
   refine gL X133 hx 474 ((((((1 : Int32) + (own_ea c0 (0 : Int32))) + (own_ea c1 c0)) + (own_ea c2 c1)) + 0).toInt64) (B at_473) rfl rfl ?_
   refine gC X133 hx 475 (B at_474) rfl ?_
   have hk134 : ((own_step c1 c0 (own_step c0 0 (1 : Int64))) + en.toInt64) = ((((((1 : Int32) + (own_ea c0 (0 : Int32))) + (own_ea c1 c0)) + (own_ea c2 c1)) + 0).toInt64) := by rw [hen]; exact own_fin_2_2 c0 c1 c2 c3 
   refine gf X133 hx 478 (B at_475) (own_eqL hk134).2 rfl ?_
   refine gA X133 hx 480 (B at_478) rfl rfl rfl ?_
   refine gV X133 hx 483 hZ hown w156 w157 w159 w158 w43 w160 (by decide) p_ E_p [] [] (rm29 hw p_ (1 : Int64) T132.heap n0 Z132 Qc) e133 0 rfl (M rfl) (lenOf pd26 rfl) (B at_480) rfl rfl rfl (fun v T135 L X135 Y => ?_)
   obtain ⟨rfl, N135q, e135⟩ := Y
   have N135 := Fr.app N133 N135q
   refine gl X135 hx 485 (B at_483) rfl rfl ?_
   refine gl X135 hx 487 (B at_485) rfl rfl ?_
   refine gm X135 hx 488 (0 : Int32) (B at_487) (by decide) rfl ?_
   refine gk X135 hx 489 1 (B at_488) rfl rfl ?_
   refine gp X135 hx 490 (1 : Int32) (B at_489) (by decide) rfl ?_
   refine gL X135 hx 491 (1 : Int64) (B at_490) (by decide) rfl ?_
   refine gC X135 hx 492 (B at_491) rfl ?_
   refine gf X135 hx 495 (B at_492) (own_eqL rfl).2 rfl ?_
   refine gk X135 hx 496 1 (B at_495) rfl rfl ?_
   refine gg X135 hx 500 (B at_496) rfl ?_
   exact hG _ _ (g_retZ X135 hx hret hlk rfl (B at_500) (by decide) (by decide) ⟨rfl, N135⟩)
  refine gk X131 hx 376 0 (B at_375) rfl rfl ?_
  refine gs X131 hx 378 _ (B at_376) rfl rfl ?_
  refine gl X131 hx 380 (B at_378) rfl rfl ?_
  refine gf X131 hx 383 (B at_380) (by decide) rfl ?_
  refine gA X131 hx 385 (B at_383) rfl rfl rfl ?_
  refine gk X131 hx 386 0 (B at_385) rfl rfl ?_
  refine gc X131 hx 387 hZ e131 V_b1 c0 rfl rfl (B at_386) rfl ?_
  refine gS X131 hx 390 hZ hown w116 w117 w3 w118 (by decide) [(.int c0)] [] (rm21 hw c0 T126.heap n0 Z126) e131 0 rfl (M rfl) (lenOf pd0 rfl) (B at_387) rfl rfl rfl (fun v T136 L X136 Y => ?_)
  obtain ⟨rfl, N136q, e136⟩ := Y
  have N136 := Fr.app N131 N136q
  by_cases hc137 : (own_term c0) = 0
  ·
   refine gt X136 hx 396 (B at_390) ((if0 _ _).trans (teq hc137).1) rfl ?_
   refine gl X136 hx 398 (B at_396) rfl rfl ?_
   refine gk X136 hx 399 1 (B at_398) rfl rfl ?_
   refine gF X136 hx 402 (B at_399) (by decide) rfl ?_
   refine gA X136 hx 404 (B at_402) rfl rfl rfl ?_
   refine gk X136 hx 405 1 (B at_404) rfl rfl ?_
   refine gc X136 hx 406 hZ e136 V_b1 c1 rfl rfl (B at_405) rfl ?_
   refine gS X136 hx 409 hZ hown w116 w117 w3 w118 (by decide) [(.int c1)] [] (rm21 hw c1 T126.heap n0 Z126) e136 0 rfl (M rfl) (lenOf pd0 rfl) (B at_406) rfl rfl rfl (fun v T138 L X138 Y => ?_)
   obtain ⟨rfl, N138q, e138⟩ := Y
   have N138 := Fr.app N136 N138q
   by_cases hc139 : (own_term c1) = 0
   ·
    refine gt X138 hx 415 (B at_409) ((if0 _ _).trans (teq hc139).1) rfl ?_
    refine gl X138 hx 417 (B at_415) rfl rfl ?_
    refine gk X138 hx 418 2 (B at_417) rfl rfl ?_
    refine gF X138 hx 421 (B at_418) (by decide) rfl ?_
    refine gA X138 hx 423 (B at_421) rfl rfl rfl ?_
    refine gk X138 hx 424 2 (B at_423) rfl rfl ?_
    refine gc X138 hx 425 hZ e138 V_b1 c2 rfl rfl (B at_424) rfl ?_
    refine gS X138 hx 428 hZ hown w116 w117 w3 w118 (by decide) [(.int c2)] [] (rm21 hw c2 T126.heap n0 Z126) e138 0 rfl (M rfl) (lenOf pd0 rfl) (B at_425) rfl rfl rfl (fun v T140 L X140 Y => ?_)
    obtain ⟨rfl, N140q, e140⟩ := Y
    have N140 := Fr.app N138 N140q
    have hk141 : ¬ ((own_term c2) = 0) := te
    refine gf X140 hx 431 (B at_428) ((if0 _ _).trans (feq hk141).1) rfl ?_
    refine gk X140 hx 432 3 (B at_431) rfl rfl ?_
    refine gs X140 hx 434 #[I x0, I x1, I x2, I x3, I m_, I n_, A b1, A b10, I a_, I b_, I 2, I 1, I 2, I 3, I (((((1 : Int32) + (own_ea c0 (0 : Int32))) + (own_ea c1 c0)) + (own_ea c2 c1)) + 0), I 3, U] (B at_432) rfl rfl ?_
    refine gl X140 hx 436 (B at_434) rfl rfl ?_
    refine gk X140 hx 437 3 (B at_436) rfl rfl ?_
    refine gT X140 hx 453 (B at_437) (by decide) rfl ?_
    exact t453 _ _ X140 e140 N140
   ·
    refine gf X138 hx 412 (B at_409) ((if0 _ _).trans (feq hc139).1) rfl ?_
    refine gk X138 hx 413 2 (B at_412) rfl rfl ?_
    refine gs X138 hx 415 #[I x0, I x1, I x2, I x3, I m_, I n_, A b1, A b10, I a_, I b_, I 2, I 1, I 2, I 3, I (((((1 : Int32) + (own_ea c0 (0 : Int32))) + (own_ea c1 c0)) + (own_ea c2 c1)) + 0), I 2, U] (B at_413) rfl rfl ?_
    refine gl X138 hx 417 (B at_415) rfl rfl ?_
    refine gk X138 hx 418 2 (B at_417) rfl rfl ?_
    refine gF X138 hx 421 (B at_418) (by decide) rfl ?_
    refine gA X138 hx 423 (B at_421) rfl rfl rfl ?_
    refine gk X138 hx 424 2 (B at_423) rfl rfl ?_
    refine gc X138 hx 425 hZ e138 V_b1 c2 rfl rfl (B at_424) rfl ?_
    refine gS X138 hx 428 hZ hown w116 w117 w3 w118 (by decide) [(.int c2)] [] (rm21 hw c2 T126.heap n0 Z126) e138 0 rfl (M rfl) (lenOf pd0 rfl) (B at_425) rfl rfl rfl (fun v T142 L X142 Y => ?_)
    obtain ⟨rfl, N142q, e142⟩ := Y
    have N142 := Fr.app N138 N142q
    have hk143 : ¬ ((own_term c2) = 0) := te
    refine gf X142 hx 431 (B at_428) ((if0 _ _).trans (feq hk143).1) rfl ?_
    refine gk X142 hx 432 3 (B at_431) rfl rfl ?_
    refine gs X142 hx 434 _ (B at_432) rfl rfl ?_
    refine gl X142 hx 436 (B at_434) rfl rfl ?_
    refine gk X142 hx 437 3 (B at_436) rfl rfl ?_
    refine gT X142 hx 453 (B at_437) (by decide) rfl ?_
    exact t453 _ _ X142 e142 N142
  ·
   refine gf X136 hx 393 (B at_390) ((if0 _ _).trans (feq hc137).1) rfl ?_
   refine gk X136 hx 394 1 (B at_393) rfl rfl ?_
   refine gs X136 hx 396 #[I x0, I x1, I x2, I x3, I m_, I n_, A b1, A b10, I a_, I b_, I 2, I 1, I 2, I 3, I (((((1 : Int32) + (own_ea c0 (0 : Int32))) + (own_ea c1 c0)) + (own_ea c2 c1)) + 0), I 1, U] (B at_394) rfl rfl ?_
   refine gl X136 hx 398 (B at_396) rfl rfl ?_
   refine gk X136 hx 399 1 (B at_398) rfl rfl ?_
   refine gF X136 hx 402 (B at_399) (by decide) rfl ?_
   refine gA X136 hx 404 (B at_402) rfl rfl rfl ?_
   refine gk X136 hx 405 1 (B at_404) rfl rfl ?_
   refine gc X136 hx 406 hZ e136 V_b1 c1 rfl rfl (B at_405) rfl ?_
   refine gS X136 hx 409 hZ hown w116 w117 w3 w118 (by decide) [(.int c1)] [] (rm21 hw c1 T126.heap n0 Z126) e136 0 rfl (M rfl) (lenOf pd0 rfl) (B at_406) rfl rfl rfl (fun v T144 L X144 Y => ?_)
   obtain ⟨rfl, N144q, e144⟩ := Y
   have N144 := Fr.app N136 N144q
   by_cases hc145 : (own_term c1) = 0
   ·
    refine gt X144 hx 415 (B at_409) ((if0 _ _).trans (teq hc145).1) rfl ?_
    refine gl X144 hx 417 (B at_415) rfl rfl ?_
    refine gk X144 hx 418 2 (B at_417) rfl rfl ?_
    refine gF X144 hx 421 (B at_418) (by decide) rfl ?_
    refine gA X144 hx 423 (B at_421) rfl rfl rfl ?_
    refine gk X144 hx 424 2 (B at_423) rfl rfl ?_
    refine gc X144 hx 425 hZ e144 V_b1 c2 rfl rfl (B at_424) rfl ?_
    refine gS X144 hx 428 hZ hown w116 w117 w3 w118 (by decide) [(.int c2)] [] (rm21 hw c2 T126.heap n0 Z126) e144 0 rfl (M rfl) (lenOf pd0 rfl) (B at_425) rfl rfl rfl (fun v T146 L X146 Y => ?_)
    obtain ⟨rfl, N146q, e146⟩ := Y
    have N146 := Fr.app N144 N146q
    have hk147 : ¬ ((own_term c2) = 0) := te
    refine gf X146 hx 431 (B at_428) ((if0 _ _).trans (feq hk147).1) rfl ?_
    refine gk X146 hx 432 3 (B at_431) rfl rfl ?_
    refine gs X146 hx 434 _ (B at_432) rfl rfl ?_
    refine gl X146 hx 436 (B at_434) rfl rfl ?_
    refine gk X146 hx 437 3 (B at_436) rfl rfl ?_
    refine gT X146 hx 453 (B at_437) (by decide) rfl ?_
    exact t453 _ _ X146 e146 N146
   ·
    refine gf X144 hx 412 (B at_409) ((if0 _ _).trans (feq hc145).1) rfl ?_
    refine gk X144 hx 413 2 (B at_412) rfl rfl ?_
    refine gs X144 hx 415 _ (B at_413) rfl rfl ?_
    refine gl X144 hx 417 (B at_415) rfl rfl ?_
    refine gk X144 hx 418 2 (B at_417) rfl rfl ?_
    refine gF X144 hx 421 (B at_418) (by decide) rfl ?_
    refine gA X144 hx 423 (B at_421) rfl rfl rfl ?_
    refine gk X144 hx 424 2 (B at_423) rfl rfl ?_
    refine gc X144 hx 425 hZ e144 V_b1 c2 rfl rfl (B at_424) rfl ?_
    refine gS X144 hx 428 hZ hown w116 w117 w3 w118 (by decide) [(.int c2)] [] (rm21 hw c2 T126.heap n0 Z126) e144 0 rfl (M rfl) (lenOf pd0 rfl) (B at_425) rfl rfl rfl (fun v T148 L X148 Y => ?_)
    obtain ⟨rfl, N148q, e148⟩ := Y
    have N148 := Fr.app N144 N148q
    have hk149 : ¬ ((own_term c2) = 0) := te
    refine gf X148 hx 431 (B at_428) ((if0 _ _).trans (feq hk149).1) rfl ?_
    refine gk X148 hx 432 3 (B at_431) rfl rfl ?_
    refine gs X148 hx 434 #[I x0, I x1, I x2, I x3, I m_, I n_, A b1, A b10, I a_, I b_, I 2, I 1, I 2, I 3, I (((((1 : Int32) + (own_ea c0 (0 : Int32))) + (own_ea c1 c0)) + (own_ea c2 c1)) + 0), I 3, U] (B at_432) rfl rfl ?_
    refine gl X148 hx 436 (B at_434) rfl rfl ?_
    refine gk X148 hx 437 3 (B at_436) rfl rfl ?_
    refine gT X148 hx 453 (B at_437) (by decide) rfl ?_
    exact t453 _ _ X148 e148 N148
 have t219_2 : ∀  (TJ : State) (locsJ : List Loc), Stand p l e room_1 s m ([(.int x0), (.int x1), (.int x2), (.int x3), (.int m_), (.int n_)] : List Value).toArray below meth cO TJ locsJ 6 29 → TJ.heap = hT → Fr n0 locsJ → ¬ own_term c2 = 0 → Go p e below Fn Q TJ (mkF m 219 #[I x0, I x1, I x2, I x3, I m_, I n_, A b1, A b10, I a_, I b_, I 2, I 1, I 2, U, U, U, U] []) := by
  intro  TJ locsJ XJ eJ NJ te
  refine gl XJ hx 221 (B at_219) rfl rfl ?_
  refine gs XJ hx 223 #[I x0, I x1, I x2, I x3, I m_, I n_, A b1, A b10, I a_, I b_, I 2, I 1, I 2, I 2, U, U, U] (B at_221) rfl rfl ?_
  refine gl XJ hx 225 (B at_223) rfl rfl ?_
  refine gf XJ hx 228 (B at_225) (by decide) rfl ?_
  refine gl XJ hx 230 (B at_228) rfl rfl ?_
  refine gl XJ hx 232 (B at_230) rfl rfl ?_
  refine gT XJ hx 245 (B at_232) (by decide) rfl ?_
  refine gl XJ hx 247 (B at_245) rfl rfl ?_
  refine gf XJ hx 250 (B at_247) (by decide) rfl ?_
  refine gA XJ hx 252 (B at_250) rfl rfl rfl ?_
  refine gl XJ hx 254 (B at_252) rfl rfl ?_
  refine gk XJ hx 255 1 (B at_254) rfl rfl ?_
  refine gm XJ hx 256 (1 : Int32) (B at_255) (by decide) rfl ?_
  refine gc XJ hx 257 hZ eJ V_b1 c1 rfl rfl (B at_256) rfl ?_
  refine gg XJ hx 261 (B at_257) rfl ?_
  refine gs XJ hx 263 _ (B at_261) rfl rfl ?_
  refine gA XJ hx 265 (B at_263) rfl rfl rfl ?_
  refine gl XJ hx 267 (B at_265) rfl rfl ?_
  refine gc XJ hx 268 hZ eJ V_b1 c2 rfl rfl (B at_267) rfl ?_
  refine gb XJ hx 270 13 (B at_268) rfl rfl ?_
  by_cases hc150 : c2 = 13
  ·
   refine gT XJ hx 280 (B at_270) (teq hc150).1 rfl ?_
   refine gk XJ hx 281 1 (B at_280) rfl rfl ?_
   refine gg XJ hx 285 (B at_281) rfl ?_
   refine gs XJ hx 287 #[I x0, I x1, I x2, I x3, I m_, I n_, A b1, A b10, I a_, I b_, I 2, I 1, I 2, I 2, I c1, I 1, U] (B at_285) rfl rfl ?_
   exact t287_2 (1 : Int32) _ _ XJ eJ NJ (by unfold own_ea; rw [if_neg te, if_pos hc150]) te 
  ·
   refine gF XJ hx 273 (B at_270) (feq hc150).1 rfl ?_
   refine gl XJ hx 275 (B at_273) rfl rfl ?_
   refine gb XJ hx 277 13 (B at_275) rfl rfl ?_
   by_cases hc151 : c1 = 13
   ·
    refine gT XJ hx 284 (B at_277) (teq hc151).1 rfl ?_
    refine gk XJ hx 285 0 (B at_284) rfl rfl ?_
    refine gs XJ hx 287 #[I x0, I x1, I x2, I x3, I m_, I n_, A b1, A b10, I a_, I b_, I 2, I 1, I 2, I 2, I c1, I 0, U] (B at_285) rfl rfl ?_
    exact t287_2 (0 : Int32) _ _ XJ eJ NJ (by unfold own_ea; rw [if_neg te, if_neg hc150, if_pos hc151]) te 
   ·
    refine gF XJ hx 280 (B at_277) (feq hc151).1 rfl ?_
    refine gk XJ hx 281 1 (B at_280) rfl rfl ?_
    refine gg XJ hx 285 (B at_281) rfl ?_
    refine gs XJ hx 287 #[I x0, I x1, I x2, I x3, I m_, I n_, A b1, A b10, I a_, I b_, I 2, I 1, I 2, I 2, I c1, I 1, U] (B at_285) rfl rfl ?_
    exact t287_2 (1 : Int32) _ _ XJ eJ NJ (by unfold own_ea; rw [if_neg te, if_neg hc150, if_neg hc151]) te 
 have t287_3 : ∀ (en : Int32) (TJ : State) (locsJ : List Loc), Stand p l e room_1 s m ([(.int x0), (.int x1), (.int x2), (.int x3), (.int m_), (.int n_)] : List Value).toArray below meth cO TJ locsJ 6 29 → TJ.heap = hT → Fr n0 locsJ → en = own_ea c3 c2 → ¬ own_term c3 = 0 → own_term c2 = 0 → Go p e below Fn Q TJ (mkF m 287 #[I x0, I x1, I x2, I x3, I m_, I n_, A b1, A b10, I a_, I b_, I 2, I 1, I 3, I 2, I c2, I en, U] []) := by
  intro en TJ locsJ XJ eJ NJ hen te z2
  refine gA XJ hx 289 (B at_287) rfl rfl rfl ?_
  refine gl XJ hx 291 (B at_289) rfl rfl ?_
  refine gl XJ hx 293 (B at_291) rfl rfl ?_
  refine gm XJ hx 294 (1 : Int32) (B at_293) (by decide) rfl ?_
  refine gk XJ hx 295 1 (B at_294) rfl rfl ?_
  refine gp XJ hx 296 (2 : Int32) (B at_295) (by decide) rfl ?_
  refine gl XJ hx 298 (B at_296) rfl rfl ?_
  refine gl XJ hx 300 (B at_298) rfl rfl ?_
  refine gl XJ hx 302 (B at_300) rfl rfl ?_
  refine gm XJ hx 303 (1 : Int32) (B at_302) (by decide) rfl ?_
  refine gk XJ hx 304 1 (B at_303) rfl rfl ?_
  refine gp XJ hx 305 (2 : Int32) (B at_304) (by decide) rfl ?_
  refine gV XJ hx 308 hZ hown (W 168 rfl) (W 169 rfl) (W 171 rfl) (W 170 rfl) w7 (W 172 rfl) (by decide) b10 E_b10 [(.int 2), (.int en), (.int 2)] [] (mo_2_3 hw b10 cp bf en c0 c1 c2 c3 kF hT n0 Z17 G_b10 g_cp E_b10 W17_countedPosition W17_limit W17_buf W17_pos W17_noLineEndFrom W17_counted E_cp Pl Pc Pa V_bf nc0 nc1 nc2 nc3 hc0 hc1 hc2 hc3) eJ 0 rfl (M rfl) (lenOf pd11 rfl) (B at_305) rfl rfl rfl (fun v T152 L X152 Y => ?_)
  obtain ⟨rfl, N152q, K152, E152x, W152_countedPosition, W152_limit, W152_buf, W152_pos, W152_noLineEndFrom, W152_counted, E152y, Pl152, Pc152, Pa152⟩ := Y
  have N152 := Fr.app NJ N152q
  have V_b1 := V_b1.keep K152 (ninS ne_b1_b10 (ninS ne_u_cp nin0))
  have E_b10 := E_b10.keep K152
  have E_cp := E_cp.keep K152
  have V_bf := V_bf.keep K152 (ninS ne_bf_w (ninS ne_bf_cp nin0))
  have Z152 := Nat.le_trans Z17 K152.1
  refine gl X152 hx 310 (B at_308) rfl rfl ?_
  refine gk X152 hx 311 1 (B at_310) rfl rfl ?_
  refine gp X152 hx 312 (4 : Int32) (B at_311) (by decide) rfl ?_
  refine gs X152 hx 314 #[I x0, I x1, I x2, I x3, I m_, I n_, A b1, A b10, I a_, I b_, I 2, I 1, I 3, I 4, I c2, I en, U] (B at_312) rfl rfl ?_
  refine gl X152 hx 316 (B at_314) rfl rfl ?_
  refine gf X152 hx 319 (B at_316) (by decide) rfl ?_
  refine gA X152 hx 321 (B at_319) rfl rfl rfl ?_
  refine gG X152 hx 324 hZ hown (host := "") (Or.inl (W 114 rfl)) Via.refl rfl W152_pos (B at_321) rfl (fun T153 X153 e153 => ?_)
  refine gl X153 hx 326 (B at_324) rfl rfl ?_
  refine gF X153 hx 329 (B at_326) (by decide) rfl ?_
  refine gk X153 hx 330 1 (B at_329) rfl rfl ?_
  refine gg X153 hx 334 (B at_330) rfl ?_
  refine gs X153 hx 336 _ (B at_334) rfl rfl ?_
  refine gk X153 hx 337 1 (B at_336) rfl rfl ?_
  refine gA X153 hx 339 (B at_337) rfl rfl rfl ?_
  refine gk X153 hx 340 0 (B at_339) rfl rfl ?_
  refine gl X153 hx 342 (B at_340) rfl rfl ?_
  refine gS X153 hx 345 hZ hown w119 w120 w3 w121 (by decide) [(.ref b1), (.int 0), (.int 4)] [(.int 1)] (re_0_t hw b1 (4 : Int32) c0 c1 c2 c3 kS T152.heap n0 Z152 (by decide) V_b1) e153 1 rfl (M rfl) (lenOf pd24 rfl) (B at_342) rfl rfl rfl (fun v T154 L X154 Y => ?_)
  obtain ⟨rfl, N154q, e154⟩ := Y
  have N154 := Fr.app N152 N154q
  refine gp X154 hx 346 ((1 : Int32) + (own_ea c0 (0 : Int32))) (B at_345) rfl rfl ?_
  refine gA X154 hx 348 (B at_346) rfl rfl rfl ?_
  refine gk X154 hx 349 1 (B at_348) rfl rfl ?_
  refine gl X154 hx 351 (B at_349) rfl rfl ?_
  refine gS X154 hx 354 hZ hown w119 w120 w3 w121 (by decide) [(.ref b1), (.int 1), (.int 4)] [(.int ((1 : Int32) + (own_ea c0 (0 : Int32))))] (re_1_t hw b1 (4 : Int32) c0 c1 c2 c3 kS T152.heap n0 Z152 (by decide) V_b1) e154 1 rfl (M rfl) (lenOf pd24 rfl) (B at_351) rfl rfl rfl (fun v T155 L X155 Y => ?_)
  obtain ⟨rfl, N155q, e155⟩ := Y
  have N155 := Fr.app N154 N155q
  refine gp X155 hx 355 (((1 : Int32) + (own_ea c0 (0 : Int32))) + (own_ea c1 c0)) (B at_354) rfl rfl ?_
  refine gA X155 hx 357 (B at_355) rfl rfl rfl ?_
  refine gk X155 hx 358 2 (B at_357) rfl rfl ?_
  refine gl X155 hx 360 (B at_358) rfl rfl ?_
  refine gS X155 hx 363 hZ hown w119 w120 w3 w121 (by decide) [(.ref b1), (.int 2), (.int 4)] [(.int (((1 : Int32) + (own_ea c0 (0 : Int32))) + (own_ea c1 c0)))] (re_2_t hw b1 (4 : Int32) c0 c1 c2 c3 kS T152.heap n0 Z152 (by decide) V_b1) e155 1 rfl (M rfl) (lenOf pd24 rfl) (B at_360) rfl rfl rfl (fun v T156 L X156 Y => ?_)
  obtain ⟨rfl, N156q, e156⟩ := Y
  have N156 := Fr.app N155 N156q
  refine gp X156 hx 364 ((((1 : Int32) + (own_ea c0 (0 : Int32))) + (own_ea c1 c0)) + (own_ea c2 c1)) (B at_363) rfl rfl ?_
  refine gA X156 hx 366 (B at_364) rfl rfl rfl ?_
  refine gk X156 hx 367 3 (B at_366) rfl rfl ?_
  refine gl X156 hx 369 (B at_367) rfl rfl ?_
  refine gS X156 hx 372 hZ hown w119 w120 w3 w121 (by decide) [(.ref b1), (.int 3), (.int 4)] [(.int ((((1 : Int32) + (own_ea c0 (0 : Int32))) + (own_ea c1 c0)) + (own_ea c2 c1)))] (re_3_t hw b1 (4 : Int32) c0 c1 c2 c3 kS T152.heap n0 Z152 (by decide) V_b1) e156 1 rfl (M rfl) (lenOf pd24 rfl) (B at_369) rfl rfl rfl (fun v T157 L X157 Y => ?_)
  obtain ⟨rfl, N157q, e157⟩ := Y
  have N157 := Fr.app N156 N157q
  refine gp X157 hx 373 (((((1 : Int32) + (own_ea c0 (0 : Int32))) + (own_ea c1 c0)) + (own_ea c2 c1)) + (own_ea c3 c2)) (B at_372) rfl rfl ?_
  refine gs X157 hx 375 #[I x0, I x1, I x2, I x3, I m_, I n_, A b1, A b10, I a_, I b_, I 2, I 1, I 3, I 4, I (((((1 : Int32) + (own_ea c0 (0 : Int32))) + (own_ea c1 c0)) + (own_ea c2 c1)) + (own_ea c3 c2)), I en, U] (B at_373) rfl rfl ?_
  have t453 : ∀  (TJ : State) (locsJ : List Loc), Stand p l e room_1 s m ([(.int x0), (.int x1), (.int x2), (.int x3), (.int m_), (.int n_)] : List Value).toArray below meth cO TJ locsJ 6 29 → TJ.heap = T152.heap → Fr n0 locsJ → Go p e below Fn Q TJ (mkF m 453 #[I x0, I x1, I x2, I x3, I m_, I n_, A b1, A b10, I a_, I b_, I 2, I 1, I 3, I 4, I (((((1 : Int32) + (own_ea c0 (0 : Int32))) + (own_ea c1 c0)) + (own_ea c2 c1)) + (own_ea c3 c2)), I 4, U] []) := by
   intro  TJ locsJ XJ eJ NJ 
   refine gA XJ hx 455 (B at_453) rfl rfl rfl ?_
   refine gk XJ hx 456 0 (B at_455) rfl rfl ?_
   refine gV XJ hx 459 hZ hown w122 w123 w125 w124 w7 w126 (by decide) b10 E_b10 [(.int 0)] [] (pa_same hw b10 cp bf (4 : Int32) ((own_step c1 c0 (own_step c0 0 (1 : Int64))) + en.toInt64) (1 : Int64) c3 c0 c1 c2 c3 kF T152.heap n0 Z152 G_b10 g_cp E_b10 W152_countedPosition W152_limit W152_buf W152_pos W152_noLineEndFrom W152_counted E_cp Pl152 Pc152 Pa152 V_bf nc0 nc1 nc2 nc3 hc0 hc1 hc2 hc3 nc3) eJ 0 rfl (M rfl) (lenOf pd25 rfl) (B at_456) rfl rfl rfl (fun v T158 L X158 Y => ?_)
   obtain ⟨p_, rfl, N158q, Z158, E_p, Ql, Qc, Qa⟩ := Y
   have N158 := Fr.app NJ N158q
   refine g_astore X158 hx 461 _ (B at_459) rfl rfl rfl ?_
   refine gl X158 hx 463 (B at_461) rfl rfl ?_
   refine gf X158 hx 466 (B at_463) (by decide) rfl ?_
   refine gA X158 hx 468 (B at_466) rfl rfl rfl ?_
   refine gV X158 hx 471 hZ hown w151 w152 w154 w153 w43 w155 (by decide) p_ E_p [] [] (rm28 hw p_ ((own_step c1 c0 (own_step c0 0 (1 : Int64))) + en.toInt64) T158.heap n0 Z158 Ql) rfl 0 rfl (M rfl) (lenOf pd26 rfl) (B at_468) rfl rfl rfl (fun v T159 L X159 Y => ?_)
   obtain ⟨rfl, N159q, e159⟩ := Y
   have N159 := Fr.app N158 N159q
   refine gl X159 hx 473 (B at_471) rfl rfl ?_
   refine gL X159 hx 474 ((((((1 : Int32) + (own_ea c0 (0 : Int32))) + (own_ea c1 c0)) + (own_ea c2 c1)) + (own_ea c3 c2)).toInt64) (B at_473) rfl rfl ?_
   refine gC X159 hx 475 (B at_474) rfl ?_
   have hk160 : ((own_step c1 c0 (own_step c0 0 (1 : Int64))) + en.toInt64) = ((((((1 : Int32) + (own_ea c0 (0 : Int32))) + (own_ea c1 c0)) + (own_ea c2 c1)) + (own_ea c3 c2)).toInt64) := by rw [hen]; exact own_fin_2_3 c0 c1 c2 c3 z2
   refine gf X159 hx 478 (B at_475) (own_eqL hk160).2 rfl ?_
   refine gA X159 hx 480 (B at_478) rfl rfl rfl ?_
   refine gV X159 hx 483 hZ hown w156 w157 w159 w158 w43 w160 (by decide) p_ E_p [] [] (rm29 hw p_ (1 : Int64) T158.heap n0 Z158 Qc) e159 0 rfl (M rfl) (lenOf pd26 rfl) (B at_480) rfl rfl rfl (fun v T161 L X161 Y => ?_)
   obtain ⟨rfl, N161q, e161⟩ := Y
   have N161 := Fr.app N159 N161q
   refine gl X161 hx 485 (B at_483) rfl rfl ?_
   refine gl X161 hx 487 (B at_485) rfl rfl ?_
   refine gm X161 hx 488 (0 : Int32) (B at_487) (by decide) rfl ?_
   refine gk X161 hx 489 1 (B at_488) rfl rfl ?_
   refine gp X161 hx 490 (1 : Int32) (B at_489) (by decide) rfl ?_
   refine gL X161 hx 491 (1 : Int64) (B at_490) (by decide) rfl ?_
   refine gC X161 hx 492 (B at_491) rfl ?_
   refine gf X161 hx 495 (B at_492) (own_eqL rfl).2 rfl ?_
   refine gk X161 hx 496 1 (B at_495) rfl rfl ?_
   refine gg X161 hx 500 (B at_496) rfl ?_
   exact hG _ _ (g_retZ X161 hx hret hlk rfl (B at_500) (by decide) (by decide) ⟨rfl, N161⟩)
  refine gk X157 hx 376 0 (B at_375) rfl rfl ?_
  refine gs X157 hx 378 _ (B at_376) rfl rfl ?_
  refine gl X157 hx 380 (B at_378) rfl rfl ?_
  refine gf X157 hx 383 (B at_380) (by decide) rfl ?_
  refine gA X157 hx 385 (B at_383) rfl rfl rfl ?_
  refine gk X157 hx 386 0 (B at_385) rfl rfl ?_
  refine gc X157 hx 387 hZ e157 V_b1 c0 rfl rfl (B at_386) rfl ?_
  refine gS X157 hx 390 hZ hown w116 w117 w3 w118 (by decide) [(.int c0)] [] (rm21 hw c0 T152.heap n0 Z152) e157 0 rfl (M rfl) (lenOf pd0 rfl) (B at_387) rfl rfl rfl (fun v T162 L X162 Y => ?_)
  obtain ⟨rfl, N162q, e162⟩ := Y
  have N162 := Fr.app N157 N162q
  by_cases hc163 : (own_term c0) = 0
  ·
   refine gt X162 hx 396 (B at_390) ((if0 _ _).trans (teq hc163).1) rfl ?_
   refine gl X162 hx 398 (B at_396) rfl rfl ?_
   refine gk X162 hx 399 1 (B at_398) rfl rfl ?_
   refine gF X162 hx 402 (B at_399) (by decide) rfl ?_
   refine gA X162 hx 404 (B at_402) rfl rfl rfl ?_
   refine gk X162 hx 405 1 (B at_404) rfl rfl ?_
   refine gc X162 hx 406 hZ e162 V_b1 c1 rfl rfl (B at_405) rfl ?_
   refine gS X162 hx 409 hZ hown w116 w117 w3 w118 (by decide) [(.int c1)] [] (rm21 hw c1 T152.heap n0 Z152) e162 0 rfl (M rfl) (lenOf pd0 rfl) (B at_406) rfl rfl rfl (fun v T164 L X164 Y => ?_)
   obtain ⟨rfl, N164q, e164⟩ := Y
   have N164 := Fr.app N162 N164q
   by_cases hc165 : (own_term c1) = 0
   ·
    refine gt X164 hx 415 (B at_409) ((if0 _ _).trans (teq hc165).1) rfl ?_
    refine gl X164 hx 417 (B at_415) rfl rfl ?_
    refine gk X164 hx 418 2 (B at_417) rfl rfl ?_
    refine gF X164 hx 421 (B at_418) (by decide) rfl ?_
    refine gA X164 hx 423 (B at_421) rfl rfl rfl ?_
    refine gk X164 hx 424 2 (B at_423) rfl rfl ?_
    refine gc X164 hx 425 hZ e164 V_b1 c2 rfl rfl (B at_424) rfl ?_
    refine gS X164 hx 428 hZ hown w116 w117 w3 w118 (by decide) [(.int c2)] [] (rm21 hw c2 T152.heap n0 Z152) e164 0 rfl (M rfl) (lenOf pd0 rfl) (B at_425) rfl rfl rfl (fun v T166 L X166 Y => ?_)
    obtain ⟨rfl, N166q, e166⟩ := Y
    have N166 := Fr.app N164 N166q
    have hk167 : (own_term c2) = 0 := z2
    refine gt X166 hx 434 (B at_428) ((if0 _ _).trans (teq hk167).1) rfl ?_
    refine gl X166 hx 436 (B at_434) rfl rfl ?_
    refine gk X166 hx 437 3 (B at_436) rfl rfl ?_
    refine gF X166 hx 440 (B at_437) (by decide) rfl ?_
    refine gA X166 hx 442 (B at_440) rfl rfl rfl ?_
    refine gk X166 hx 443 3 (B at_442) rfl rfl ?_
    refine gc X166 hx 444 hZ e166 V_b1 c3 rfl rfl (B at_443) rfl ?_
    refine gS X166 hx 447 hZ hown w116 w117 w3 w118 (by decide) [(.int c3)] [] (rm21 hw c3 T152.heap n0 Z152) e166 0 rfl (M rfl) (lenOf pd0 rfl) (B at_444) rfl rfl rfl (fun v T168 L X168 Y => ?_)
    obtain ⟨rfl, N168q, e168⟩ := Y
    have N168 := Fr.app N166 N168q
    have hk169 : ¬ ((own_term c3) = 0) := te
    refine gf X168 hx 450 (B at_447) ((if0 _ _).trans (feq hk169).1) rfl ?_
    refine gk X168 hx 451 4 (B at_450) rfl rfl ?_
    refine gs X168 hx 453 #[I x0, I x1, I x2, I x3, I m_, I n_, A b1, A b10, I a_, I b_, I 2, I 1, I 3, I 4, I (((((1 : Int32) + (own_ea c0 (0 : Int32))) + (own_ea c1 c0)) + (own_ea c2 c1)) + (own_ea c3 c2)), I 4, U] (B at_451) rfl rfl ?_
    exact t453 _ _ X168 e168 N168
   ·
    refine gf X164 hx 412 (B at_409) ((if0 _ _).trans (feq hc165).1) rfl ?_
    refine gk X164 hx 413 2 (B at_412) rfl rfl ?_
    refine gs X164 hx 415 #[I x0, I x1, I x2, I x3, I m_, I n_, A b1, A b10, I a_, I b_, I 2, I 1, I 3, I 4, I (((((1 : Int32) + (own_ea c0 (0 : Int32))) + (own_ea c1 c0)) + (own_ea c2 c1)) + (own_ea c3 c2)), I 2, U] (B at_413) rfl rfl ?_
    refine gl X164 hx 417 (B at_415) rfl rfl ?_
    refine gk X164 hx 418 2 (B at_417) rfl rfl ?_
    refine gF X164 hx 421 (B at_418) (by decide) rfl ?_
    refine gA X164 hx 423 (B at_421) rfl rfl rfl ?_
    refine gk X164 hx 424 2 (B at_423) rfl rfl ?_
    refine gc X164 hx 425 hZ e164 V_b1 c2 rfl rfl (B at_424) rfl ?_
    refine gS X164 hx 428 hZ hown w116 w117 w3 w118 (by decide) [(.int c2)] [] (rm21 hw c2 T152.heap n0 Z152) e164 0 rfl (M rfl) (lenOf pd0 rfl) (B at_425) rfl rfl rfl (fun v T170 L X170 Y => ?_)
    obtain ⟨rfl, N170q, e170⟩ := Y
    have N170 := Fr.app N164 N170q
    have hk171 : (own_term c2) = 0 := z2
    refine gt X170 hx 434 (B at_428) ((if0 _ _).trans (teq hk171).1) rfl ?_
    refine gl X170 hx 436 (B at_434) rfl rfl ?_
    refine gk X170 hx 437 3 (B at_436) rfl rfl ?_
    refine gF X170 hx 440 (B at_437) (by decide) rfl ?_
    refine gA X170 hx 442 (B at_440) rfl rfl rfl ?_
    refine gk X170 hx 443 3 (B at_442) rfl rfl ?_
    refine gc X170 hx 444 hZ e170 V_b1 c3 rfl rfl (B at_443) rfl ?_
    refine gS X170 hx 447 hZ hown w116 w117 w3 w118 (by decide) [(.int c3)] [] (rm21 hw c3 T152.heap n0 Z152) e170 0 rfl (M rfl) (lenOf pd0 rfl) (B at_444) rfl rfl rfl (fun v T172 L X172 Y => ?_)
    obtain ⟨rfl, N172q, e172⟩ := Y
    have N172 := Fr.app N170 N172q
    have hk173 : ¬ ((own_term c3) = 0) := te
    refine gf X172 hx 450 (B at_447) ((if0 _ _).trans (feq hk173).1) rfl ?_
    refine gk X172 hx 451 4 (B at_450) rfl rfl ?_
    refine gs X172 hx 453 _ (B at_451) rfl rfl ?_
    exact t453 _ _ X172 e172 N172
  ·
   refine gf X162 hx 393 (B at_390) ((if0 _ _).trans (feq hc163).1) rfl ?_
   refine gk X162 hx 394 1 (B at_393) rfl rfl ?_
   refine gs X162 hx 396 #[I x0, I x1, I x2, I x3, I m_, I n_, A b1, A b10, I a_, I b_, I 2, I 1, I 3, I 4, I (((((1 : Int32) + (own_ea c0 (0 : Int32))) + (own_ea c1 c0)) + (own_ea c2 c1)) + (own_ea c3 c2)), I 1, U] (B at_394) rfl rfl ?_
   refine gl X162 hx 398 (B at_396) rfl rfl ?_
   refine gk X162 hx 399 1 (B at_398) rfl rfl ?_
   refine gF X162 hx 402 (B at_399) (by decide) rfl ?_
   refine gA X162 hx 404 (B at_402) rfl rfl rfl ?_
   refine gk X162 hx 405 1 (B at_404) rfl rfl ?_
   refine gc X162 hx 406 hZ e162 V_b1 c1 rfl rfl (B at_405) rfl ?_
   refine gS X162 hx 409 hZ hown w116 w117 w3 w118 (by decide) [(.int c1)] [] (rm21 hw c1 T152.heap n0 Z152) e162 0 rfl (M rfl) (lenOf pd0 rfl) (B at_406) rfl rfl rfl (fun v T174 L X174 Y => ?_)
   obtain ⟨rfl, N174q, e174⟩ := Y
   have N174 := Fr.app N162 N174q
   by_cases hc175 : (own_term c1) = 0
   ·
    refine gt X174 hx 415 (B at_409) ((if0 _ _).trans (teq hc175).1) rfl ?_
    refine gl X174 hx 417 (B at_415) rfl rfl ?_
    refine gk X174 hx 418 2 (B at_417) rfl rfl ?_
    refine gF X174 hx 421 (B at_418) (by decide) rfl ?_
    refine gA X174 hx 423 (B at_421) rfl rfl rfl ?_
    refine gk X174 hx 424 2 (B at_423) rfl rfl ?_
    refine gc X174 hx 425 hZ e174 V_b1 c2 rfl rfl (B at_424) rfl ?_
    refine gS X174 hx 428 hZ hown w116 w117 w3 w118 (by decide) [(.int c2)] [] (rm21 hw c2 T152.heap n0 Z152) e174 0 rfl (M rfl) (lenOf pd0 rfl) (B at_425) rfl rfl rfl (fun v T176 L X176 Y => ?_)
    obtain ⟨rfl, N176q, e176⟩ := Y
    have N176 := Fr.app N174 N176q
    have hk177 : (own_term c2) = 0 := z2
    refine gt X176 hx 434 (B at_428) ((if0 _ _).trans (teq hk177).1) rfl ?_
    refine gl X176 hx 436 (B at_434) rfl rfl ?_
    refine gk X176 hx 437 3 (B at_436) rfl rfl ?_
    refine gF X176 hx 440 (B at_437) (by decide) rfl ?_
    refine gA X176 hx 442 (B at_440) rfl rfl rfl ?_
    refine gk X176 hx 443 3 (B at_442) rfl rfl ?_
    refine gc X176 hx 444 hZ e176 V_b1 c3 rfl rfl (B at_443) rfl ?_
    refine gS X176 hx 447 hZ hown w116 w117 w3 w118 (by decide) [(.int c3)] [] (rm21 hw c3 T152.heap n0 Z152) e176 0 rfl (M rfl) (lenOf pd0 rfl) (B at_444) rfl rfl rfl (fun v T178 L X178 Y => ?_)
    obtain ⟨rfl, N178q, e178⟩ := Y
    have N178 := Fr.app N176 N178q
    have hk179 : ¬ ((own_term c3) = 0) := te
    refine gf X178 hx 450 (B at_447) ((if0 _ _).trans (feq hk179).1) rfl ?_
    refine gk X178 hx 451 4 (B at_450) rfl rfl ?_
    refine gs X178 hx 453 _ (B at_451) rfl rfl ?_
    exact t453 _ _ X178 e178 N178
   ·
    refine gf X174 hx 412 (B at_409) ((if0 _ _).trans (feq hc175).1) rfl ?_
    refine gk X174 hx 413 2 (B at_412) rfl rfl ?_
    refine gs X174 hx 415 _ (B at_413) rfl rfl ?_
    refine gl X174 hx 417 (B at_415) rfl rfl ?_
    refine gk X174 hx 418 2 (B at_417) rfl rfl ?_
    refine gF X174 hx 421 (B at_418) (by decide) rfl ?_
    refine gA X174 hx 423 (B at_421) rfl rfl rfl ?_
    refine gk X174 hx 424 2 (B at_423) rfl rfl ?_
    refine gc X174 hx 425 hZ e174 V_b1 c2 rfl rfl (B at_424) rfl ?_
    refine gS X174 hx 428 hZ hown w116 w117 w3 w118 (by decide) [(.int c2)] [] (rm21 hw c2 T152.heap n0 Z152) e174 0 rfl (M rfl) (lenOf pd0 rfl) (B at_425) rfl rfl rfl (fun v T180 L X180 Y => ?_)
    obtain ⟨rfl, N180q, e180⟩ := Y
    have N180 := Fr.app N174 N180q
    have hk181 : (own_term c2) = 0 := z2
    refine gt X180 hx 434 (B at_428) ((if0 _ _).trans (teq hk181).1) rfl ?_
    refine gl X180 hx 436 (B at_434) rfl rfl ?_
    refine gk X180 hx 437 3 (B at_436) rfl rfl ?_
    refine gF X180 hx 440 (B at_437) (by decide) rfl ?_
    refine gA X180 hx 442 (B at_440) rfl rfl rfl ?_
    refine gk X180 hx 443 3 (B at_442) rfl rfl ?_
    refine gc X180 hx 444 hZ e180 V_b1 c3 rfl rfl (B at_443) rfl ?_
    refine gS X180 hx 447 hZ hown w116 w117 w3 w118 (by decide) [(.int c3)] [] (rm21 hw c3 T152.heap n0 Z152) e180 0 rfl (M rfl) (lenOf pd0 rfl) (B at_444) rfl rfl rfl (fun v T182 L X182 Y => ?_)
    obtain ⟨rfl, N182q, e182⟩ := Y
    have N182 := Fr.app N180 N182q
    have hk183 : ¬ ((own_term c3) = 0) := te
    refine gf X182 hx 450 (B at_447) ((if0 _ _).trans (feq hk183).1) rfl ?_
    refine gk X182 hx 451 4 (B at_450) rfl rfl ?_
    refine gs X182 hx 453 #[I x0, I x1, I x2, I x3, I m_, I n_, A b1, A b10, I a_, I b_, I 2, I 1, I 3, I 4, I (((((1 : Int32) + (own_ea c0 (0 : Int32))) + (own_ea c1 c0)) + (own_ea c2 c1)) + (own_ea c3 c2)), I 4, U] (B at_451) rfl rfl ?_
    exact t453 _ _ X182 e182 N182
 have t219_3 : ∀  (TJ : State) (locsJ : List Loc), Stand p l e room_1 s m ([(.int x0), (.int x1), (.int x2), (.int x3), (.int m_), (.int n_)] : List Value).toArray below meth cO TJ locsJ 6 29 → TJ.heap = hT → Fr n0 locsJ → ¬ own_term c3 = 0 → own_term c2 = 0 → Go p e below Fn Q TJ (mkF m 219 #[I x0, I x1, I x2, I x3, I m_, I n_, A b1, A b10, I a_, I b_, I 2, I 1, I 3, U, U, U, U] []) := by
  intro  TJ locsJ XJ eJ NJ te z2
  refine gl XJ hx 221 (B at_219) rfl rfl ?_
  refine gs XJ hx 223 #[I x0, I x1, I x2, I x3, I m_, I n_, A b1, A b10, I a_, I b_, I 2, I 1, I 3, I 2, U, U, U] (B at_221) rfl rfl ?_
  refine gl XJ hx 225 (B at_223) rfl rfl ?_
  refine gf XJ hx 228 (B at_225) (by decide) rfl ?_
  refine gl XJ hx 230 (B at_228) rfl rfl ?_
  refine gl XJ hx 232 (B at_230) rfl rfl ?_
  refine gF XJ hx 235 (B at_232) (by decide) rfl ?_
  refine gA XJ hx 237 (B at_235) rfl rfl rfl ?_
  refine gl XJ hx 239 (B at_237) rfl rfl ?_
  refine gk XJ hx 240 1 (B at_239) rfl rfl ?_
  refine gm XJ hx 241 (2 : Int32) (B at_240) (by decide) rfl ?_
  refine gc XJ hx 242 hZ eJ V_b1 c2 rfl rfl (B at_241) rfl ?_
  refine gg XJ hx 261 (B at_242) rfl ?_
  refine gs XJ hx 263 _ (B at_261) rfl rfl ?_
  refine gA XJ hx 265 (B at_263) rfl rfl rfl ?_
  refine gl XJ hx 267 (B at_265) rfl rfl ?_
  refine gc XJ hx 268 hZ eJ V_b1 c3 rfl rfl (B at_267) rfl ?_
  refine gb XJ hx 270 13 (B at_268) rfl rfl ?_
  by_cases hc184 : c3 = 13
  ·
   refine gT XJ hx 280 (B at_270) (teq hc184).1 rfl ?_
   refine gk XJ hx 281 1 (B at_280) rfl rfl ?_
   refine gg XJ hx 285 (B at_281) rfl ?_
   refine gs XJ hx 287 #[I x0, I x1, I x2, I x3, I m_, I n_, A b1, A b10, I a_, I b_, I 2, I 1, I 3, I 2, I c2, I 1, U] (B at_285) rfl rfl ?_
   exact t287_3 (1 : Int32) _ _ XJ eJ NJ (by unfold own_ea; rw [if_neg te, if_pos hc184]) te z2
  ·
   refine gF XJ hx 273 (B at_270) (feq hc184).1 rfl ?_
   refine gl XJ hx 275 (B at_273) rfl rfl ?_
   refine gb XJ hx 277 13 (B at_275) rfl rfl ?_
   by_cases hc185 : c2 = 13
   ·
    refine gT XJ hx 284 (B at_277) (teq hc185).1 rfl ?_
    refine gk XJ hx 285 0 (B at_284) rfl rfl ?_
    refine gs XJ hx 287 #[I x0, I x1, I x2, I x3, I m_, I n_, A b1, A b10, I a_, I b_, I 2, I 1, I 3, I 2, I c2, I 0, U] (B at_285) rfl rfl ?_
    exact t287_3 (0 : Int32) _ _ XJ eJ NJ (by unfold own_ea; rw [if_neg te, if_neg hc184, if_pos hc185]) te z2
   ·
    refine gF XJ hx 280 (B at_277) (feq hc185).1 rfl ?_
    refine gk XJ hx 281 1 (B at_280) rfl rfl ?_
    refine gg XJ hx 285 (B at_281) rfl ?_
    refine gs XJ hx 287 #[I x0, I x1, I x2, I x3, I m_, I n_, A b1, A b10, I a_, I b_, I 2, I 1, I 3, I 2, I c2, I 1, U] (B at_285) rfl rfl ?_
    exact t287_3 (1 : Int32) _ _ XJ eJ NJ (by unfold own_ea; rw [if_neg te, if_neg hc184, if_neg hc185]) te z2
 refine gk XJ hx 142 (-1 : Int32) (B at_141) rfl rfl ?_
 refine gs XJ hx 144 #[I x0, I x1, I x2, I x3, I m_, I n_, A b1, A b10, I a_, I b_, I 2, I 1, I (-1 : Int32), U, U, U, U] (B at_142) rfl rfl ?_
 refine gl XJ hx 146 (B at_144) rfl rfl ?_
 refine gk XJ hx 147 3 (B at_146) rfl rfl ?_
 refine gF XJ hx 150 (B at_147) (by decide) rfl ?_
 refine gA XJ hx 152 (B at_150) rfl rfl rfl ?_
 refine gk XJ hx 153 3 (B at_152) rfl rfl ?_
 refine gc XJ hx 154 hZ eJ V_b1 c3 rfl rfl (B at_153) rfl ?_
 refine gS XJ hx 157 hZ hown w116 w117 w3 w118 (by decide) [(.int c3)] [] (rm21 hw c3 hT n0 Z17) eJ 0 rfl (M rfl) (lenOf pd0 rfl) (B at_154) rfl rfl rfl (fun v T186 L X186 Y => ?_)
 obtain ⟨rfl, N186q, e186⟩ := Y
 have N186 := Fr.app NJ N186q
 by_cases hc187 : (own_term c3) = 0
 ·
  refine gt X186 hx 163 (B at_157) ((if0 _ _).trans (teq hc187).1) rfl ?_
  refine gl X186 hx 165 (B at_163) rfl rfl ?_
  refine gk X186 hx 166 2 (B at_165) rfl rfl ?_
  refine gF X186 hx 169 (B at_166) (by decide) rfl ?_
  refine gA X186 hx 171 (B at_169) rfl rfl rfl ?_
  refine gk X186 hx 172 2 (B at_171) rfl rfl ?_
  refine gc X186 hx 173 hZ e186 V_b1 c2 rfl rfl (B at_172) rfl ?_
  refine gS X186 hx 176 hZ hown w116 w117 w3 w118 (by decide) [(.int c2)] [] (rm21 hw c2 hT n0 Z17) e186 0 rfl (M rfl) (lenOf pd0 rfl) (B at_173) rfl rfl rfl (fun v T188 L X188 Y => ?_)
  obtain ⟨rfl, N188q, e188⟩ := Y
  have N188 := Fr.app N186 N188q
  by_cases hc189 : (own_term c2) = 0
  ·
   refine gt X188 hx 182 (B at_176) ((if0 _ _).trans (teq hc189).1) rfl ?_
   refine gl X188 hx 184 (B at_182) rfl rfl ?_
   refine gk X188 hx 185 1 (B at_184) rfl rfl ?_
   refine gT X188 hx 201 (B at_185) (by decide) rfl ?_
   refine gl X188 hx 203 (B at_201) rfl rfl ?_
   refine gt X188 hx 219 (B at_203) (by decide) rfl ?_
   exact t219_m _ _ X188 e188 N188
  ·
   refine gf X188 hx 179 (B at_176) ((if0 _ _).trans (feq hc189).1) rfl ?_
   refine gk X188 hx 180 2 (B at_179) rfl rfl ?_
   refine gs X188 hx 182 _ (B at_180) rfl rfl ?_
   refine gl X188 hx 184 (B at_182) rfl rfl ?_
   refine gk X188 hx 185 1 (B at_184) rfl rfl ?_
   refine gT X188 hx 201 (B at_185) (by decide) rfl ?_
   refine gl X188 hx 203 (B at_201) rfl rfl ?_
   refine gt X188 hx 219 (B at_203) (by decide) rfl ?_
   exact t219_2 _ _ X188 e188 N188 hc189 
 ·
  refine gf X186 hx 160 (B at_157) ((if0 _ _).trans (feq hc187).1) rfl ?_
  refine gk X186 hx 161 3 (B at_160) rfl rfl ?_
  refine gs X186 hx 163 _ (B at_161) rfl rfl ?_
  refine gl X186 hx 165 (B at_163) rfl rfl ?_
  refine gk X186 hx 166 2 (B at_165) rfl rfl ?_
  refine gF X186 hx 169 (B at_166) (by decide) rfl ?_
  refine gA X186 hx 171 (B at_169) rfl rfl rfl ?_
  refine gk X186 hx 172 2 (B at_171) rfl rfl ?_
  refine gc X186 hx 173 hZ e186 V_b1 c2 rfl rfl (B at_172) rfl ?_
  refine gS X186 hx 176 hZ hown w116 w117 w3 w118 (by decide) [(.int c2)] [] (rm21 hw c2 hT n0 Z17) e186 0 rfl (M rfl) (lenOf pd0 rfl) (B at_173) rfl rfl rfl (fun v T190 L X190 Y => ?_)
  obtain ⟨rfl, N190q, e190⟩ := Y
  have N190 := Fr.app N186 N190q
  by_cases hc191 : (own_term c2) = 0
  ·
   refine gt X190 hx 182 (B at_176) ((if0 _ _).trans (teq hc191).1) rfl ?_
   refine gl X190 hx 184 (B at_182) rfl rfl ?_
   refine gk X190 hx 185 1 (B at_184) rfl rfl ?_
   refine gT X190 hx 201 (B at_185) (by decide) rfl ?_
   refine gl X190 hx 203 (B at_201) rfl rfl ?_
   refine gt X190 hx 219 (B at_203) (by decide) rfl ?_
   exact t219_3 _ _ X190 e190 N190 hc187 hc191
  ·
   refine gf X190 hx 179 (B at_176) ((if0 _ _).trans (feq hc191).1) rfl ?_
   refine gk X190 hx 180 2 (B at_179) rfl rfl ?_
   refine gs X190 hx 182 #[I x0, I x1, I x2, I x3, I m_, I n_, A b1, A b10, I a_, I b_, I 2, I 1, I 2, U, U, U, U] (B at_180) rfl rfl ?_
   refine gl X190 hx 184 (B at_182) rfl rfl ?_
   refine gk X190 hx 185 1 (B at_184) rfl rfl ?_
   refine gT X190 hx 201 (B at_185) (by decide) rfl ?_
   refine gl X190 hx 203 (B at_201) rfl rfl ?_
   refine gt X190 hx 219 (B at_203) (by decide) rfl ?_
   exact t219_2 _ _ X190 e190 N190 hc191 
set_option maxRecDepth 65536 in
set_option maxHeartbeats 40000000 in
theorem law_3 {l : Launch} {Z : State} {a0 : Array Value} {x0 x1 x2 x3 m_ n_ a_ b_ c0 c1 c2 c3 : Int32} {b1 b10 cp bf : Addr} {kS kF : ClassId} {hT : Heap} {n0 : Nat} {p : Program} {e : Env} {s : State} {m : MethodId} {below : List Frame} {meth : Method} {cO : Code} (hw : ∀ d ∈ tables_1, d.before a0 Z = true) (hx : p.tables.exec = Jvm.exec) (hby : cO.code = code) (hml : cO.maxLocals = 17) (hown : s.vm.findClass "gleanwell/WindowMoveByPinLaw" = some m.cls) (hret : meth.sig.returnType = some .boolean) (hlk : meth.locks = false) (hZ : Z.Warmed39 s.vm)  (TK : State) (locsJ : List Loc) (XJ : Stand p l e room_1 s m ([(.int x0), (.int x1), (.int x2), (.int x3), (.int m_), (.int n_)] : List Value).toArray below meth cO TK locsJ 6 29) (eJ : TK.heap = hT) (NJ : Fr n0 locsJ) (V_b1 : Arv Z hT b1 kS .char (4 : Int32) [(.int c0), (.int c1), (.int c2), (.int c3)] (.int 0)) (V_bf : Arv Z hT bf kF .char (5 : Int32) [(.int c0), (.int c1), (.int c2), (.int c3), (.int 0)] (.int 0)) (E_b10 : Exa Z hT b10 "gleanwell/Window") (E_cp : Exa Z hT cp "gleanwell/Position") (Pl : Fld Z hT cp "gleanwell/Position" "line" "J" (.long (1 : Int64))) (Pc : Fld Z hT cp "gleanwell/Position" "column" "J" (.long (1 : Int64))) (Pa : Fld Z hT cp "gleanwell/Position" "last" "C" (.int 0)) (W17_countedPosition : Fld Z hT b10 "gleanwell/Window" "countedPosition" "Lgleanwell/Position;" (.ref cp)) (W17_limit : Fld Z hT b10 "gleanwell/Window" "limit" "I" (.int 4)) (W17_buf : Fld Z hT b10 "gleanwell/Window" "buf" "[C" (.ref bf)) (W17_pos : Fld Z hT b10 "gleanwell/Window" "pos" "I" (.int 3)) (W17_noLineEndFrom : Fld Z hT b10 "gleanwell/Window" "noLineEndFrom" "I" (.int 3)) (W17_counted : Fld Z hT b10 "gleanwell/Window" "counted" "I" (.int 0)) (ne_b1_b10 : b1 ≠ b10) (ne_cp_w : cp ≠ b10) (ne_bf_w : bf ≠ b10) (ne_bf_cp : bf ≠ cp) (ne_u_cp : b1 ≠ cp) (G_b10 : n0 ≤ b10) (g_cp : n0 ≤ cp) (Z17 : n0 ≤ hT.size) (nc0 : nar .char c0 = c0) (nc1 : nar .char c1 = c1) (nc2 : nar .char c2 = c2) (nc3 : nar .char c3 = c3) (hc0 : ¬ 255 < c0) (hc1 : ¬ 255 < c1) (hc2 : ¬ 255 < c2) (hc3 : ¬ 255 < c3) :
  Go p e below (fun o t L => FrameEnd s o t L room_1.cells room_1.slots) (fun v h L => v = some (.int 1) ∧ Fr n0 L) TK (mkF m 141 #[I x0, I x1, I x2, I x3, I m_, I n_, A b1, A b10, I a_, I b_, I 3, I 1, U, U, U, U, U] []) := by
 have hown : s.vm.findClass "gleanwell/WindowMoveByPinLaw" = some m.cls := hown
 refine own_lq (fun Fn Q hG => ?_)
 have B {q : Nat} {r : Instr × Nat} (h : decode code q = .ok r) : decode cO.code q = .ok r := hb hby h
 have W {d : Jvm.Cond} (i : Nat) (h : tables_1[i]? = some d) : d.before a0 Z = true := own_w hw i h
 have w119 := W 119 rfl
 have w120 := W 120 rfl
 have w3 := W 3 rfl
 have w121 := W 121 rfl
 have w122 := W 122 rfl
 have w123 := W 123 rfl
 have w125 := W 125 rfl
 have w124 := W 124 rfl
 have w7 := W 7 rfl
 have w126 := W 126 rfl
 have w151 := W 151 rfl
 have w152 := W 152 rfl
 have w154 := W 154 rfl
 have w153 := W 153 rfl
 have w43 := W 43 rfl
 have w155 := W 155 rfl
 have w156 := W 156 rfl
 have w157 := W 157 rfl
 have w159 := W 159 rfl
 have w158 := W 158 rfl
 have w160 := W 160 rfl
 have w116 := W 116 rfl
 have w117 := W 117 rfl
 have w118 := W 118 rfl
 have M {n : Nat} (h : n = _) : n = cO.maxLocals := h.trans hml.symm
 have t219_m : ∀  (TJ : State) (locsJ : List Loc), Stand p l e room_1 s m ([(.int x0), (.int x1), (.int x2), (.int x3), (.int m_), (.int n_)] : List Value).toArray below meth cO TJ locsJ 6 29 → TJ.heap = hT → Fr n0 locsJ → Go p e below Fn Q TJ (mkF m 219 #[I x0, I x1, I x2, I x3, I m_, I n_, A b1, A b10, I a_, I b_, I 3, I 1, I (-1 : Int32), U, U, U, U] []) := by
  intro  TJ locsJ XJ eJ NJ 
  refine gl XJ hx 221 (B at_219) rfl rfl ?_
  refine gs XJ hx 223 #[I x0, I x1, I x2, I x3, I m_, I n_, A b1, A b10, I a_, I b_, I 3, I 1, I (-1 : Int32), I 3, U, U, U] (B at_221) rfl rfl ?_
  refine gl XJ hx 225 (B at_223) rfl rfl ?_
  refine gt XJ hx 336 (B at_225) (by decide) rfl ?_
  refine gk XJ hx 337 1 (B at_336) rfl rfl ?_
  refine gA XJ hx 339 (B at_337) rfl rfl rfl ?_
  refine gk XJ hx 340 0 (B at_339) rfl rfl ?_
  refine gl XJ hx 342 (B at_340) rfl rfl ?_
  refine gS XJ hx 345 hZ hown w119 w120 w3 w121 (by decide) [(.ref b1), (.int 0), (.int 3)] [(.int 1)] (re_0_t hw b1 (3 : Int32) c0 c1 c2 c3 kS hT n0 Z17 (by decide) V_b1) eJ 1 rfl (M rfl) (lenOf pd24 rfl) (B at_342) rfl rfl rfl (fun v T101 L X101 Y => ?_)
  obtain ⟨rfl, N101q, e101⟩ := Y
  have N101 := Fr.app NJ N101q
  refine gp X101 hx 346 ((1 : Int32) + (own_ea c0 (0 : Int32))) (B at_345) rfl rfl ?_
  refine gA X101 hx 348 (B at_346) rfl rfl rfl ?_
  refine gk X101 hx 349 1 (B at_348) rfl rfl ?_
  refine gl X101 hx 351 (B at_349) rfl rfl ?_
  refine gS X101 hx 354 hZ hown w119 w120 w3 w121 (by decide) [(.ref b1), (.int 1), (.int 3)] [(.int ((1 : Int32) + (own_ea c0 (0 : Int32))))] (re_1_t hw b1 (3 : Int32) c0 c1 c2 c3 kS hT n0 Z17 (by decide) V_b1) e101 1 rfl (M rfl) (lenOf pd24 rfl) (B at_351) rfl rfl rfl (fun v T102 L X102 Y => ?_)
  obtain ⟨rfl, N102q, e102⟩ := Y
  have N102 := Fr.app N101 N102q
  refine gp X102 hx 355 (((1 : Int32) + (own_ea c0 (0 : Int32))) + (own_ea c1 c0)) (B at_354) rfl rfl ?_
  refine gA X102 hx 357 (B at_355) rfl rfl rfl ?_
  refine gk X102 hx 358 2 (B at_357) rfl rfl ?_
  refine gl X102 hx 360 (B at_358) rfl rfl ?_
  refine gS X102 hx 363 hZ hown w119 w120 w3 w121 (by decide) [(.ref b1), (.int 2), (.int 3)] [(.int (((1 : Int32) + (own_ea c0 (0 : Int32))) + (own_ea c1 c0)))] (re_2_t hw b1 (3 : Int32) c0 c1 c2 c3 kS hT n0 Z17 (by decide) V_b1) e102 1 rfl (M rfl) (lenOf pd24 rfl) (B at_360) rfl rfl rfl (fun v T103 L X103 Y => ?_)
  obtain ⟨rfl, N103q, e103⟩ := Y
  have N103 := Fr.app N102 N103q
  refine gp X103 hx 364 ((((1 : Int32) + (own_ea c0 (0 : Int32))) + (own_ea c1 c0)) + (own_ea c2 c1)) (B at_363) rfl rfl ?_
  refine gA X103 hx 366 (B at_364) rfl rfl rfl ?_
  refine gk X103 hx 367 3 (B at_366) rfl rfl ?_
  refine gl X103 hx 369 (B at_367) rfl rfl ?_
  refine gS X103 hx 372 hZ hown w119 w120 w3 w121 (by decide) [(.ref b1), (.int 3), (.int 3)] [(.int ((((1 : Int32) + (own_ea c0 (0 : Int32))) + (own_ea c1 c0)) + (own_ea c2 c1)))] (re_3_f hw b1 (3 : Int32) hT n0 Z17 (by decide)) e103 1 rfl (M rfl) (lenOf pd24 rfl) (B at_369) rfl rfl rfl (fun v T104 L X104 Y => ?_)
  obtain ⟨rfl, N104q, e104⟩ := Y
  have N104 := Fr.app N103 N104q
  refine gp X104 hx 373 (((((1 : Int32) + (own_ea c0 (0 : Int32))) + (own_ea c1 c0)) + (own_ea c2 c1)) + 0) (B at_372) rfl rfl ?_
  refine gs X104 hx 375 _ (B at_373) rfl rfl ?_
  have t453_0 : ∀  (TJ : State) (locsJ : List Loc), Stand p l e room_1 s m ([(.int x0), (.int x1), (.int x2), (.int x3), (.int m_), (.int n_)] : List Value).toArray below meth cO TJ locsJ 6 29 → TJ.heap = hT → Fr n0 locsJ → (own_st c2 3 (own_st c1 2 (own_st c0 1 (0 : Int32)))) = 0 → Go p e below Fn Q TJ (mkF m 453 #[I x0, I x1, I x2, I x3, I m_, I n_, A b1, A b10, I a_, I b_, I 3, I 1, I (-1 : Int32), I 3, I (((((1 : Int32) + (own_ea c0 (0 : Int32))) + (own_ea c1 c0)) + (own_ea c2 c1)) + 0), I 0, U] []) := by
   intro  TJ locsJ XJ eJ NJ hS
   refine gA XJ hx 455 (B at_453) rfl rfl rfl ?_
   refine gk XJ hx 456 0 (B at_455) rfl rfl ?_
   refine gV XJ hx 459 hZ hown w122 w123 w125 w124 w7 w126 (by decide) b10 E_b10 [(.int 0)] [] (pa_3 hw b10 cp bf c0 c1 c2 c3 kF hT n0 Z17 G_b10 g_cp E_b10 W17_countedPosition W17_limit W17_buf W17_pos W17_noLineEndFrom W17_counted E_cp Pl Pc Pa V_bf nc0 nc1 nc2 nc3 hc0 hc1 hc2 hc3) eJ 0 rfl (M rfl) (lenOf pd25 rfl) (B at_456) rfl rfl rfl (fun v T105 L X105 Y => ?_)
   obtain ⟨p_, rfl, N105q, Z105, E_p, Ql, Qc, Qa⟩ := Y
   have N105 := Fr.app NJ N105q
   refine g_astore X105 hx 461 #[I x0, I x1, I x2, I x3, I m_, I n_, A b1, A b10, I a_, I b_, I 3, I 1, I (-1 : Int32), I 3, I (((((1 : Int32) + (own_ea c0 (0 : Int32))) + (own_ea c1 c0)) + (own_ea c2 c1)) + 0), I 0, A p_] (B at_459) rfl rfl rfl ?_
   refine gl X105 hx 463 (B at_461) rfl rfl ?_
   refine gf X105 hx 466 (B at_463) (by decide) rfl ?_
   refine gA X105 hx 468 (B at_466) rfl rfl rfl ?_
   refine gV X105 hx 471 hZ hown w151 w152 w154 w153 w43 w155 (by decide) p_ E_p [] [] (rm28 hw p_ (own_step c2 c1 (own_step c1 c0 (own_step c0 0 (1 : Int64)))) T105.heap n0 Z105 Ql) rfl 0 rfl (M rfl) (lenOf pd26 rfl) (B at_468) rfl rfl rfl (fun v T106 L X106 Y => ?_)
   obtain ⟨rfl, N106q, e106⟩ := Y
   have N106 := Fr.app N105 N106q
   refine gl X106 hx 473 (B at_471) rfl rfl ?_
   refine gL X106 hx 474 ((((((1 : Int32) + (own_ea c0 (0 : Int32))) + (own_ea c1 c0)) + (own_ea c2 c1)) + 0).toInt64) (B at_473) rfl rfl ?_
   refine gC X106 hx 475 (B at_474) rfl ?_
   have hk107 : (own_step c2 c1 (own_step c1 c0 (own_step c0 0 (1 : Int64)))) = ((((((1 : Int32) + (own_ea c0 (0 : Int32))) + (own_ea c1 c0)) + (own_ea c2 c1)) + 0).toInt64) := own_fin_3 c0 c1 c2 c3
   refine gf X106 hx 478 (B at_475) (own_eqL hk107).2 rfl ?_
   refine gA X106 hx 480 (B at_478) rfl rfl rfl ?_
   refine gV X106 hx 483 hZ hown w156 w157 w159 w158 w43 w160 (by decide) p_ E_p [] [] (rm29 hw p_ (own_colf (3 : Int32) (own_st c2 3 (own_st c1 2 (own_st c0 1 (0 : Int32))))) T105.heap n0 Z105 Qc) e106 0 rfl (M rfl) (lenOf pd26 rfl) (B at_480) rfl rfl rfl (fun v T108 L X108 Y => ?_)
   obtain ⟨rfl, N108q, e108⟩ := Y
   have N108 := Fr.app N106 N108q
   refine gl X108 hx 485 (B at_483) rfl rfl ?_
   refine gl X108 hx 487 (B at_485) rfl rfl ?_
   refine gm X108 hx 488 (3 : Int32) (B at_487) (by decide) rfl ?_
   refine gk X108 hx 489 1 (B at_488) rfl rfl ?_
   refine gp X108 hx 490 (4 : Int32) (B at_489) (by decide) rfl ?_
   refine gL X108 hx 491 (4 : Int64) (B at_490) (by decide) rfl ?_
   refine gC X108 hx 492 (B at_491) rfl ?_
   have hk109 : (own_colf (3 : Int32) (own_st c2 3 (own_st c1 2 (own_st c0 1 (0 : Int32))))) = (4 : Int64) := by rw [hS]; decide
   refine gf X108 hx 495 (B at_492) (own_eqL hk109).2 rfl ?_
   refine gk X108 hx 496 1 (B at_495) rfl rfl ?_
   refine gg X108 hx 500 (B at_496) rfl ?_
   exact hG _ _ (g_retZ X108 hx hret hlk rfl (B at_500) (by decide) (by decide) ⟨rfl, N108⟩)
  have t453_1 : ∀  (TJ : State) (locsJ : List Loc), Stand p l e room_1 s m ([(.int x0), (.int x1), (.int x2), (.int x3), (.int m_), (.int n_)] : List Value).toArray below meth cO TJ locsJ 6 29 → TJ.heap = hT → Fr n0 locsJ → (own_st c2 3 (own_st c1 2 (own_st c0 1 (0 : Int32)))) = 1 → Go p e below Fn Q TJ (mkF m 453 #[I x0, I x1, I x2, I x3, I m_, I n_, A b1, A b10, I a_, I b_, I 3, I 1, I (-1 : Int32), I 3, I (((((1 : Int32) + (own_ea c0 (0 : Int32))) + (own_ea c1 c0)) + (own_ea c2 c1)) + 0), I 1, U] []) := by
   intro  TJ locsJ XJ eJ NJ hS
   refine gA XJ hx 455 (B at_453) rfl rfl rfl ?_
   refine gk XJ hx 456 0 (B at_455) rfl rfl ?_
   refine gV XJ hx 459 hZ hown w122 w123 w125 w124 w7 w126 (by decide) b10 E_b10 [(.int 0)] [] (pa_3 hw b10 cp bf c0 c1 c2 c3 kF hT n0 Z17 G_b10 g_cp E_b10 W17_countedPosition W17_limit W17_buf W17_pos W17_noLineEndFrom W17_counted E_cp Pl Pc Pa V_bf nc0 nc1 nc2 nc3 hc0 hc1 hc2 hc3) eJ 0 rfl (M rfl) (lenOf pd25 rfl) (B at_456) rfl rfl rfl (fun v T110 L X110 Y => ?_)
   obtain ⟨p_, rfl, N110q, Z110, E_p, Ql, Qc, Qa⟩ := Y
   have N110 := Fr.app NJ N110q
   refine g_astore X110 hx 461 #[I x0, I x1, I x2, I x3, I m_, I n_, A b1, A b10, I a_, I b_, I 3, I 1, I (-1 : Int32), I 3, I (((((1 : Int32) + (own_ea c0 (0 : Int32))) + (own_ea c1 c0)) + (own_ea c2 c1)) + 0), I 1, A p_] (B at_459) rfl rfl rfl ?_
   refine gl X110 hx 463 (B at_461) rfl rfl ?_
   refine gf X110 hx 466 (B at_463) (by decide) rfl ?_
   refine gA X110 hx 468 (B at_466) rfl rfl rfl ?_
   refine gV X110 hx 471 hZ hown w151 w152 w154 w153 w43 w155 (by decide) p_ E_p [] [] (rm28 hw p_ (own_step c2 c1 (own_step c1 c0 (own_step c0 0 (1 : Int64)))) T110.heap n0 Z110 Ql) rfl 0 rfl (M rfl) (lenOf pd26 rfl) (B at_468) rfl rfl rfl (fun v T111 L X111 Y => ?_)
   obtain ⟨rfl, N111q, e111⟩ := Y
   have N111 := Fr.app N110 N111q
   refine gl X111 hx 473 (B at_471) rfl rfl ?_
   refine gL X111 hx 474 ((((((1 : Int32) + (own_ea c0 (0 : Int32))) + (own_ea c1 c0)) + (own_ea c2 c1)) + 0).toInt64) (B at_473) rfl rfl ?_
   refine gC X111 hx 475 (B at_474) rfl ?_
   have hk112 : (own_step c2 c1 (own_step c1 c0 (own_step c0 0 (1 : Int64)))) = ((((((1 : Int32) + (own_ea c0 (0 : Int32))) + (own_ea c1 c0)) + (own_ea c2 c1)) + 0).toInt64) := own_fin_3 c0 c1 c2 c3
   refine gf X111 hx 478 (B at_475) (own_eqL hk112).2 rfl ?_
   refine gA X111 hx 480 (B at_478) rfl rfl rfl ?_
   refine gV X111 hx 483 hZ hown w156 w157 w159 w158 w43 w160 (by decide) p_ E_p [] [] (rm29 hw p_ (own_colf (3 : Int32) (own_st c2 3 (own_st c1 2 (own_st c0 1 (0 : Int32))))) T110.heap n0 Z110 Qc) e111 0 rfl (M rfl) (lenOf pd26 rfl) (B at_480) rfl rfl rfl (fun v T113 L X113 Y => ?_)
   obtain ⟨rfl, N113q, e113⟩ := Y
   have N113 := Fr.app N111 N113q
   refine gl X113 hx 485 (B at_483) rfl rfl ?_
   refine gl X113 hx 487 (B at_485) rfl rfl ?_
   refine gm X113 hx 488 (2 : Int32) (B at_487) (by decide) rfl ?_
   refine gk X113 hx 489 1 (B at_488) rfl rfl ?_
   refine gp X113 hx 490 (3 : Int32) (B at_489) (by decide) rfl ?_
   refine gL X113 hx 491 (3 : Int64) (B at_490) (by decide) rfl ?_
   refine gC X113 hx 492 (B at_491) rfl ?_
   have hk114 : (own_colf (3 : Int32) (own_st c2 3 (own_st c1 2 (own_st c0 1 (0 : Int32))))) = (3 : Int64) := by rw [hS]; decide
   refine gf X113 hx 495 (B at_492) (own_eqL hk114).2 rfl ?_
   refine gk X113 hx 496 1 (B at_495) rfl rfl ?_
   refine gg X113 hx 500 (B at_496) rfl ?_
   exact hG _ _ (g_retZ X113 hx hret hlk rfl (B at_500) (by decide) (by decide) ⟨rfl, N113⟩)
  have t453_2 : ∀  (TJ : State) (locsJ : List Loc), Stand p l e room_1 s m ([(.int x0), (.int x1), (.int x2), (.int x3), (.int m_), (.int n_)] : List Value).toArray below meth cO TJ locsJ 6 29 → TJ.heap = hT → Fr n0 locsJ → (own_st c2 3 (own_st c1 2 (own_st c0 1 (0 : Int32)))) = 2 → Go p e below Fn Q TJ (mkF m 453 #[I x0, I x1, I x2, I x3, I m_, I n_, A b1, A b10, I a_, I b_, I 3, I 1, I (-1 : Int32), I 3, I (((((1 : Int32) + (own_ea c0 (0 : Int32))) + (own_ea c1 c0)) + (own_ea c2 c1)) + 0), I 2, U] []) := by
   intro  TJ locsJ XJ eJ NJ hS
   refine gA XJ hx 455 (B at_453) rfl rfl rfl ?_
   refine gk XJ hx 456 0 (B at_455) rfl rfl ?_
   refine gV XJ hx 459 hZ hown w122 w123 w125 w124 w7 w126 (by decide) b10 E_b10 [(.int 0)] [] (pa_3 hw b10 cp bf c0 c1 c2 c3 kF hT n0 Z17 G_b10 g_cp E_b10 W17_countedPosition W17_limit W17_buf W17_pos W17_noLineEndFrom W17_counted E_cp Pl Pc Pa V_bf nc0 nc1 nc2 nc3 hc0 hc1 hc2 hc3) eJ 0 rfl (M rfl) (lenOf pd25 rfl) (B at_456) rfl rfl rfl (fun v T115 L X115 Y => ?_)
   obtain ⟨p_, rfl, N115q, Z115, E_p, Ql, Qc, Qa⟩ := Y
   have N115 := Fr.app NJ N115q
   refine g_astore X115 hx 461 #[I x0, I x1, I x2, I x3, I m_, I n_, A b1, A b10, I a_, I b_, I 3, I 1, I (-1 : Int32), I 3, I (((((1 : Int32) + (own_ea c0 (0 : Int32))) + (own_ea c1 c0)) + (own_ea c2 c1)) + 0), I 2, A p_] (B at_459) rfl rfl rfl ?_
   refine gl X115 hx 463 (B at_461) rfl rfl ?_
   refine gf X115 hx 466 (B at_463) (by decide) rfl ?_
   refine gA X115 hx 468 (B at_466) rfl rfl rfl ?_
   refine gV X115 hx 471 hZ hown w151 w152 w154 w153 w43 w155 (by decide) p_ E_p [] [] (rm28 hw p_ (own_step c2 c1 (own_step c1 c0 (own_step c0 0 (1 : Int64)))) T115.heap n0 Z115 Ql) rfl 0 rfl (M rfl) (lenOf pd26 rfl) (B at_468) rfl rfl rfl (fun v T116 L X116 Y => ?_)
   obtain ⟨rfl, N116q, e116⟩ := Y
   have N116 := Fr.app N115 N116q
   refine gl X116 hx 473 (B at_471) rfl rfl ?_
   refine gL X116 hx 474 ((((((1 : Int32) + (own_ea c0 (0 : Int32))) + (own_ea c1 c0)) + (own_ea c2 c1)) + 0).toInt64) (B at_473) rfl rfl ?_
   refine gC X116 hx 475 (B at_474) rfl ?_
   have hk117 : (own_step c2 c1 (own_step c1 c0 (own_step c0 0 (1 : Int64)))) = ((((((1 : Int32) + (own_ea c0 (0 : Int32))) + (own_ea c1 c0)) + (own_ea c2 c1)) + 0).toInt64) := own_fin_3 c0 c1 c2 c3
   refine gf X116 hx 478 (B at_475) (own_eqL hk117).2 rfl ?_
   refine gA X116 hx 480 (B at_478) rfl rfl rfl ?_
   refine gV X116 hx 483 hZ hown w156 w157 w159 w158 w43 w160 (by decide) p_ E_p [] [] (rm29 hw p_ (own_colf (3 : Int32) (own_st c2 3 (own_st c1 2 (own_st c0 1 (0 : Int32))))) T115.heap n0 Z115 Qc) e116 0 rfl (M rfl) (lenOf pd26 rfl) (B at_480) rfl rfl rfl (fun v T118 L X118 Y => ?_)
   obtain ⟨rfl, N118q, e118⟩ := Y
   have N118 := Fr.app N116 N118q
   refine gl X118 hx 485 (B at_483) rfl rfl ?_
   refine gl X118 hx 487 (B at_485) rfl rfl ?_
   refine gm X118 hx 488 (1 : Int32) (B at_487) (by decide) rfl ?_
   refine gk X118 hx 489 1 (B at_488) rfl rfl ?_
   refine gp X118 hx 490 (2 : Int32) (B at_489) (by decide) rfl ?_
   refine gL X118 hx 491 (2 : Int64) (B at_490) (by decide) rfl ?_
   refine gC X118 hx 492 (B at_491) rfl ?_
   have hk119 : (own_colf (3 : Int32) (own_st c2 3 (own_st c1 2 (own_st c0 1 (0 : Int32))))) = (2 : Int64) := by rw [hS]; decide
   refine gf X118 hx 495 (B at_492) (own_eqL hk119).2 rfl ?_
   refine gk X118 hx 496 1 (B at_495) rfl rfl ?_
   refine gg X118 hx 500 (B at_496) rfl ?_
   exact hG _ _ (g_retZ X118 hx hret hlk rfl (B at_500) (by decide) (by decide) ⟨rfl, N118⟩)
  have t453_3 : ∀  (TJ : State) (locsJ : List Loc), Stand p l e room_1 s m ([(.int x0), (.int x1), (.int x2), (.int x3), (.int m_), (.int n_)] : List Value).toArray below meth cO TJ locsJ 6 29 → TJ.heap = hT → Fr n0 locsJ → (own_st c2 3 (own_st c1 2 (own_st c0 1 (0 : Int32)))) = 3 → Go p e below Fn Q TJ (mkF m 453 #[I x0, I x1, I x2, I x3, I m_, I n_, A b1, A b10, I a_, I b_, I 3, I 1, I (-1 : Int32), I 3, I (((((1 : Int32) + (own_ea c0 (0 : Int32))) + (own_ea c1 c0)) + (own_ea c2 c1)) + 0), I 3, U] []) := by
   intro  TJ locsJ XJ eJ NJ hS
   refine gA XJ hx 455 (B at_453) rfl rfl rfl ?_
   refine gk XJ hx 456 0 (B at_455) rfl rfl ?_
   refine gV XJ hx 459 hZ hown w122 w123 w125 w124 w7 w126 (by decide) b10 E_b10 [(.int 0)] [] (pa_3 hw b10 cp bf c0 c1 c2 c3 kF hT n0 Z17 G_b10 g_cp E_b10 W17_countedPosition W17_limit W17_buf W17_pos W17_noLineEndFrom W17_counted E_cp Pl Pc Pa V_bf nc0 nc1 nc2 nc3 hc0 hc1 hc2 hc3) eJ 0 rfl (M rfl) (lenOf pd25 rfl) (B at_456) rfl rfl rfl (fun v T120 L X120 Y => ?_)
   obtain ⟨p_, rfl, N120q, Z120, E_p, Ql, Qc, Qa⟩ := Y
   have N120 := Fr.app NJ N120q
   refine g_astore X120 hx 461 #[I x0, I x1, I x2, I x3, I m_, I n_, A b1, A b10, I a_, I b_, I 3, I 1, I (-1 : Int32), I 3, I (((((1 : Int32) + (own_ea c0 (0 : Int32))) + (own_ea c1 c0)) + (own_ea c2 c1)) + 0), I 3, A p_] (B at_459) rfl rfl rfl ?_
   refine gl X120 hx 463 (B at_461) rfl rfl ?_
   refine gf X120 hx 466 (B at_463) (by decide) rfl ?_
   refine gA X120 hx 468 (B at_466) rfl rfl rfl ?_
   refine gV X120 hx 471 hZ hown w151 w152 w154 w153 w43 w155 (by decide) p_ E_p [] [] (rm28 hw p_ (own_step c2 c1 (own_step c1 c0 (own_step c0 0 (1 : Int64)))) T120.heap n0 Z120 Ql) rfl 0 rfl (M rfl) (lenOf pd26 rfl) (B at_468) rfl rfl rfl (fun v T121 L X121 Y => ?_)
   obtain ⟨rfl, N121q, e121⟩ := Y
   have N121 := Fr.app N120 N121q
   refine gl X121 hx 473 (B at_471) rfl rfl ?_
   refine gL X121 hx 474 ((((((1 : Int32) + (own_ea c0 (0 : Int32))) + (own_ea c1 c0)) + (own_ea c2 c1)) + 0).toInt64) (B at_473) rfl rfl ?_
   refine gC X121 hx 475 (B at_474) rfl ?_
   have hk122 : (own_step c2 c1 (own_step c1 c0 (own_step c0 0 (1 : Int64)))) = ((((((1 : Int32) + (own_ea c0 (0 : Int32))) + (own_ea c1 c0)) + (own_ea c2 c1)) + 0).toInt64) := own_fin_3 c0 c1 c2 c3
   refine gf X121 hx 478 (B at_475) (own_eqL hk122).2 rfl ?_
   refine gA X121 hx 480 (B at_478) rfl rfl rfl ?_
   refine gV X121 hx 483 hZ hown w156 w157 w159 w158 w43 w160 (by decide) p_ E_p [] [] (rm29 hw p_ (own_colf (3 : Int32) (own_st c2 3 (own_st c1 2 (own_st c0 1 (0 : Int32))))) T120.heap n0 Z120 Qc) e121 0 rfl (M rfl) (lenOf pd26 rfl) (B at_480) rfl rfl rfl (fun v T123 L X123 Y => ?_)
   obtain ⟨rfl, N123q, e123⟩ := Y
   have N123 := Fr.app N121 N123q
   refine gl X123 hx 485 (B at_483) rfl rfl ?_
   refine gl X123 hx 487 (B at_485) rfl rfl ?_
   refine gm X123 hx 488 (0 : Int32) (B at_487) (by decide) rfl ?_
   refine gk X123 hx 489 1 (B at_488) rfl rfl ?_
   refine gp X123 hx 490 (1 : Int32) (B at_489) (by decide) rfl ?_
   refine gL X123 hx 491 (1 : Int64) (B at_490) (by decide) rfl ?_
   refine gC X123 hx 492 (B at_491) rfl ?_
   have hk124 : (own_colf (3 : Int32) (own_st c2 3 (own_st c1 2 (own_st c0 1 (0 : Int32))))) = (1 : Int64) := by rw [hS]; decide
   refine gf X123 hx 495 (B at_492) (own_eqL hk124).2 rfl ?_
   refine gk X123 hx 496 1 (B at_495) rfl rfl ?_
   refine gg X123 hx 500 (B at_496) rfl ?_
   exact hG _ _ (g_retZ X123 hx hret hlk rfl (B at_500) (by decide) (by decide) ⟨rfl, N123⟩)
  refine gk X104 hx 376 0 (B at_375) rfl rfl ?_
  refine gs X104 hx 378 #[I x0, I x1, I x2, I x3, I m_, I n_, A b1, A b10, I a_, I b_, I 3, I 1, I (-1 : Int32), I 3, I (((((1 : Int32) + (own_ea c0 (0 : Int32))) + (own_ea c1 c0)) + (own_ea c2 c1)) + 0), I 0, U] (B at_376) rfl rfl ?_
  refine gl X104 hx 380 (B at_378) rfl rfl ?_
  refine gf X104 hx 383 (B at_380) (by decide) rfl ?_
  refine gA X104 hx 385 (B at_383) rfl rfl rfl ?_
  refine gk X104 hx 386 0 (B at_385) rfl rfl ?_
  refine gc X104 hx 387 hZ e104 V_b1 c0 rfl rfl (B at_386) rfl ?_
  refine gS X104 hx 390 hZ hown w116 w117 w3 w118 (by decide) [(.int c0)] [] (rm21 hw c0 hT n0 Z17) e104 0 rfl (M rfl) (lenOf pd0 rfl) (B at_387) rfl rfl rfl (fun v T125 L X125 Y => ?_)
  obtain ⟨rfl, N125q, e125⟩ := Y
  have N125 := Fr.app N104 N125q
  by_cases hc126 : (own_term c0) = 0
  ·
   refine gt X125 hx 396 (B at_390) ((if0 _ _).trans (teq hc126).1) rfl ?_
   refine gl X125 hx 398 (B at_396) rfl rfl ?_
   refine gk X125 hx 399 1 (B at_398) rfl rfl ?_
   refine gF X125 hx 402 (B at_399) (by decide) rfl ?_
   refine gA X125 hx 404 (B at_402) rfl rfl rfl ?_
   refine gk X125 hx 405 1 (B at_404) rfl rfl ?_
   refine gc X125 hx 406 hZ e125 V_b1 c1 rfl rfl (B at_405) rfl ?_
   refine gS X125 hx 409 hZ hown w116 w117 w3 w118 (by decide) [(.int c1)] [] (rm21 hw c1 hT n0 Z17) e125 0 rfl (M rfl) (lenOf pd0 rfl) (B at_406) rfl rfl rfl (fun v T127 L X127 Y => ?_)
   obtain ⟨rfl, N127q, e127⟩ := Y
   have N127 := Fr.app N125 N127q
   by_cases hc128 : (own_term c1) = 0
   ·
    refine gt X127 hx 415 (B at_409) ((if0 _ _).trans (teq hc128).1) rfl ?_
    refine gl X127 hx 417 (B at_415) rfl rfl ?_
    refine gk X127 hx 418 2 (B at_417) rfl rfl ?_
    refine gF X127 hx 421 (B at_418) (by decide) rfl ?_
    refine gA X127 hx 423 (B at_421) rfl rfl rfl ?_
    refine gk X127 hx 424 2 (B at_423) rfl rfl ?_
    refine gc X127 hx 425 hZ e127 V_b1 c2 rfl rfl (B at_424) rfl ?_
    refine gS X127 hx 428 hZ hown w116 w117 w3 w118 (by decide) [(.int c2)] [] (rm21 hw c2 hT n0 Z17) e127 0 rfl (M rfl) (lenOf pd0 rfl) (B at_425) rfl rfl rfl (fun v T129 L X129 Y => ?_)
    obtain ⟨rfl, N129q, e129⟩ := Y
    have N129 := Fr.app N127 N129q
    by_cases hc130 : (own_term c2) = 0
    ·
     refine gt X129 hx 434 (B at_428) ((if0 _ _).trans (teq hc130).1) rfl ?_
     refine gl X129 hx 436 (B at_434) rfl rfl ?_
     refine gk X129 hx 437 3 (B at_436) rfl rfl ?_
     refine gT X129 hx 453 (B at_437) (by decide) rfl ?_
     exact t453_0 _ _ X129 e129 N129 (by simp [own_st, hc126, hc128, hc130])
    ·
     refine gf X129 hx 431 (B at_428) ((if0 _ _).trans (feq hc130).1) rfl ?_
     refine gk X129 hx 432 3 (B at_431) rfl rfl ?_
     refine gs X129 hx 434 _ (B at_432) rfl rfl ?_
     refine gl X129 hx 436 (B at_434) rfl rfl ?_
     refine gk X129 hx 437 3 (B at_436) rfl rfl ?_
     refine gT X129 hx 453 (B at_437) (by decide) rfl ?_
     exact t453_3 _ _ X129 e129 N129 (by simp [own_st, hc126, hc128, hc130])
   ·
    refine gf X127 hx 412 (B at_409) ((if0 _ _).trans (feq hc128).1) rfl ?_
    refine gk X127 hx 413 2 (B at_412) rfl rfl ?_
    refine gs X127 hx 415 _ (B at_413) rfl rfl ?_
    refine gl X127 hx 417 (B at_415) rfl rfl ?_
    refine gk X127 hx 418 2 (B at_417) rfl rfl ?_
    refine gF X127 hx 421 (B at_418) (by decide) rfl ?_
    refine gA X127 hx 423 (B at_421) rfl rfl rfl ?_
    refine gk X127 hx 424 2 (B at_423) rfl rfl ?_
    refine gc X127 hx 425 hZ e127 V_b1 c2 rfl rfl (B at_424) rfl ?_
    refine gS X127 hx 428 hZ hown w116 w117 w3 w118 (by decide) [(.int c2)] [] (rm21 hw c2 hT n0 Z17) e127 0 rfl (M rfl) (lenOf pd0 rfl) (B at_425) rfl rfl rfl (fun v T131 L X131 Y => ?_)
    obtain ⟨rfl, N131q, e131⟩ := Y
    have N131 := Fr.app N127 N131q
    by_cases hc132 : (own_term c2) = 0
    ·
     refine gt X131 hx 434 (B at_428) ((if0 _ _).trans (teq hc132).1) rfl ?_
     refine gl X131 hx 436 (B at_434) rfl rfl ?_
     refine gk X131 hx 437 3 (B at_436) rfl rfl ?_
     refine gT X131 hx 453 (B at_437) (by decide) rfl ?_
     exact t453_2 _ _ X131 e131 N131 (by simp [own_st, hc126, hc128, hc132])
    ·
     refine gf X131 hx 431 (B at_428) ((if0 _ _).trans (feq hc132).1) rfl ?_
     refine gk X131 hx 432 3 (B at_431) rfl rfl ?_
     refine gs X131 hx 434 #[I x0, I x1, I x2, I x3, I m_, I n_, A b1, A b10, I a_, I b_, I 3, I 1, I (-1 : Int32), I 3, I (((((1 : Int32) + (own_ea c0 (0 : Int32))) + (own_ea c1 c0)) + (own_ea c2 c1)) + 0), I 3, U] (B at_432) rfl rfl ?_
     refine gl X131 hx 436 (B at_434) rfl rfl ?_
     refine gk X131 hx 437 3 (B at_436) rfl rfl ?_
     refine gT X131 hx 453 (B at_437) (by decide) rfl ?_
     exact t453_3 _ _ X131 e131 N131 (by simp [own_st, hc126, hc128, hc132])
  ·
   refine gf X125 hx 393 (B at_390) ((if0 _ _).trans (feq hc126).1) rfl ?_
   refine gk X125 hx 394 1 (B at_393) rfl rfl ?_
   refine gs X125 hx 396 _ (B at_394) rfl rfl ?_
   refine gl X125 hx 398 (B at_396) rfl rfl ?_
   refine gk X125 hx 399 1 (B at_398) rfl rfl ?_
   refine gF X125 hx 402 (B at_399) (by decide) rfl ?_
   refine gA X125 hx 404 (B at_402) rfl rfl rfl ?_
   refine gk X125 hx 405 1 (B at_404) rfl rfl ?_
   refine gc X125 hx 406 hZ e125 V_b1 c1 rfl rfl (B at_405) rfl ?_
   refine gS X125 hx 409 hZ hown w116 w117 w3 w118 (by decide) [(.int c1)] [] (rm21 hw c1 hT n0 Z17) e125 0 rfl (M rfl) (lenOf pd0 rfl) (B at_406) rfl rfl rfl (fun v T133 L X133 Y => ?_)
   obtain ⟨rfl, N133q, e133⟩ := Y
   have N133 := Fr.app N125 N133q
   by_cases hc134 : (own_term c1) = 0
   ·
    refine gt X133 hx 415 (B at_409) ((if0 _ _).trans (teq hc134).1) rfl ?_
    refine gl X133 hx 417 (B at_415) rfl rfl ?_
    refine gk X133 hx 418 2 (B at_417) rfl rfl ?_
    refine gF X133 hx 421 (B at_418) (by decide) rfl ?_
    refine gA X133 hx 423 (B at_421) rfl rfl rfl ?_
    refine gk X133 hx 424 2 (B at_423) rfl rfl ?_
    refine gc X133 hx 425 hZ e133 V_b1 c2 rfl rfl (B at_424) rfl ?_
    refine gS X133 hx 428 hZ hown w116 w117 w3 w118 (by decide) [(.int c2)] [] (rm21 hw c2 hT n0 Z17) e133 0 rfl (M rfl) (lenOf pd0 rfl) (B at_425) rfl rfl rfl (fun v T135 L X135 Y => ?_)
    obtain ⟨rfl, N135q, e135⟩ := Y
    have N135 := Fr.app N133 N135q
    by_cases hc136 : (own_term c2) = 0
    ·
     refine gt X135 hx 434 (B at_428) ((if0 _ _).trans (teq hc136).1) rfl ?_
     refine gl X135 hx 436 (B at_434) rfl rfl ?_
     refine gk X135 hx 437 3 (B at_436) rfl rfl ?_
     refine gT X135 hx 453 (B at_437) (by decide) rfl ?_
     exact t453_1 _ _ X135 e135 N135 (by simp [own_st, hc126, hc134, hc136])
    ·
     refine gf X135 hx 431 (B at_428) ((if0 _ _).trans (feq hc136).1) rfl ?_
     refine gk X135 hx 432 3 (B at_431) rfl rfl ?_
     refine gs X135 hx 434 #[I x0, I x1, I x2, I x3, I m_, I n_, A b1, A b10, I a_, I b_, I 3, I 1, I (-1 : Int32), I 3, I (((((1 : Int32) + (own_ea c0 (0 : Int32))) + (own_ea c1 c0)) + (own_ea c2 c1)) + 0), I 3, U] (B at_432) rfl rfl ?_
     refine gl X135 hx 436 (B at_434) rfl rfl ?_
     refine gk X135 hx 437 3 (B at_436) rfl rfl ?_
     refine gT X135 hx 453 (B at_437) (by decide) rfl ?_
     exact t453_3 _ _ X135 e135 N135 (by simp [own_st, hc126, hc134, hc136])
   ·
    refine gf X133 hx 412 (B at_409) ((if0 _ _).trans (feq hc134).1) rfl ?_
    refine gk X133 hx 413 2 (B at_412) rfl rfl ?_
    refine gs X133 hx 415 #[I x0, I x1, I x2, I x3, I m_, I n_, A b1, A b10, I a_, I b_, I 3, I 1, I (-1 : Int32), I 3, I (((((1 : Int32) + (own_ea c0 (0 : Int32))) + (own_ea c1 c0)) + (own_ea c2 c1)) + 0), I 2, U] (B at_413) rfl rfl ?_
    refine gl X133 hx 417 (B at_415) rfl rfl ?_
    refine gk X133 hx 418 2 (B at_417) rfl rfl ?_
    refine gF X133 hx 421 (B at_418) (by decide) rfl ?_
    refine gA X133 hx 423 (B at_421) rfl rfl rfl ?_
    refine gk X133 hx 424 2 (B at_423) rfl rfl ?_
    refine gc X133 hx 425 hZ e133 V_b1 c2 rfl rfl (B at_424) rfl ?_
    refine gS X133 hx 428 hZ hown w116 w117 w3 w118 (by decide) [(.int c2)] [] (rm21 hw c2 hT n0 Z17) e133 0 rfl (M rfl) (lenOf pd0 rfl) (B at_425) rfl rfl rfl (fun v T137 L X137 Y => ?_)
    obtain ⟨rfl, N137q, e137⟩ := Y
    have N137 := Fr.app N133 N137q
    by_cases hc138 : (own_term c2) = 0
    ·
     refine gt X137 hx 434 (B at_428) ((if0 _ _).trans (teq hc138).1) rfl ?_
     refine gl X137 hx 436 (B at_434) rfl rfl ?_
     refine gk X137 hx 437 3 (B at_436) rfl rfl ?_
     refine gT X137 hx 453 (B at_437) (by decide) rfl ?_
     exact t453_2 _ _ X137 e137 N137 (by simp [own_st, hc126, hc134, hc138])
    ·
     refine gf X137 hx 431 (B at_428) ((if0 _ _).trans (feq hc138).1) rfl ?_
     refine gk X137 hx 432 3 (B at_431) rfl rfl ?_
     refine gs X137 hx 434 _ (B at_432) rfl rfl ?_
     refine gl X137 hx 436 (B at_434) rfl rfl ?_
     refine gk X137 hx 437 3 (B at_436) rfl rfl ?_
     refine gT X137 hx 453 (B at_437) (by decide) rfl ?_
     exact t453_3 _ _ X137 e137 N137 (by simp [own_st, hc126, hc134, hc138])
 have t287_3 : ∀ (en : Int32) (TJ : State) (locsJ : List Loc), Stand p l e room_1 s m ([(.int x0), (.int x1), (.int x2), (.int x3), (.int m_), (.int n_)] : List Value).toArray below meth cO TJ locsJ 6 29 → TJ.heap = hT → Fr n0 locsJ → en = own_ea c3 c2 → ¬ own_term c3 = 0 → Go p e below Fn Q TJ (mkF m 287 #[I x0, I x1, I x2, I x3, I m_, I n_, A b1, A b10, I a_, I b_, I 3, I 1, I 3, I 3, I c2, I en, U] []) := by
  intro en TJ locsJ XJ eJ NJ hen te
  refine gA XJ hx 289 (B at_287) rfl rfl rfl ?_
  refine gl XJ hx 291 (B at_289) rfl rfl ?_
  refine gl XJ hx 293 (B at_291) rfl rfl ?_
  refine gm XJ hx 294 (0 : Int32) (B at_293) (by decide) rfl ?_
  refine gk XJ hx 295 1 (B at_294) rfl rfl ?_
  refine gp XJ hx 296 (1 : Int32) (B at_295) (by decide) rfl ?_
  refine gl XJ hx 298 (B at_296) rfl rfl ?_
  refine gl XJ hx 300 (B at_298) rfl rfl ?_
  refine gl XJ hx 302 (B at_300) rfl rfl ?_
  refine gm XJ hx 303 (0 : Int32) (B at_302) (by decide) rfl ?_
  refine gk XJ hx 304 1 (B at_303) rfl rfl ?_
  refine gp XJ hx 305 (1 : Int32) (B at_304) (by decide) rfl ?_
  refine gV XJ hx 308 hZ hown (W 168 rfl) (W 169 rfl) (W 171 rfl) (W 170 rfl) w7 (W 172 rfl) (by decide) b10 E_b10 [(.int 1), (.int en), (.int 1)] [] (mo_3_3 hw b10 cp bf en c0 c1 c2 c3 kF hT n0 Z17 G_b10 g_cp E_b10 W17_countedPosition W17_limit W17_buf W17_pos W17_noLineEndFrom W17_counted E_cp Pl Pc Pa V_bf nc0 nc1 nc2 nc3 hc0 hc1 hc2 hc3) eJ 0 rfl (M rfl) (lenOf pd11 rfl) (B at_305) rfl rfl rfl (fun v T139 L X139 Y => ?_)
  obtain ⟨rfl, N139q, K139, E139x, W139_countedPosition, W139_limit, W139_buf, W139_pos, W139_noLineEndFrom, W139_counted, E139y, Pl139, Pc139, Pa139⟩ := Y
  have N139 := Fr.app NJ N139q
  have V_b1 := V_b1.keep K139 (ninS ne_b1_b10 (ninS ne_u_cp nin0))
  have E_b10 := E_b10.keep K139
  have E_cp := E_cp.keep K139
  have V_bf := V_bf.keep K139 (ninS ne_bf_w (ninS ne_bf_cp nin0))
  have Z139 := Nat.le_trans Z17 K139.1
  refine gl X139 hx 310 (B at_308) rfl rfl ?_
  refine gk X139 hx 311 1 (B at_310) rfl rfl ?_
  refine gp X139 hx 312 (4 : Int32) (B at_311) (by decide) rfl ?_
  refine gs X139 hx 314 #[I x0, I x1, I x2, I x3, I m_, I n_, A b1, A b10, I a_, I b_, I 3, I 1, I 3, I 4, I c2, I en, U] (B at_312) rfl rfl ?_
  refine gl X139 hx 316 (B at_314) rfl rfl ?_
  refine gf X139 hx 319 (B at_316) (by decide) rfl ?_
  refine gA X139 hx 321 (B at_319) rfl rfl rfl ?_
  refine gG X139 hx 324 hZ hown (host := "") (Or.inl (W 114 rfl)) Via.refl rfl W139_pos (B at_321) rfl (fun T140 X140 e140 => ?_)
  refine gl X140 hx 326 (B at_324) rfl rfl ?_
  refine gF X140 hx 329 (B at_326) (by decide) rfl ?_
  refine gk X140 hx 330 1 (B at_329) rfl rfl ?_
  refine gg X140 hx 334 (B at_330) rfl ?_
  refine gs X140 hx 336 _ (B at_334) rfl rfl ?_
  refine gk X140 hx 337 1 (B at_336) rfl rfl ?_
  refine gA X140 hx 339 (B at_337) rfl rfl rfl ?_
  refine gk X140 hx 340 0 (B at_339) rfl rfl ?_
  refine gl X140 hx 342 (B at_340) rfl rfl ?_
  refine gS X140 hx 345 hZ hown w119 w120 w3 w121 (by decide) [(.ref b1), (.int 0), (.int 4)] [(.int 1)] (re_0_t hw b1 (4 : Int32) c0 c1 c2 c3 kS T139.heap n0 Z139 (by decide) V_b1) e140 1 rfl (M rfl) (lenOf pd24 rfl) (B at_342) rfl rfl rfl (fun v T141 L X141 Y => ?_)
  obtain ⟨rfl, N141q, e141⟩ := Y
  have N141 := Fr.app N139 N141q
  refine gp X141 hx 346 ((1 : Int32) + (own_ea c0 (0 : Int32))) (B at_345) rfl rfl ?_
  refine gA X141 hx 348 (B at_346) rfl rfl rfl ?_
  refine gk X141 hx 349 1 (B at_348) rfl rfl ?_
  refine gl X141 hx 351 (B at_349) rfl rfl ?_
  refine gS X141 hx 354 hZ hown w119 w120 w3 w121 (by decide) [(.ref b1), (.int 1), (.int 4)] [(.int ((1 : Int32) + (own_ea c0 (0 : Int32))))] (re_1_t hw b1 (4 : Int32) c0 c1 c2 c3 kS T139.heap n0 Z139 (by decide) V_b1) e141 1 rfl (M rfl) (lenOf pd24 rfl) (B at_351) rfl rfl rfl (fun v T142 L X142 Y => ?_)
  obtain ⟨rfl, N142q, e142⟩ := Y
  have N142 := Fr.app N141 N142q
  refine gp X142 hx 355 (((1 : Int32) + (own_ea c0 (0 : Int32))) + (own_ea c1 c0)) (B at_354) rfl rfl ?_
  refine gA X142 hx 357 (B at_355) rfl rfl rfl ?_
  refine gk X142 hx 358 2 (B at_357) rfl rfl ?_
  refine gl X142 hx 360 (B at_358) rfl rfl ?_
  refine gS X142 hx 363 hZ hown w119 w120 w3 w121 (by decide) [(.ref b1), (.int 2), (.int 4)] [(.int (((1 : Int32) + (own_ea c0 (0 : Int32))) + (own_ea c1 c0)))] (re_2_t hw b1 (4 : Int32) c0 c1 c2 c3 kS T139.heap n0 Z139 (by decide) V_b1) e142 1 rfl (M rfl) (lenOf pd24 rfl) (B at_360) rfl rfl rfl (fun v T143 L X143 Y => ?_)
  obtain ⟨rfl, N143q, e143⟩ := Y
  have N143 := Fr.app N142 N143q
  refine gp X143 hx 364 ((((1 : Int32) + (own_ea c0 (0 : Int32))) + (own_ea c1 c0)) + (own_ea c2 c1)) (B at_363) rfl rfl ?_
  refine gA X143 hx 366 (B at_364) rfl rfl rfl ?_
  refine gk X143 hx 367 3 (B at_366) rfl rfl ?_
  refine gl X143 hx 369 (B at_367) rfl rfl ?_
  refine gS X143 hx 372 hZ hown w119 w120 w3 w121 (by decide) [(.ref b1), (.int 3), (.int 4)] [(.int ((((1 : Int32) + (own_ea c0 (0 : Int32))) + (own_ea c1 c0)) + (own_ea c2 c1)))] (re_3_t hw b1 (4 : Int32) c0 c1 c2 c3 kS T139.heap n0 Z139 (by decide) V_b1) e143 1 rfl (M rfl) (lenOf pd24 rfl) (B at_369) rfl rfl rfl (fun v T144 L X144 Y => ?_)
  obtain ⟨rfl, N144q, e144⟩ := Y
  have N144 := Fr.app N143 N144q
  refine gp X144 hx 373 (((((1 : Int32) + (own_ea c0 (0 : Int32))) + (own_ea c1 c0)) + (own_ea c2 c1)) + (own_ea c3 c2)) (B at_372) rfl rfl ?_
  refine gs X144 hx 375 #[I x0, I x1, I x2, I x3, I m_, I n_, A b1, A b10, I a_, I b_, I 3, I 1, I 3, I 4, I (((((1 : Int32) + (own_ea c0 (0 : Int32))) + (own_ea c1 c0)) + (own_ea c2 c1)) + (own_ea c3 c2)), I en, U] (B at_373) rfl rfl ?_
  have t453 : ∀  (TJ : State) (locsJ : List Loc), Stand p l e room_1 s m ([(.int x0), (.int x1), (.int x2), (.int x3), (.int m_), (.int n_)] : List Value).toArray below meth cO TJ locsJ 6 29 → TJ.heap = T139.heap → Fr n0 locsJ → Go p e below Fn Q TJ (mkF m 453 #[I x0, I x1, I x2, I x3, I m_, I n_, A b1, A b10, I a_, I b_, I 3, I 1, I 3, I 4, I (((((1 : Int32) + (own_ea c0 (0 : Int32))) + (own_ea c1 c0)) + (own_ea c2 c1)) + (own_ea c3 c2)), I 4, U] []) := by
   intro  TJ locsJ XJ eJ NJ 
   refine gA XJ hx 455 (B at_453) rfl rfl rfl ?_
   refine gk XJ hx 456 0 (B at_455) rfl rfl ?_
   refine gV XJ hx 459 hZ hown w122 w123 w125 w124 w7 w126 (by decide) b10 E_b10 [(.int 0)] [] (pa_same hw b10 cp bf (4 : Int32) ((own_step c2 c1 (own_step c1 c0 (own_step c0 0 (1 : Int64)))) + en.toInt64) (1 : Int64) c3 c0 c1 c2 c3 kF T139.heap n0 Z139 G_b10 g_cp E_b10 W139_countedPosition W139_limit W139_buf W139_pos W139_noLineEndFrom W139_counted E_cp Pl139 Pc139 Pa139 V_bf nc0 nc1 nc2 nc3 hc0 hc1 hc2 hc3 nc3) eJ 0 rfl (M rfl) (lenOf pd25 rfl) (B at_456) rfl rfl rfl (fun v T145 L X145 Y => ?_)
   obtain ⟨p_, rfl, N145q, Z145, E_p, Ql, Qc, Qa⟩ := Y
   have N145 := Fr.app NJ N145q
   refine g_astore X145 hx 461 _ (B at_459) rfl rfl rfl ?_
   refine gl X145 hx 463 (B at_461) rfl rfl ?_
   refine gf X145 hx 466 (B at_463) (by decide) rfl ?_
   refine gA X145 hx 468 (B at_466) rfl rfl rfl ?_
   refine gV X145 hx 471 hZ hown w151 w152 w154 w153 w43 w155 (by decide) p_ E_p [] [] (rm28 hw p_ ((own_step c2 c1 (own_step c1 c0 (own_step c0 0 (1 : Int64)))) + en.toInt64) T145.heap n0 Z145 Ql) rfl 0 rfl (M rfl) (lenOf pd26 rfl) (B at_468) rfl rfl rfl (fun v T146 L X146 Y => ?_)
   obtain ⟨rfl, N146q, e146⟩ := Y
   have N146 := Fr.app N145 N146q
   refine gl X146 hx 473 (B at_471) rfl rfl ?_
   refine gL X146 hx 474 ((((((1 : Int32) + (own_ea c0 (0 : Int32))) + (own_ea c1 c0)) + (own_ea c2 c1)) + (own_ea c3 c2)).toInt64) (B at_473) rfl rfl ?_
   refine gC X146 hx 475 (B at_474) rfl ?_
   have hk147 : ((own_step c2 c1 (own_step c1 c0 (own_step c0 0 (1 : Int64)))) + en.toInt64) = ((((((1 : Int32) + (own_ea c0 (0 : Int32))) + (own_ea c1 c0)) + (own_ea c2 c1)) + (own_ea c3 c2)).toInt64) := by rw [hen]; exact own_fin_3_3 c0 c1 c2 c3 
   refine gf X146 hx 478 (B at_475) (own_eqL hk147).2 rfl ?_
   refine gA X146 hx 480 (B at_478) rfl rfl rfl ?_
   refine gV X146 hx 483 hZ hown w156 w157 w159 w158 w43 w160 (by decide) p_ E_p [] [] (rm29 hw p_ (1 : Int64) T145.heap n0 Z145 Qc) e146 0 rfl (M rfl) (lenOf pd26 rfl) (B at_480) rfl rfl rfl (fun v T148 L X148 Y => ?_)
   obtain ⟨rfl, N148q, e148⟩ := Y
   have N148 := Fr.app N146 N148q
   refine gl X148 hx 485 (B at_483) rfl rfl ?_
   refine gl X148 hx 487 (B at_485) rfl rfl ?_
   refine gm X148 hx 488 (0 : Int32) (B at_487) (by decide) rfl ?_
   refine gk X148 hx 489 1 (B at_488) rfl rfl ?_
   refine gp X148 hx 490 (1 : Int32) (B at_489) (by decide) rfl ?_
   refine gL X148 hx 491 (1 : Int64) (B at_490) (by decide) rfl ?_
   refine gC X148 hx 492 (B at_491) rfl ?_
   refine gf X148 hx 495 (B at_492) (own_eqL rfl).2 rfl ?_
   refine gk X148 hx 496 1 (B at_495) rfl rfl ?_
   refine gg X148 hx 500 (B at_496) rfl ?_
   exact hG _ _ (g_retZ X148 hx hret hlk rfl (B at_500) (by decide) (by decide) ⟨rfl, N148⟩)
  refine gk X144 hx 376 0 (B at_375) rfl rfl ?_
  refine gs X144 hx 378 _ (B at_376) rfl rfl ?_
  refine gl X144 hx 380 (B at_378) rfl rfl ?_
  refine gf X144 hx 383 (B at_380) (by decide) rfl ?_
  refine gA X144 hx 385 (B at_383) rfl rfl rfl ?_
  refine gk X144 hx 386 0 (B at_385) rfl rfl ?_
  refine gc X144 hx 387 hZ e144 V_b1 c0 rfl rfl (B at_386) rfl ?_
  refine gS X144 hx 390 hZ hown w116 w117 w3 w118 (by decide) [(.int c0)] [] (rm21 hw c0 T139.heap n0 Z139) e144 0 rfl (M rfl) (lenOf pd0 rfl) (B at_387) rfl rfl rfl (fun v T149 L X149 Y => ?_)
  obtain ⟨rfl, N149q, e149⟩ := Y
  have N149 := Fr.app N144 N149q
  by_cases hc150 : (own_term c0) = 0
  ·
   refine gt X149 hx 396 (B at_390) ((if0 _ _).trans (teq hc150).1) rfl ?_
   refine gl X149 hx 398 (B at_396) rfl rfl ?_
   refine gk X149 hx 399 1 (B at_398) rfl rfl ?_
   refine gF X149 hx 402 (B at_399) (by decide) rfl ?_
   refine gA X149 hx 404 (B at_402) rfl rfl rfl ?_
   refine gk X149 hx 405 1 (B at_404) rfl rfl ?_
   refine gc X149 hx 406 hZ e149 V_b1 c1 rfl rfl (B at_405) rfl ?_
   refine gS X149 hx 409 hZ hown w116 w117 w3 w118 (by decide) [(.int c1)] [] (rm21 hw c1 T139.heap n0 Z139) e149 0 rfl (M rfl) (lenOf pd0 rfl) (B at_406) rfl rfl rfl (fun v T151 L X151 Y => ?_)
   obtain ⟨rfl, N151q, e151⟩ := Y
   have N151 := Fr.app N149 N151q
   by_cases hc152 : (own_term c1) = 0
   ·
    refine gt X151 hx 415 (B at_409) ((if0 _ _).trans (teq hc152).1) rfl ?_
    refine gl X151 hx 417 (B at_415) rfl rfl ?_
    refine gk X151 hx 418 2 (B at_417) rfl rfl ?_
    refine gF X151 hx 421 (B at_418) (by decide) rfl ?_
    refine gA X151 hx 423 (B at_421) rfl rfl rfl ?_
    refine gk X151 hx 424 2 (B at_423) rfl rfl ?_
    refine gc X151 hx 425 hZ e151 V_b1 c2 rfl rfl (B at_424) rfl ?_
    refine gS X151 hx 428 hZ hown w116 w117 w3 w118 (by decide) [(.int c2)] [] (rm21 hw c2 T139.heap n0 Z139) e151 0 rfl (M rfl) (lenOf pd0 rfl) (B at_425) rfl rfl rfl (fun v T153 L X153 Y => ?_)
    obtain ⟨rfl, N153q, e153⟩ := Y
    have N153 := Fr.app N151 N153q
    by_cases hc154 : (own_term c2) = 0
    ·
     refine gt X153 hx 434 (B at_428) ((if0 _ _).trans (teq hc154).1) rfl ?_
     refine gl X153 hx 436 (B at_434) rfl rfl ?_
     refine gk X153 hx 437 3 (B at_436) rfl rfl ?_
     refine gF X153 hx 440 (B at_437) (by decide) rfl ?_
     refine gA X153 hx 442 (B at_440) rfl rfl rfl ?_
     refine gk X153 hx 443 3 (B at_442) rfl rfl ?_
     refine gc X153 hx 444 hZ e153 V_b1 c3 rfl rfl (B at_443) rfl ?_
     refine gS X153 hx 447 hZ hown w116 w117 w3 w118 (by decide) [(.int c3)] [] (rm21 hw c3 T139.heap n0 Z139) e153 0 rfl (M rfl) (lenOf pd0 rfl) (B at_444) rfl rfl rfl (fun v T155 L X155 Y => ?_)
     obtain ⟨rfl, N155q, e155⟩ := Y
     have N155 := Fr.app N153 N155q
     have hk156 : ¬ ((own_term c3) = 0) := te
     refine gf X155 hx 450 (B at_447) ((if0 _ _).trans (feq hk156).1) rfl ?_
     refine gk X155 hx 451 4 (B at_450) rfl rfl ?_
     refine gs X155 hx 453 #[I x0, I x1, I x2, I x3, I m_, I n_, A b1, A b10, I a_, I b_, I 3, I 1, I 3, I 4, I (((((1 : Int32) + (own_ea c0 (0 : Int32))) + (own_ea c1 c0)) + (own_ea c2 c1)) + (own_ea c3 c2)), I 4, U] (B at_451) rfl rfl ?_
     exact t453 _ _ X155 e155 N155
    ·
     refine gf X153 hx 431 (B at_428) ((if0 _ _).trans (feq hc154).1) rfl ?_
     refine gk X153 hx 432 3 (B at_431) rfl rfl ?_
     refine gs X153 hx 434 #[I x0, I x1, I x2, I x3, I m_, I n_, A b1, A b10, I a_, I b_, I 3, I 1, I 3, I 4, I (((((1 : Int32) + (own_ea c0 (0 : Int32))) + (own_ea c1 c0)) + (own_ea c2 c1)) + (own_ea c3 c2)), I 3, U] (B at_432) rfl rfl ?_
     refine gl X153 hx 436 (B at_434) rfl rfl ?_
     refine gk X153 hx 437 3 (B at_436) rfl rfl ?_
     refine gF X153 hx 440 (B at_437) (by decide) rfl ?_
     refine gA X153 hx 442 (B at_440) rfl rfl rfl ?_
     refine gk X153 hx 443 3 (B at_442) rfl rfl ?_
     refine gc X153 hx 444 hZ e153 V_b1 c3 rfl rfl (B at_443) rfl ?_
     refine gS X153 hx 447 hZ hown w116 w117 w3 w118 (by decide) [(.int c3)] [] (rm21 hw c3 T139.heap n0 Z139) e153 0 rfl (M rfl) (lenOf pd0 rfl) (B at_444) rfl rfl rfl (fun v T157 L X157 Y => ?_)
     obtain ⟨rfl, N157q, e157⟩ := Y
     have N157 := Fr.app N153 N157q
     have hk158 : ¬ ((own_term c3) = 0) := te
     refine gf X157 hx 450 (B at_447) ((if0 _ _).trans (feq hk158).1) rfl ?_
     refine gk X157 hx 451 4 (B at_450) rfl rfl ?_
     refine gs X157 hx 453 _ (B at_451) rfl rfl ?_
     exact t453 _ _ X157 e157 N157
   ·
    refine gf X151 hx 412 (B at_409) ((if0 _ _).trans (feq hc152).1) rfl ?_
    refine gk X151 hx 413 2 (B at_412) rfl rfl ?_
    refine gs X151 hx 415 #[I x0, I x1, I x2, I x3, I m_, I n_, A b1, A b10, I a_, I b_, I 3, I 1, I 3, I 4, I (((((1 : Int32) + (own_ea c0 (0 : Int32))) + (own_ea c1 c0)) + (own_ea c2 c1)) + (own_ea c3 c2)), I 2, U] (B at_413) rfl rfl ?_
    refine gl X151 hx 417 (B at_415) rfl rfl ?_
    refine gk X151 hx 418 2 (B at_417) rfl rfl ?_
    refine gF X151 hx 421 (B at_418) (by decide) rfl ?_
    refine gA X151 hx 423 (B at_421) rfl rfl rfl ?_
    refine gk X151 hx 424 2 (B at_423) rfl rfl ?_
    refine gc X151 hx 425 hZ e151 V_b1 c2 rfl rfl (B at_424) rfl ?_
    refine gS X151 hx 428 hZ hown w116 w117 w3 w118 (by decide) [(.int c2)] [] (rm21 hw c2 T139.heap n0 Z139) e151 0 rfl (M rfl) (lenOf pd0 rfl) (B at_425) rfl rfl rfl (fun v T159 L X159 Y => ?_)
    obtain ⟨rfl, N159q, e159⟩ := Y
    have N159 := Fr.app N151 N159q
    by_cases hc160 : (own_term c2) = 0
    ·
     refine gt X159 hx 434 (B at_428) ((if0 _ _).trans (teq hc160).1) rfl ?_
     refine gl X159 hx 436 (B at_434) rfl rfl ?_
     refine gk X159 hx 437 3 (B at_436) rfl rfl ?_
     refine gF X159 hx 440 (B at_437) (by decide) rfl ?_
     refine gA X159 hx 442 (B at_440) rfl rfl rfl ?_
     refine gk X159 hx 443 3 (B at_442) rfl rfl ?_
     refine gc X159 hx 444 hZ e159 V_b1 c3 rfl rfl (B at_443) rfl ?_
     refine gS X159 hx 447 hZ hown w116 w117 w3 w118 (by decide) [(.int c3)] [] (rm21 hw c3 T139.heap n0 Z139) e159 0 rfl (M rfl) (lenOf pd0 rfl) (B at_444) rfl rfl rfl (fun v T161 L X161 Y => ?_)
     obtain ⟨rfl, N161q, e161⟩ := Y
     have N161 := Fr.app N159 N161q
     have hk162 : ¬ ((own_term c3) = 0) := te
     refine gf X161 hx 450 (B at_447) ((if0 _ _).trans (feq hk162).1) rfl ?_
     refine gk X161 hx 451 4 (B at_450) rfl rfl ?_
     refine gs X161 hx 453 _ (B at_451) rfl rfl ?_
     exact t453 _ _ X161 e161 N161
    ·
     refine gf X159 hx 431 (B at_428) ((if0 _ _).trans (feq hc160).1) rfl ?_
     refine gk X159 hx 432 3 (B at_431) rfl rfl ?_
     refine gs X159 hx 434 _ (B at_432) rfl rfl ?_
     refine gl X159 hx 436 (B at_434) rfl rfl ?_
     refine gk X159 hx 437 3 (B at_436) rfl rfl ?_
     refine gF X159 hx 440 (B at_437) (by decide) rfl ?_
     refine gA X159 hx 442 (B at_440) rfl rfl rfl ?_
     refine gk X159 hx 443 3 (B at_442) rfl rfl ?_
     refine gc X159 hx 444 hZ e159 V_b1 c3 rfl rfl (B at_443) rfl ?_
     refine gS X159 hx 447 hZ hown w116 w117 w3 w118 (by decide) [(.int c3)] [] (rm21 hw c3 T139.heap n0 Z139) e159 0 rfl (M rfl) (lenOf pd0 rfl) (B at_444) rfl rfl rfl (fun v T163 L X163 Y => ?_)
     obtain ⟨rfl, N163q, e163⟩ := Y
     have N163 := Fr.app N159 N163q
     have hk164 : ¬ ((own_term c3) = 0) := te
     refine gf X163 hx 450 (B at_447) ((if0 _ _).trans (feq hk164).1) rfl ?_
     refine gk X163 hx 451 4 (B at_450) rfl rfl ?_
     refine gs X163 hx 453 #[I x0, I x1, I x2, I x3, I m_, I n_, A b1, A b10, I a_, I b_, I 3, I 1, I 3, I 4, I (((((1 : Int32) + (own_ea c0 (0 : Int32))) + (own_ea c1 c0)) + (own_ea c2 c1)) + (own_ea c3 c2)), I 4, U] (B at_451) rfl rfl ?_
     exact t453 _ _ X163 e163 N163
  ·
   refine gf X149 hx 393 (B at_390) ((if0 _ _).trans (feq hc150).1) rfl ?_
   refine gk X149 hx 394 1 (B at_393) rfl rfl ?_
   refine gs X149 hx 396 #[I x0, I x1, I x2, I x3, I m_, I n_, A b1, A b10, I a_, I b_, I 3, I 1, I 3, I 4, I (((((1 : Int32) + (own_ea c0 (0 : Int32))) + (own_ea c1 c0)) + (own_ea c2 c1)) + (own_ea c3 c2)), I 1, U] (B at_394) rfl rfl ?_
   refine gl X149 hx 398 (B at_396) rfl rfl ?_
   refine gk X149 hx 399 1 (B at_398) rfl rfl ?_
   refine gF X149 hx 402 (B at_399) (by decide) rfl ?_
   refine gA X149 hx 404 (B at_402) rfl rfl rfl ?_
   refine gk X149 hx 405 1 (B at_404) rfl rfl ?_
   refine gc X149 hx 406 hZ e149 V_b1 c1 rfl rfl (B at_405) rfl ?_
   refine gS X149 hx 409 hZ hown w116 w117 w3 w118 (by decide) [(.int c1)] [] (rm21 hw c1 T139.heap n0 Z139) e149 0 rfl (M rfl) (lenOf pd0 rfl) (B at_406) rfl rfl rfl (fun v T165 L X165 Y => ?_)
   obtain ⟨rfl, N165q, e165⟩ := Y
   have N165 := Fr.app N149 N165q
   by_cases hc166 : (own_term c1) = 0
   ·
    refine gt X165 hx 415 (B at_409) ((if0 _ _).trans (teq hc166).1) rfl ?_
    refine gl X165 hx 417 (B at_415) rfl rfl ?_
    refine gk X165 hx 418 2 (B at_417) rfl rfl ?_
    refine gF X165 hx 421 (B at_418) (by decide) rfl ?_
    refine gA X165 hx 423 (B at_421) rfl rfl rfl ?_
    refine gk X165 hx 424 2 (B at_423) rfl rfl ?_
    refine gc X165 hx 425 hZ e165 V_b1 c2 rfl rfl (B at_424) rfl ?_
    refine gS X165 hx 428 hZ hown w116 w117 w3 w118 (by decide) [(.int c2)] [] (rm21 hw c2 T139.heap n0 Z139) e165 0 rfl (M rfl) (lenOf pd0 rfl) (B at_425) rfl rfl rfl (fun v T167 L X167 Y => ?_)
    obtain ⟨rfl, N167q, e167⟩ := Y
    have N167 := Fr.app N165 N167q
    by_cases hc168 : (own_term c2) = 0
    ·
     refine gt X167 hx 434 (B at_428) ((if0 _ _).trans (teq hc168).1) rfl ?_
     refine gl X167 hx 436 (B at_434) rfl rfl ?_
     refine gk X167 hx 437 3 (B at_436) rfl rfl ?_
     refine gF X167 hx 440 (B at_437) (by decide) rfl ?_
     refine gA X167 hx 442 (B at_440) rfl rfl rfl ?_
     refine gk X167 hx 443 3 (B at_442) rfl rfl ?_
     refine gc X167 hx 444 hZ e167 V_b1 c3 rfl rfl (B at_443) rfl ?_
     refine gS X167 hx 447 hZ hown w116 w117 w3 w118 (by decide) [(.int c3)] [] (rm21 hw c3 T139.heap n0 Z139) e167 0 rfl (M rfl) (lenOf pd0 rfl) (B at_444) rfl rfl rfl (fun v T169 L X169 Y => ?_)
     obtain ⟨rfl, N169q, e169⟩ := Y
     have N169 := Fr.app N167 N169q
     have hk170 : ¬ ((own_term c3) = 0) := te
     refine gf X169 hx 450 (B at_447) ((if0 _ _).trans (feq hk170).1) rfl ?_
     refine gk X169 hx 451 4 (B at_450) rfl rfl ?_
     refine gs X169 hx 453 _ (B at_451) rfl rfl ?_
     exact t453 _ _ X169 e169 N169
    ·
     refine gf X167 hx 431 (B at_428) ((if0 _ _).trans (feq hc168).1) rfl ?_
     refine gk X167 hx 432 3 (B at_431) rfl rfl ?_
     refine gs X167 hx 434 _ (B at_432) rfl rfl ?_
     refine gl X167 hx 436 (B at_434) rfl rfl ?_
     refine gk X167 hx 437 3 (B at_436) rfl rfl ?_
     refine gF X167 hx 440 (B at_437) (by decide) rfl ?_
     refine gA X167 hx 442 (B at_440) rfl rfl rfl ?_
     refine gk X167 hx 443 3 (B at_442) rfl rfl ?_
     refine gc X167 hx 444 hZ e167 V_b1 c3 rfl rfl (B at_443) rfl ?_
     refine gS X167 hx 447 hZ hown w116 w117 w3 w118 (by decide) [(.int c3)] [] (rm21 hw c3 T139.heap n0 Z139) e167 0 rfl (M rfl) (lenOf pd0 rfl) (B at_444) rfl rfl rfl (fun v T171 L X171 Y => ?_)
     obtain ⟨rfl, N171q, e171⟩ := Y
     have N171 := Fr.app N167 N171q
     have hk172 : ¬ ((own_term c3) = 0) := te
     refine gf X171 hx 450 (B at_447) ((if0 _ _).trans (feq hk172).1) rfl ?_
     refine gk X171 hx 451 4 (B at_450) rfl rfl ?_
     refine gs X171 hx 453 #[I x0, I x1, I x2, I x3, I m_, I n_, A b1, A b10, I a_, I b_, I 3, I 1, I 3, I 4, I (((((1 : Int32) + (own_ea c0 (0 : Int32))) + (own_ea c1 c0)) + (own_ea c2 c1)) + (own_ea c3 c2)), I 4, U] (B at_451) rfl rfl ?_
     exact t453 _ _ X171 e171 N171
   ·
    refine gf X165 hx 412 (B at_409) ((if0 _ _).trans (feq hc166).1) rfl ?_
    refine gk X165 hx 413 2 (B at_412) rfl rfl ?_
    refine gs X165 hx 415 _ (B at_413) rfl rfl ?_
    refine gl X165 hx 417 (B at_415) rfl rfl ?_
    refine gk X165 hx 418 2 (B at_417) rfl rfl ?_
    refine gF X165 hx 421 (B at_418) (by decide) rfl ?_
    refine gA X165 hx 423 (B at_421) rfl rfl rfl ?_
    refine gk X165 hx 424 2 (B at_423) rfl rfl ?_
    refine gc X165 hx 425 hZ e165 V_b1 c2 rfl rfl (B at_424) rfl ?_
    refine gS X165 hx 428 hZ hown w116 w117 w3 w118 (by decide) [(.int c2)] [] (rm21 hw c2 T139.heap n0 Z139) e165 0 rfl (M rfl) (lenOf pd0 rfl) (B at_425) rfl rfl rfl (fun v T173 L X173 Y => ?_)
    obtain ⟨rfl, N173q, e173⟩ := Y
    have N173 := Fr.app N165 N173q
    by_cases hc174 : (own_term c2) = 0
    ·
     refine gt X173 hx 434 (B at_428) ((if0 _ _).trans (teq hc174).1) rfl ?_
     refine gl X173 hx 436 (B at_434) rfl rfl ?_
     refine gk X173 hx 437 3 (B at_436) rfl rfl ?_
     refine gF X173 hx 440 (B at_437) (by decide) rfl ?_
     refine gA X173 hx 442 (B at_440) rfl rfl rfl ?_
     refine gk X173 hx 443 3 (B at_442) rfl rfl ?_
     refine gc X173 hx 444 hZ e173 V_b1 c3 rfl rfl (B at_443) rfl ?_
     refine gS X173 hx 447 hZ hown w116 w117 w3 w118 (by decide) [(.int c3)] [] (rm21 hw c3 T139.heap n0 Z139) e173 0 rfl (M rfl) (lenOf pd0 rfl) (B at_444) rfl rfl rfl (fun v T175 L X175 Y => ?_)
     obtain ⟨rfl, N175q, e175⟩ := Y
     have N175 := Fr.app N173 N175q
     have hk176 : ¬ ((own_term c3) = 0) := te
     refine gf X175 hx 450 (B at_447) ((if0 _ _).trans (feq hk176).1) rfl ?_
     refine gk X175 hx 451 4 (B at_450) rfl rfl ?_
     refine gs X175 hx 453 #[I x0, I x1, I x2, I x3, I m_, I n_, A b1, A b10, I a_, I b_, I 3, I 1, I 3, I 4, I (((((1 : Int32) + (own_ea c0 (0 : Int32))) + (own_ea c1 c0)) + (own_ea c2 c1)) + (own_ea c3 c2)), I 4, U] (B at_451) rfl rfl ?_
     exact t453 _ _ X175 e175 N175
    ·
     refine gf X173 hx 431 (B at_428) ((if0 _ _).trans (feq hc174).1) rfl ?_
     refine gk X173 hx 432 3 (B at_431) rfl rfl ?_
     refine gs X173 hx 434 #[I x0, I x1, I x2, I x3, I m_, I n_, A b1, A b10, I a_, I b_, I 3, I 1, I 3, I 4, I (((((1 : Int32) + (own_ea c0 (0 : Int32))) + (own_ea c1 c0)) + (own_ea c2 c1)) + (own_ea c3 c2)), I 3, U] (B at_432) rfl rfl ?_
     refine gl X173 hx 436 (B at_434) rfl rfl ?_
     refine gk X173 hx 437 3 (B at_436) rfl rfl ?_
     refine gF X173 hx 440 (B at_437) (by decide) rfl ?_
     refine gA X173 hx 442 (B at_440) rfl rfl rfl ?_
     refine gk X173 hx 443 3 (B at_442) rfl rfl ?_
     refine gc X173 hx 444 hZ e173 V_b1 c3 rfl rfl (B at_443) rfl ?_
     refine gS X173 hx 447 hZ hown w116 w117 w3 w118 (by decide) [(.int c3)] [] (rm21 hw c3 T139.heap n0 Z139) e173 0 rfl (M rfl) (lenOf pd0 rfl) (B at_444) rfl rfl rfl (fun v T177 L X177 Y => ?_)
     obtain ⟨rfl, N177q, e177⟩ := Y
     have N177 := Fr.app N173 N177q
     have hk178 : ¬ ((own_term c3) = 0) := te
     refine gf X177 hx 450 (B at_447) ((if0 _ _).trans (feq hk178).1) rfl ?_
     refine gk X177 hx 451 4 (B at_450) rfl rfl ?_
     refine gs X177 hx 453 _ (B at_451) rfl rfl ?_
     exact t453 _ _ X177 e177 N177
 have t219_3 : ∀  (TJ : State) (locsJ : List Loc), Stand p l e room_1 s m ([(.int x0), (.int x1), (.int x2), (.int x3), (.int m_), (.int n_)] : List Value).toArray below meth cO TJ locsJ 6 29 → TJ.heap = hT → Fr n0 locsJ → ¬ own_term c3 = 0 → Go p e below Fn Q TJ (mkF m 219 #[I x0, I x1, I x2, I x3, I m_, I n_, A b1, A b10, I a_, I b_, I 3, I 1, I 3, U, U, U, U] []) := by
  intro  TJ locsJ XJ eJ NJ te
  refine gl XJ hx 221 (B at_219) rfl rfl ?_
  refine gs XJ hx 223 #[I x0, I x1, I x2, I x3, I m_, I n_, A b1, A b10, I a_, I b_, I 3, I 1, I 3, I 3, U, U, U] (B at_221) rfl rfl ?_
  refine gl XJ hx 225 (B at_223) rfl rfl ?_
  refine gf XJ hx 228 (B at_225) (by decide) rfl ?_
  refine gl XJ hx 230 (B at_228) rfl rfl ?_
  refine gl XJ hx 232 (B at_230) rfl rfl ?_
  refine gT XJ hx 245 (B at_232) (by decide) rfl ?_
  refine gl XJ hx 247 (B at_245) rfl rfl ?_
  refine gf XJ hx 250 (B at_247) (by decide) rfl ?_
  refine gA XJ hx 252 (B at_250) rfl rfl rfl ?_
  refine gl XJ hx 254 (B at_252) rfl rfl ?_
  refine gk XJ hx 255 1 (B at_254) rfl rfl ?_
  refine gm XJ hx 256 (2 : Int32) (B at_255) (by decide) rfl ?_
  refine gc XJ hx 257 hZ eJ V_b1 c2 rfl rfl (B at_256) rfl ?_
  refine gg XJ hx 261 (B at_257) rfl ?_
  refine gs XJ hx 263 _ (B at_261) rfl rfl ?_
  refine gA XJ hx 265 (B at_263) rfl rfl rfl ?_
  refine gl XJ hx 267 (B at_265) rfl rfl ?_
  refine gc XJ hx 268 hZ eJ V_b1 c3 rfl rfl (B at_267) rfl ?_
  refine gb XJ hx 270 13 (B at_268) rfl rfl ?_
  by_cases hc179 : c3 = 13
  ·
   refine gT XJ hx 280 (B at_270) (teq hc179).1 rfl ?_
   refine gk XJ hx 281 1 (B at_280) rfl rfl ?_
   refine gg XJ hx 285 (B at_281) rfl ?_
   refine gs XJ hx 287 #[I x0, I x1, I x2, I x3, I m_, I n_, A b1, A b10, I a_, I b_, I 3, I 1, I 3, I 3, I c2, I 1, U] (B at_285) rfl rfl ?_
   exact t287_3 (1 : Int32) _ _ XJ eJ NJ (by unfold own_ea; rw [if_neg te, if_pos hc179]) te 
  ·
   refine gF XJ hx 273 (B at_270) (feq hc179).1 rfl ?_
   refine gl XJ hx 275 (B at_273) rfl rfl ?_
   refine gb XJ hx 277 13 (B at_275) rfl rfl ?_
   by_cases hc180 : c2 = 13
   ·
    refine gT XJ hx 284 (B at_277) (teq hc180).1 rfl ?_
    refine gk XJ hx 285 0 (B at_284) rfl rfl ?_
    refine gs XJ hx 287 #[I x0, I x1, I x2, I x3, I m_, I n_, A b1, A b10, I a_, I b_, I 3, I 1, I 3, I 3, I c2, I 0, U] (B at_285) rfl rfl ?_
    exact t287_3 (0 : Int32) _ _ XJ eJ NJ (by unfold own_ea; rw [if_neg te, if_neg hc179, if_pos hc180]) te 
   ·
    refine gF XJ hx 280 (B at_277) (feq hc180).1 rfl ?_
    refine gk XJ hx 281 1 (B at_280) rfl rfl ?_
    refine gg XJ hx 285 (B at_281) rfl ?_
    refine gs XJ hx 287 #[I x0, I x1, I x2, I x3, I m_, I n_, A b1, A b10, I a_, I b_, I 3, I 1, I 3, I 3, I c2, I 1, U] (B at_285) rfl rfl ?_
    exact t287_3 (1 : Int32) _ _ XJ eJ NJ (by unfold own_ea; rw [if_neg te, if_neg hc179, if_neg hc180]) te 
 refine gk XJ hx 142 (-1 : Int32) (B at_141) rfl rfl ?_
 refine gs XJ hx 144 #[I x0, I x1, I x2, I x3, I m_, I n_, A b1, A b10, I a_, I b_, I 3, I 1, I (-1 : Int32), U, U, U, U] (B at_142) rfl rfl ?_
 refine gl XJ hx 146 (B at_144) rfl rfl ?_
 refine gk XJ hx 147 3 (B at_146) rfl rfl ?_
 refine gF XJ hx 150 (B at_147) (by decide) rfl ?_
 refine gA XJ hx 152 (B at_150) rfl rfl rfl ?_
 refine gk XJ hx 153 3 (B at_152) rfl rfl ?_
 refine gc XJ hx 154 hZ eJ V_b1 c3 rfl rfl (B at_153) rfl ?_
 refine gS XJ hx 157 hZ hown w116 w117 w3 w118 (by decide) [(.int c3)] [] (rm21 hw c3 hT n0 Z17) eJ 0 rfl (M rfl) (lenOf pd0 rfl) (B at_154) rfl rfl rfl (fun v T181 L X181 Y => ?_)
 obtain ⟨rfl, N181q, e181⟩ := Y
 have N181 := Fr.app NJ N181q
 by_cases hc182 : (own_term c3) = 0
 ·
  refine gt X181 hx 163 (B at_157) ((if0 _ _).trans (teq hc182).1) rfl ?_
  refine gl X181 hx 165 (B at_163) rfl rfl ?_
  refine gk X181 hx 166 2 (B at_165) rfl rfl ?_
  refine gT X181 hx 182 (B at_166) (by decide) rfl ?_
  refine gl X181 hx 184 (B at_182) rfl rfl ?_
  refine gk X181 hx 185 1 (B at_184) rfl rfl ?_
  refine gT X181 hx 201 (B at_185) (by decide) rfl ?_
  refine gl X181 hx 203 (B at_201) rfl rfl ?_
  refine gt X181 hx 219 (B at_203) (by decide) rfl ?_
  exact t219_m _ _ X181 e181 N181
 ·
  refine gf X181 hx 160 (B at_157) ((if0 _ _).trans (feq hc182).1) rfl ?_
  refine gk X181 hx 161 3 (B at_160) rfl rfl ?_
  refine gs X181 hx 163 _ (B at_161) rfl rfl ?_
  refine gl X181 hx 165 (B at_163) rfl rfl ?_
  refine gk X181 hx 166 2 (B at_165) rfl rfl ?_
  refine gT X181 hx 182 (B at_166) (by decide) rfl ?_
  refine gl X181 hx 184 (B at_182) rfl rfl ?_
  refine gk X181 hx 185 1 (B at_184) rfl rfl ?_
  refine gT X181 hx 201 (B at_185) (by decide) rfl ?_
  refine gl X181 hx 203 (B at_201) rfl rfl ?_
  refine gt X181 hx 219 (B at_203) (by decide) rfl ?_
  exact t219_3 _ _ X181 e181 N181 hc182 
set_option maxRecDepth 65536 in
set_option maxHeartbeats 40000000 in
theorem law_4 {l : Launch} {Z : State} {a0 : Array Value} {x0 x1 x2 x3 m_ n_ a_ b_ c0 c1 c2 c3 : Int32} {b1 b10 cp bf : Addr} {kS kF : ClassId} {hT : Heap} {n0 : Nat} {p : Program} {e : Env} {s : State} {m : MethodId} {below : List Frame} {meth : Method} {cO : Code} (hw : ∀ d ∈ tables_1, d.before a0 Z = true) (hx : p.tables.exec = Jvm.exec) (hby : cO.code = code) (hml : cO.maxLocals = 17) (hown : s.vm.findClass "gleanwell/WindowMoveByPinLaw" = some m.cls) (hret : meth.sig.returnType = some .boolean) (hlk : meth.locks = false) (hZ : Z.Warmed39 s.vm)  (TK : State) (locsJ : List Loc) (XJ : Stand p l e room_1 s m ([(.int x0), (.int x1), (.int x2), (.int x3), (.int m_), (.int n_)] : List Value).toArray below meth cO TK locsJ 6 29) (eJ : TK.heap = hT) (NJ : Fr n0 locsJ) (V_b1 : Arv Z hT b1 kS .char (4 : Int32) [(.int c0), (.int c1), (.int c2), (.int c3)] (.int 0)) (V_bf : Arv Z hT bf kF .char (5 : Int32) [(.int c0), (.int c1), (.int c2), (.int c3), (.int 0)] (.int 0)) (E_b10 : Exa Z hT b10 "gleanwell/Window") (E_cp : Exa Z hT cp "gleanwell/Position") (Pl : Fld Z hT cp "gleanwell/Position" "line" "J" (.long (1 : Int64))) (Pc : Fld Z hT cp "gleanwell/Position" "column" "J" (.long (1 : Int64))) (Pa : Fld Z hT cp "gleanwell/Position" "last" "C" (.int 0)) (W17_countedPosition : Fld Z hT b10 "gleanwell/Window" "countedPosition" "Lgleanwell/Position;" (.ref cp)) (W17_limit : Fld Z hT b10 "gleanwell/Window" "limit" "I" (.int 4)) (W17_buf : Fld Z hT b10 "gleanwell/Window" "buf" "[C" (.ref bf)) (W17_pos : Fld Z hT b10 "gleanwell/Window" "pos" "I" (.int 4)) (W17_noLineEndFrom : Fld Z hT b10 "gleanwell/Window" "noLineEndFrom" "I" (.int 4)) (W17_counted : Fld Z hT b10 "gleanwell/Window" "counted" "I" (.int 0)) (ne_b1_b10 : b1 ≠ b10) (ne_cp_w : cp ≠ b10) (ne_bf_w : bf ≠ b10) (ne_bf_cp : bf ≠ cp) (ne_u_cp : b1 ≠ cp) (G_b10 : n0 ≤ b10) (g_cp : n0 ≤ cp) (Z17 : n0 ≤ hT.size) (nc0 : nar .char c0 = c0) (nc1 : nar .char c1 = c1) (nc2 : nar .char c2 = c2) (nc3 : nar .char c3 = c3) (hc0 : ¬ 255 < c0) (hc1 : ¬ 255 < c1) (hc2 : ¬ 255 < c2) (hc3 : ¬ 255 < c3) :
  Go p e below (fun o t L => FrameEnd s o t L room_1.cells room_1.slots) (fun v h L => v = some (.int 1) ∧ Fr n0 L) TK (mkF m 141 #[I x0, I x1, I x2, I x3, I m_, I n_, A b1, A b10, I a_, I b_, I 4, I 1, U, U, U, U, U] []) := by
 have hown : s.vm.findClass "gleanwell/WindowMoveByPinLaw" = some m.cls := hown
 refine own_lq (fun Fn Q hG => ?_)
 have B {q : Nat} {r : Instr × Nat} (h : decode code q = .ok r) : decode cO.code q = .ok r := hb hby h
 have W {d : Jvm.Cond} (i : Nat) (h : tables_1[i]? = some d) : d.before a0 Z = true := own_w hw i h
 have w119 := W 119 rfl
 have w120 := W 120 rfl
 have w3 := W 3 rfl
 have w121 := W 121 rfl
 have w122 := W 122 rfl
 have w123 := W 123 rfl
 have w125 := W 125 rfl
 have w124 := W 124 rfl
 have w7 := W 7 rfl
 have w126 := W 126 rfl
 have w151 := W 151 rfl
 have w152 := W 152 rfl
 have w154 := W 154 rfl
 have w153 := W 153 rfl
 have w43 := W 43 rfl
 have w155 := W 155 rfl
 have w156 := W 156 rfl
 have w157 := W 157 rfl
 have w159 := W 159 rfl
 have w158 := W 158 rfl
 have w160 := W 160 rfl
 have w116 := W 116 rfl
 have w117 := W 117 rfl
 have w118 := W 118 rfl
 have M {n : Nat} (h : n = _) : n = cO.maxLocals := h.trans hml.symm
 have t219_m : ∀  (TJ : State) (locsJ : List Loc), Stand p l e room_1 s m ([(.int x0), (.int x1), (.int x2), (.int x3), (.int m_), (.int n_)] : List Value).toArray below meth cO TJ locsJ 6 29 → TJ.heap = hT → Fr n0 locsJ → Go p e below Fn Q TJ (mkF m 219 #[I x0, I x1, I x2, I x3, I m_, I n_, A b1, A b10, I a_, I b_, I 4, I 1, I (-1 : Int32), U, U, U, U] []) := by
  intro  TJ locsJ XJ eJ NJ 
  refine gl XJ hx 221 (B at_219) rfl rfl ?_
  refine gs XJ hx 223 #[I x0, I x1, I x2, I x3, I m_, I n_, A b1, A b10, I a_, I b_, I 4, I 1, I (-1 : Int32), I 4, U, U, U] (B at_221) rfl rfl ?_
  refine gl XJ hx 225 (B at_223) rfl rfl ?_
  refine gt XJ hx 336 (B at_225) (by decide) rfl ?_
  refine gk XJ hx 337 1 (B at_336) rfl rfl ?_
  refine gA XJ hx 339 (B at_337) rfl rfl rfl ?_
  refine gk XJ hx 340 0 (B at_339) rfl rfl ?_
  refine gl XJ hx 342 (B at_340) rfl rfl ?_
  refine gS XJ hx 345 hZ hown w119 w120 w3 w121 (by decide) [(.ref b1), (.int 0), (.int 4)] [(.int 1)] (re_0_t hw b1 (4 : Int32) c0 c1 c2 c3 kS hT n0 Z17 (by decide) V_b1) eJ 1 rfl (M rfl) (lenOf pd24 rfl) (B at_342) rfl rfl rfl (fun v T101 L X101 Y => ?_)
  obtain ⟨rfl, N101q, e101⟩ := Y
  have N101 := Fr.app NJ N101q
  refine gp X101 hx 346 ((1 : Int32) + (own_ea c0 (0 : Int32))) (B at_345) rfl rfl ?_
  refine gA X101 hx 348 (B at_346) rfl rfl rfl ?_
  refine gk X101 hx 349 1 (B at_348) rfl rfl ?_
  refine gl X101 hx 351 (B at_349) rfl rfl ?_
  refine gS X101 hx 354 hZ hown w119 w120 w3 w121 (by decide) [(.ref b1), (.int 1), (.int 4)] [(.int ((1 : Int32) + (own_ea c0 (0 : Int32))))] (re_1_t hw b1 (4 : Int32) c0 c1 c2 c3 kS hT n0 Z17 (by decide) V_b1) e101 1 rfl (M rfl) (lenOf pd24 rfl) (B at_351) rfl rfl rfl (fun v T102 L X102 Y => ?_)
  obtain ⟨rfl, N102q, e102⟩ := Y
  have N102 := Fr.app N101 N102q
  refine gp X102 hx 355 (((1 : Int32) + (own_ea c0 (0 : Int32))) + (own_ea c1 c0)) (B at_354) rfl rfl ?_
  refine gA X102 hx 357 (B at_355) rfl rfl rfl ?_
  refine gk X102 hx 358 2 (B at_357) rfl rfl ?_
  refine gl X102 hx 360 (B at_358) rfl rfl ?_
  refine gS X102 hx 363 hZ hown w119 w120 w3 w121 (by decide) [(.ref b1), (.int 2), (.int 4)] [(.int (((1 : Int32) + (own_ea c0 (0 : Int32))) + (own_ea c1 c0)))] (re_2_t hw b1 (4 : Int32) c0 c1 c2 c3 kS hT n0 Z17 (by decide) V_b1) e102 1 rfl (M rfl) (lenOf pd24 rfl) (B at_360) rfl rfl rfl (fun v T103 L X103 Y => ?_)
  obtain ⟨rfl, N103q, e103⟩ := Y
  have N103 := Fr.app N102 N103q
  refine gp X103 hx 364 ((((1 : Int32) + (own_ea c0 (0 : Int32))) + (own_ea c1 c0)) + (own_ea c2 c1)) (B at_363) rfl rfl ?_
  refine gA X103 hx 366 (B at_364) rfl rfl rfl ?_
  refine gk X103 hx 367 3 (B at_366) rfl rfl ?_
  refine gl X103 hx 369 (B at_367) rfl rfl ?_
  refine gS X103 hx 372 hZ hown w119 w120 w3 w121 (by decide) [(.ref b1), (.int 3), (.int 4)] [(.int ((((1 : Int32) + (own_ea c0 (0 : Int32))) + (own_ea c1 c0)) + (own_ea c2 c1)))] (re_3_t hw b1 (4 : Int32) c0 c1 c2 c3 kS hT n0 Z17 (by decide) V_b1) e103 1 rfl (M rfl) (lenOf pd24 rfl) (B at_369) rfl rfl rfl (fun v T104 L X104 Y => ?_)
  obtain ⟨rfl, N104q, e104⟩ := Y
  have N104 := Fr.app N103 N104q
  refine gp X104 hx 373 (((((1 : Int32) + (own_ea c0 (0 : Int32))) + (own_ea c1 c0)) + (own_ea c2 c1)) + (own_ea c3 c2)) (B at_372) rfl rfl ?_
  refine gs X104 hx 375 _ (B at_373) rfl rfl ?_
  have t453_0 : ∀  (TJ : State) (locsJ : List Loc), Stand p l e room_1 s m ([(.int x0), (.int x1), (.int x2), (.int x3), (.int m_), (.int n_)] : List Value).toArray below meth cO TJ locsJ 6 29 → TJ.heap = hT → Fr n0 locsJ → (own_st c3 4 (own_st c2 3 (own_st c1 2 (own_st c0 1 (0 : Int32))))) = 0 → Go p e below Fn Q TJ (mkF m 453 #[I x0, I x1, I x2, I x3, I m_, I n_, A b1, A b10, I a_, I b_, I 4, I 1, I (-1 : Int32), I 4, I (((((1 : Int32) + (own_ea c0 (0 : Int32))) + (own_ea c1 c0)) + (own_ea c2 c1)) + (own_ea c3 c2)), I 0, U] []) := by
   intro  TJ locsJ XJ eJ NJ hS
   refine gA XJ hx 455 (B at_453) rfl rfl rfl ?_
   refine gk XJ hx 456 0 (B at_455) rfl rfl ?_
   refine gV XJ hx 459 hZ hown w122 w123 w125 w124 w7 w126 (by decide) b10 E_b10 [(.int 0)] [] (pa_4 hw b10 cp bf c0 c1 c2 c3 kF hT n0 Z17 G_b10 g_cp E_b10 W17_countedPosition W17_limit W17_buf W17_pos W17_noLineEndFrom W17_counted E_cp Pl Pc Pa V_bf nc0 nc1 nc2 nc3 hc0 hc1 hc2 hc3) eJ 0 rfl (M rfl) (lenOf pd25 rfl) (B at_456) rfl rfl rfl (fun v T105 L X105 Y => ?_)
   obtain ⟨p_, rfl, N105q, Z105, E_p, Ql, Qc, Qa⟩ := Y
   have N105 := Fr.app NJ N105q
   refine g_astore X105 hx 461 #[I x0, I x1, I x2, I x3, I m_, I n_, A b1, A b10, I a_, I b_, I 4, I 1, I (-1 : Int32), I 4, I (((((1 : Int32) + (own_ea c0 (0 : Int32))) + (own_ea c1 c0)) + (own_ea c2 c1)) + (own_ea c3 c2)), I 0, A p_] (B at_459) rfl rfl rfl ?_
   refine gl X105 hx 463 (B at_461) rfl rfl ?_
   refine gf X105 hx 466 (B at_463) (by decide) rfl ?_
   refine gA X105 hx 468 (B at_466) rfl rfl rfl ?_
   refine gV X105 hx 471 hZ hown w151 w152 w154 w153 w43 w155 (by decide) p_ E_p [] [] (rm28 hw p_ (own_step c3 c2 (own_step c2 c1 (own_step c1 c0 (own_step c0 0 (1 : Int64))))) T105.heap n0 Z105 Ql) rfl 0 rfl (M rfl) (lenOf pd26 rfl) (B at_468) rfl rfl rfl (fun v T106 L X106 Y => ?_)
   obtain ⟨rfl, N106q, e106⟩ := Y
   have N106 := Fr.app N105 N106q
   refine gl X106 hx 473 (B at_471) rfl rfl ?_
   refine gL X106 hx 474 ((((((1 : Int32) + (own_ea c0 (0 : Int32))) + (own_ea c1 c0)) + (own_ea c2 c1)) + (own_ea c3 c2)).toInt64) (B at_473) rfl rfl ?_
   refine gC X106 hx 475 (B at_474) rfl ?_
   have hk107 : (own_step c3 c2 (own_step c2 c1 (own_step c1 c0 (own_step c0 0 (1 : Int64))))) = ((((((1 : Int32) + (own_ea c0 (0 : Int32))) + (own_ea c1 c0)) + (own_ea c2 c1)) + (own_ea c3 c2)).toInt64) := own_fin_4 c0 c1 c2 c3
   refine gf X106 hx 478 (B at_475) (own_eqL hk107).2 rfl ?_
   refine gA X106 hx 480 (B at_478) rfl rfl rfl ?_
   refine gV X106 hx 483 hZ hown w156 w157 w159 w158 w43 w160 (by decide) p_ E_p [] [] (rm29 hw p_ (own_colf (4 : Int32) (own_st c3 4 (own_st c2 3 (own_st c1 2 (own_st c0 1 (0 : Int32)))))) T105.heap n0 Z105 Qc) e106 0 rfl (M rfl) (lenOf pd26 rfl) (B at_480) rfl rfl rfl (fun v T108 L X108 Y => ?_)
   obtain ⟨rfl, N108q, e108⟩ := Y
   have N108 := Fr.app N106 N108q
   refine gl X108 hx 485 (B at_483) rfl rfl ?_
   refine gl X108 hx 487 (B at_485) rfl rfl ?_
   refine gm X108 hx 488 (4 : Int32) (B at_487) (by decide) rfl ?_
   refine gk X108 hx 489 1 (B at_488) rfl rfl ?_
   refine gp X108 hx 490 (5 : Int32) (B at_489) (by decide) rfl ?_
   refine gL X108 hx 491 (5 : Int64) (B at_490) (by decide) rfl ?_
   refine gC X108 hx 492 (B at_491) rfl ?_
   have hk109 : (own_colf (4 : Int32) (own_st c3 4 (own_st c2 3 (own_st c1 2 (own_st c0 1 (0 : Int32)))))) = (5 : Int64) := by rw [hS]; decide
   refine gf X108 hx 495 (B at_492) (own_eqL hk109).2 rfl ?_
   refine gk X108 hx 496 1 (B at_495) rfl rfl ?_
   refine gg X108 hx 500 (B at_496) rfl ?_
   exact hG _ _ (g_retZ X108 hx hret hlk rfl (B at_500) (by decide) (by decide) ⟨rfl, N108⟩)
  have t453_1 : ∀  (TJ : State) (locsJ : List Loc), Stand p l e room_1 s m ([(.int x0), (.int x1), (.int x2), (.int x3), (.int m_), (.int n_)] : List Value).toArray below meth cO TJ locsJ 6 29 → TJ.heap = hT → Fr n0 locsJ → (own_st c3 4 (own_st c2 3 (own_st c1 2 (own_st c0 1 (0 : Int32))))) = 1 → Go p e below Fn Q TJ (mkF m 453 #[I x0, I x1, I x2, I x3, I m_, I n_, A b1, A b10, I a_, I b_, I 4, I 1, I (-1 : Int32), I 4, I (((((1 : Int32) + (own_ea c0 (0 : Int32))) + (own_ea c1 c0)) + (own_ea c2 c1)) + (own_ea c3 c2)), I 1, U] []) := by
   intro  TJ locsJ XJ eJ NJ hS
   refine gA XJ hx 455 (B at_453) rfl rfl rfl ?_
   refine gk XJ hx 456 0 (B at_455) rfl rfl ?_
   refine gV XJ hx 459 hZ hown w122 w123 w125 w124 w7 w126 (by decide) b10 E_b10 [(.int 0)] [] (pa_4 hw b10 cp bf c0 c1 c2 c3 kF hT n0 Z17 G_b10 g_cp E_b10 W17_countedPosition W17_limit W17_buf W17_pos W17_noLineEndFrom W17_counted E_cp Pl Pc Pa V_bf nc0 nc1 nc2 nc3 hc0 hc1 hc2 hc3) eJ 0 rfl (M rfl) (lenOf pd25 rfl) (B at_456) rfl rfl rfl (fun v T110 L X110 Y => ?_)
   obtain ⟨p_, rfl, N110q, Z110, E_p, Ql, Qc, Qa⟩ := Y
   have N110 := Fr.app NJ N110q
   refine g_astore X110 hx 461 #[I x0, I x1, I x2, I x3, I m_, I n_, A b1, A b10, I a_, I b_, I 4, I 1, I (-1 : Int32), I 4, I (((((1 : Int32) + (own_ea c0 (0 : Int32))) + (own_ea c1 c0)) + (own_ea c2 c1)) + (own_ea c3 c2)), I 1, A p_] (B at_459) rfl rfl rfl ?_
   refine gl X110 hx 463 (B at_461) rfl rfl ?_
   refine gf X110 hx 466 (B at_463) (by decide) rfl ?_
   refine gA X110 hx 468 (B at_466) rfl rfl rfl ?_
   refine gV X110 hx 471 hZ hown w151 w152 w154 w153 w43 w155 (by decide) p_ E_p [] [] (rm28 hw p_ (own_step c3 c2 (own_step c2 c1 (own_step c1 c0 (own_step c0 0 (1 : Int64))))) T110.heap n0 Z110 Ql) rfl 0 rfl (M rfl) (lenOf pd26 rfl) (B at_468) rfl rfl rfl (fun v T111 L X111 Y => ?_)
   obtain ⟨rfl, N111q, e111⟩ := Y
   have N111 := Fr.app N110 N111q
   refine gl X111 hx 473 (B at_471) rfl rfl ?_
   refine gL X111 hx 474 ((((((1 : Int32) + (own_ea c0 (0 : Int32))) + (own_ea c1 c0)) + (own_ea c2 c1)) + (own_ea c3 c2)).toInt64) (B at_473) rfl rfl ?_
   refine gC X111 hx 475 (B at_474) rfl ?_
   have hk112 : (own_step c3 c2 (own_step c2 c1 (own_step c1 c0 (own_step c0 0 (1 : Int64))))) = ((((((1 : Int32) + (own_ea c0 (0 : Int32))) + (own_ea c1 c0)) + (own_ea c2 c1)) + (own_ea c3 c2)).toInt64) := own_fin_4 c0 c1 c2 c3
   refine gf X111 hx 478 (B at_475) (own_eqL hk112).2 rfl ?_
   refine gA X111 hx 480 (B at_478) rfl rfl rfl ?_
   refine gV X111 hx 483 hZ hown w156 w157 w159 w158 w43 w160 (by decide) p_ E_p [] [] (rm29 hw p_ (own_colf (4 : Int32) (own_st c3 4 (own_st c2 3 (own_st c1 2 (own_st c0 1 (0 : Int32)))))) T110.heap n0 Z110 Qc) e111 0 rfl (M rfl) (lenOf pd26 rfl) (B at_480) rfl rfl rfl (fun v T113 L X113 Y => ?_)
   obtain ⟨rfl, N113q, e113⟩ := Y
   have N113 := Fr.app N111 N113q
   refine gl X113 hx 485 (B at_483) rfl rfl ?_
   refine gl X113 hx 487 (B at_485) rfl rfl ?_
   refine gm X113 hx 488 (3 : Int32) (B at_487) (by decide) rfl ?_
   refine gk X113 hx 489 1 (B at_488) rfl rfl ?_
   refine gp X113 hx 490 (4 : Int32) (B at_489) (by decide) rfl ?_
   refine gL X113 hx 491 (4 : Int64) (B at_490) (by decide) rfl ?_
   refine gC X113 hx 492 (B at_491) rfl ?_
   have hk114 : (own_colf (4 : Int32) (own_st c3 4 (own_st c2 3 (own_st c1 2 (own_st c0 1 (0 : Int32)))))) = (4 : Int64) := by rw [hS]; decide
   refine gf X113 hx 495 (B at_492) (own_eqL hk114).2 rfl ?_
   refine gk X113 hx 496 1 (B at_495) rfl rfl ?_
   refine gg X113 hx 500 (B at_496) rfl ?_
   exact hG _ _ (g_retZ X113 hx hret hlk rfl (B at_500) (by decide) (by decide) ⟨rfl, N113⟩)
  have t453_2 : ∀  (TJ : State) (locsJ : List Loc), Stand p l e room_1 s m ([(.int x0), (.int x1), (.int x2), (.int x3), (.int m_), (.int n_)] : List Value).toArray below meth cO TJ locsJ 6 29 → TJ.heap = hT → Fr n0 locsJ → (own_st c3 4 (own_st c2 3 (own_st c1 2 (own_st c0 1 (0 : Int32))))) = 2 → Go p e below Fn Q TJ (mkF m 453 #[I x0, I x1, I x2, I x3, I m_, I n_, A b1, A b10, I a_, I b_, I 4, I 1, I (-1 : Int32), I 4, I (((((1 : Int32) + (own_ea c0 (0 : Int32))) + (own_ea c1 c0)) + (own_ea c2 c1)) + (own_ea c3 c2)), I 2, U] []) := by
   intro  TJ locsJ XJ eJ NJ hS
   refine gA XJ hx 455 (B at_453) rfl rfl rfl ?_
   refine gk XJ hx 456 0 (B at_455) rfl rfl ?_
   refine gV XJ hx 459 hZ hown w122 w123 w125 w124 w7 w126 (by decide) b10 E_b10 [(.int 0)] [] (pa_4 hw b10 cp bf c0 c1 c2 c3 kF hT n0 Z17 G_b10 g_cp E_b10 W17_countedPosition W17_limit W17_buf W17_pos W17_noLineEndFrom W17_counted E_cp Pl Pc Pa V_bf nc0 nc1 nc2 nc3 hc0 hc1 hc2 hc3) eJ 0 rfl (M rfl) (lenOf pd25 rfl) (B at_456) rfl rfl rfl (fun v T115 L X115 Y => ?_)
   obtain ⟨p_, rfl, N115q, Z115, E_p, Ql, Qc, Qa⟩ := Y
   have N115 := Fr.app NJ N115q
   refine g_astore X115 hx 461 #[I x0, I x1, I x2, I x3, I m_, I n_, A b1, A b10, I a_, I b_, I 4, I 1, I (-1 : Int32), I 4, I (((((1 : Int32) + (own_ea c0 (0 : Int32))) + (own_ea c1 c0)) + (own_ea c2 c1)) + (own_ea c3 c2)), I 2, A p_] (B at_459) rfl rfl rfl ?_
   refine gl X115 hx 463 (B at_461) rfl rfl ?_
   refine gf X115 hx 466 (B at_463) (by decide) rfl ?_
   refine gA X115 hx 468 (B at_466) rfl rfl rfl ?_
   refine gV X115 hx 471 hZ hown w151 w152 w154 w153 w43 w155 (by decide) p_ E_p [] [] (rm28 hw p_ (own_step c3 c2 (own_step c2 c1 (own_step c1 c0 (own_step c0 0 (1 : Int64))))) T115.heap n0 Z115 Ql) rfl 0 rfl (M rfl) (lenOf pd26 rfl) (B at_468) rfl rfl rfl (fun v T116 L X116 Y => ?_)
   obtain ⟨rfl, N116q, e116⟩ := Y
   have N116 := Fr.app N115 N116q
   refine gl X116 hx 473 (B at_471) rfl rfl ?_
   refine gL X116 hx 474 ((((((1 : Int32) + (own_ea c0 (0 : Int32))) + (own_ea c1 c0)) + (own_ea c2 c1)) + (own_ea c3 c2)).toInt64) (B at_473) rfl rfl ?_
   refine gC X116 hx 475 (B at_474) rfl ?_
   have hk117 : (own_step c3 c2 (own_step c2 c1 (own_step c1 c0 (own_step c0 0 (1 : Int64))))) = ((((((1 : Int32) + (own_ea c0 (0 : Int32))) + (own_ea c1 c0)) + (own_ea c2 c1)) + (own_ea c3 c2)).toInt64) := own_fin_4 c0 c1 c2 c3
   refine gf X116 hx 478 (B at_475) (own_eqL hk117).2 rfl ?_
   refine gA X116 hx 480 (B at_478) rfl rfl rfl ?_
   refine gV X116 hx 483 hZ hown w156 w157 w159 w158 w43 w160 (by decide) p_ E_p [] [] (rm29 hw p_ (own_colf (4 : Int32) (own_st c3 4 (own_st c2 3 (own_st c1 2 (own_st c0 1 (0 : Int32)))))) T115.heap n0 Z115 Qc) e116 0 rfl (M rfl) (lenOf pd26 rfl) (B at_480) rfl rfl rfl (fun v T118 L X118 Y => ?_)
   obtain ⟨rfl, N118q, e118⟩ := Y
   have N118 := Fr.app N116 N118q
   refine gl X118 hx 485 (B at_483) rfl rfl ?_
   refine gl X118 hx 487 (B at_485) rfl rfl ?_
   refine gm X118 hx 488 (2 : Int32) (B at_487) (by decide) rfl ?_
   refine gk X118 hx 489 1 (B at_488) rfl rfl ?_
   refine gp X118 hx 490 (3 : Int32) (B at_489) (by decide) rfl ?_
   refine gL X118 hx 491 (3 : Int64) (B at_490) (by decide) rfl ?_
   refine gC X118 hx 492 (B at_491) rfl ?_
   have hk119 : (own_colf (4 : Int32) (own_st c3 4 (own_st c2 3 (own_st c1 2 (own_st c0 1 (0 : Int32)))))) = (3 : Int64) := by rw [hS]; decide
   refine gf X118 hx 495 (B at_492) (own_eqL hk119).2 rfl ?_
   refine gk X118 hx 496 1 (B at_495) rfl rfl ?_
   refine gg X118 hx 500 (B at_496) rfl ?_
   exact hG _ _ (g_retZ X118 hx hret hlk rfl (B at_500) (by decide) (by decide) ⟨rfl, N118⟩)
  have t453_3 : ∀  (TJ : State) (locsJ : List Loc), Stand p l e room_1 s m ([(.int x0), (.int x1), (.int x2), (.int x3), (.int m_), (.int n_)] : List Value).toArray below meth cO TJ locsJ 6 29 → TJ.heap = hT → Fr n0 locsJ → (own_st c3 4 (own_st c2 3 (own_st c1 2 (own_st c0 1 (0 : Int32))))) = 3 → Go p e below Fn Q TJ (mkF m 453 #[I x0, I x1, I x2, I x3, I m_, I n_, A b1, A b10, I a_, I b_, I 4, I 1, I (-1 : Int32), I 4, I (((((1 : Int32) + (own_ea c0 (0 : Int32))) + (own_ea c1 c0)) + (own_ea c2 c1)) + (own_ea c3 c2)), I 3, U] []) := by
   intro  TJ locsJ XJ eJ NJ hS
   refine gA XJ hx 455 (B at_453) rfl rfl rfl ?_
   refine gk XJ hx 456 0 (B at_455) rfl rfl ?_
   refine gV XJ hx 459 hZ hown w122 w123 w125 w124 w7 w126 (by decide) b10 E_b10 [(.int 0)] [] (pa_4 hw b10 cp bf c0 c1 c2 c3 kF hT n0 Z17 G_b10 g_cp E_b10 W17_countedPosition W17_limit W17_buf W17_pos W17_noLineEndFrom W17_counted E_cp Pl Pc Pa V_bf nc0 nc1 nc2 nc3 hc0 hc1 hc2 hc3) eJ 0 rfl (M rfl) (lenOf pd25 rfl) (B at_456) rfl rfl rfl (fun v T120 L X120 Y => ?_)
   obtain ⟨p_, rfl, N120q, Z120, E_p, Ql, Qc, Qa⟩ := Y
   have N120 := Fr.app NJ N120q
   refine g_astore X120 hx 461 #[I x0, I x1, I x2, I x3, I m_, I n_, A b1, A b10, I a_, I b_, I 4, I 1, I (-1 : Int32), I 4, I (((((1 : Int32) + (own_ea c0 (0 : Int32))) + (own_ea c1 c0)) + (own_ea c2 c1)) + (own_ea c3 c2)), I 3, A p_] (B at_459) rfl rfl rfl ?_
   refine gl X120 hx 463 (B at_461) rfl rfl ?_
   refine gf X120 hx 466 (B at_463) (by decide) rfl ?_
   refine gA X120 hx 468 (B at_466) rfl rfl rfl ?_
   refine gV X120 hx 471 hZ hown w151 w152 w154 w153 w43 w155 (by decide) p_ E_p [] [] (rm28 hw p_ (own_step c3 c2 (own_step c2 c1 (own_step c1 c0 (own_step c0 0 (1 : Int64))))) T120.heap n0 Z120 Ql) rfl 0 rfl (M rfl) (lenOf pd26 rfl) (B at_468) rfl rfl rfl (fun v T121 L X121 Y => ?_)
   obtain ⟨rfl, N121q, e121⟩ := Y
   have N121 := Fr.app N120 N121q
   refine gl X121 hx 473 (B at_471) rfl rfl ?_
   refine gL X121 hx 474 ((((((1 : Int32) + (own_ea c0 (0 : Int32))) + (own_ea c1 c0)) + (own_ea c2 c1)) + (own_ea c3 c2)).toInt64) (B at_473) rfl rfl ?_
   refine gC X121 hx 475 (B at_474) rfl ?_
   have hk122 : (own_step c3 c2 (own_step c2 c1 (own_step c1 c0 (own_step c0 0 (1 : Int64))))) = ((((((1 : Int32) + (own_ea c0 (0 : Int32))) + (own_ea c1 c0)) + (own_ea c2 c1)) + (own_ea c3 c2)).toInt64) := own_fin_4 c0 c1 c2 c3
   refine gf X121 hx 478 (B at_475) (own_eqL hk122).2 rfl ?_
   refine gA X121 hx 480 (B at_478) rfl rfl rfl ?_
   refine gV X121 hx 483 hZ hown w156 w157 w159 w158 w43 w160 (by decide) p_ E_p [] [] (rm29 hw p_ (own_colf (4 : Int32) (own_st c3 4 (own_st c2 3 (own_st c1 2 (own_st c0 1 (0 : Int32)))))) T120.heap n0 Z120 Qc) e121 0 rfl (M rfl) (lenOf pd26 rfl) (B at_480) rfl rfl rfl (fun v T123 L X123 Y => ?_)
   obtain ⟨rfl, N123q, e123⟩ := Y
   have N123 := Fr.app N121 N123q
   refine gl X123 hx 485 (B at_483) rfl rfl ?_
   refine gl X123 hx 487 (B at_485) rfl rfl ?_
   refine gm X123 hx 488 (1 : Int32) (B at_487) (by decide) rfl ?_
   refine gk X123 hx 489 1 (B at_488) rfl rfl ?_
   refine gp X123 hx 490 (2 : Int32) (B at_489) (by decide) rfl ?_
   refine gL X123 hx 491 (2 : Int64) (B at_490) (by decide) rfl ?_
   refine gC X123 hx 492 (B at_491) rfl ?_
   have hk124 : (own_colf (4 : Int32) (own_st c3 4 (own_st c2 3 (own_st c1 2 (own_st c0 1 (0 : Int32)))))) = (2 : Int64) := by rw [hS]; decide
   refine gf X123 hx 495 (B at_492) (own_eqL hk124).2 rfl ?_
   refine gk X123 hx 496 1 (B at_495) rfl rfl ?_
   refine gg X123 hx 500 (B at_496) rfl ?_
   exact hG _ _ (g_retZ X123 hx hret hlk rfl (B at_500) (by decide) (by decide) ⟨rfl, N123⟩)
  have t453_4 : ∀  (TJ : State) (locsJ : List Loc), Stand p l e room_1 s m ([(.int x0), (.int x1), (.int x2), (.int x3), (.int m_), (.int n_)] : List Value).toArray below meth cO TJ locsJ 6 29 → TJ.heap = hT → Fr n0 locsJ → (own_st c3 4 (own_st c2 3 (own_st c1 2 (own_st c0 1 (0 : Int32))))) = 4 → Go p e below Fn Q TJ (mkF m 453 #[I x0, I x1, I x2, I x3, I m_, I n_, A b1, A b10, I a_, I b_, I 4, I 1, I (-1 : Int32), I 4, I (((((1 : Int32) + (own_ea c0 (0 : Int32))) + (own_ea c1 c0)) + (own_ea c2 c1)) + (own_ea c3 c2)), I 4, U] []) := by
   intro  TJ locsJ XJ eJ NJ hS
   refine gA XJ hx 455 (B at_453) rfl rfl rfl ?_
   refine gk XJ hx 456 0 (B at_455) rfl rfl ?_
   refine gV XJ hx 459 hZ hown w122 w123 w125 w124 w7 w126 (by decide) b10 E_b10 [(.int 0)] [] (pa_4 hw b10 cp bf c0 c1 c2 c3 kF hT n0 Z17 G_b10 g_cp E_b10 W17_countedPosition W17_limit W17_buf W17_pos W17_noLineEndFrom W17_counted E_cp Pl Pc Pa V_bf nc0 nc1 nc2 nc3 hc0 hc1 hc2 hc3) eJ 0 rfl (M rfl) (lenOf pd25 rfl) (B at_456) rfl rfl rfl (fun v T125 L X125 Y => ?_)
   obtain ⟨p_, rfl, N125q, Z125, E_p, Ql, Qc, Qa⟩ := Y
   have N125 := Fr.app NJ N125q
   refine g_astore X125 hx 461 #[I x0, I x1, I x2, I x3, I m_, I n_, A b1, A b10, I a_, I b_, I 4, I 1, I (-1 : Int32), I 4, I (((((1 : Int32) + (own_ea c0 (0 : Int32))) + (own_ea c1 c0)) + (own_ea c2 c1)) + (own_ea c3 c2)), I 4, A p_] (B at_459) rfl rfl rfl ?_
   refine gl X125 hx 463 (B at_461) rfl rfl ?_
   refine gf X125 hx 466 (B at_463) (by decide) rfl ?_
   refine gA X125 hx 468 (B at_466) rfl rfl rfl ?_
   refine gV X125 hx 471 hZ hown w151 w152 w154 w153 w43 w155 (by decide) p_ E_p [] [] (rm28 hw p_ (own_step c3 c2 (own_step c2 c1 (own_step c1 c0 (own_step c0 0 (1 : Int64))))) T125.heap n0 Z125 Ql) rfl 0 rfl (M rfl) (lenOf pd26 rfl) (B at_468) rfl rfl rfl (fun v T126 L X126 Y => ?_)
   obtain ⟨rfl, N126q, e126⟩ := Y
   have N126 := Fr.app N125 N126q
   refine gl X126 hx 473 (B at_471) rfl rfl ?_
   refine gL X126 hx 474 ((((((1 : Int32) + (own_ea c0 (0 : Int32))) + (own_ea c1 c0)) + (own_ea c2 c1)) + (own_ea c3 c2)).toInt64) (B at_473) rfl rfl ?_
   refine gC X126 hx 475 (B at_474) rfl ?_
   have hk127 : (own_step c3 c2 (own_step c2 c1 (own_step c1 c0 (own_step c0 0 (1 : Int64))))) = ((((((1 : Int32) + (own_ea c0 (0 : Int32))) + (own_ea c1 c0)) + (own_ea c2 c1)) + (own_ea c3 c2)).toInt64) := own_fin_4 c0 c1 c2 c3
   refine gf X126 hx 478 (B at_475) (own_eqL hk127).2 rfl ?_
   refine gA X126 hx 480 (B at_478) rfl rfl rfl ?_
   refine gV X126 hx 483 hZ hown w156 w157 w159 w158 w43 w160 (by decide) p_ E_p [] [] (rm29 hw p_ (own_colf (4 : Int32) (own_st c3 4 (own_st c2 3 (own_st c1 2 (own_st c0 1 (0 : Int32)))))) T125.heap n0 Z125 Qc) e126 0 rfl (M rfl) (lenOf pd26 rfl) (B at_480) rfl rfl rfl (fun v T128 L X128 Y => ?_)
   obtain ⟨rfl, N128q, e128⟩ := Y
   have N128 := Fr.app N126 N128q
   refine gl X128 hx 485 (B at_483) rfl rfl ?_
   refine gl X128 hx 487 (B at_485) rfl rfl ?_
   refine gm X128 hx 488 (0 : Int32) (B at_487) (by decide) rfl ?_
   refine gk X128 hx 489 1 (B at_488) rfl rfl ?_
   refine gp X128 hx 490 (1 : Int32) (B at_489) (by decide) rfl ?_
   refine gL X128 hx 491 (1 : Int64) (B at_490) (by decide) rfl ?_
   refine gC X128 hx 492 (B at_491) rfl ?_
   have hk129 : (own_colf (4 : Int32) (own_st c3 4 (own_st c2 3 (own_st c1 2 (own_st c0 1 (0 : Int32)))))) = (1 : Int64) := by rw [hS]; decide
   refine gf X128 hx 495 (B at_492) (own_eqL hk129).2 rfl ?_
   refine gk X128 hx 496 1 (B at_495) rfl rfl ?_
   refine gg X128 hx 500 (B at_496) rfl ?_
   exact hG _ _ (g_retZ X128 hx hret hlk rfl (B at_500) (by decide) (by decide) ⟨rfl, N128⟩)
  refine gk X104 hx 376 0 (B at_375) rfl rfl ?_
  refine gs X104 hx 378 #[I x0, I x1, I x2, I x3, I m_, I n_, A b1, A b10, I a_, I b_, I 4, I 1, I (-1 : Int32), I 4, I (((((1 : Int32) + (own_ea c0 (0 : Int32))) + (own_ea c1 c0)) + (own_ea c2 c1)) + (own_ea c3 c2)), I 0, U] (B at_376) rfl rfl ?_
  refine gl X104 hx 380 (B at_378) rfl rfl ?_
  refine gf X104 hx 383 (B at_380) (by decide) rfl ?_
  refine gA X104 hx 385 (B at_383) rfl rfl rfl ?_
  refine gk X104 hx 386 0 (B at_385) rfl rfl ?_
  refine gc X104 hx 387 hZ e104 V_b1 c0 rfl rfl (B at_386) rfl ?_
  refine gS X104 hx 390 hZ hown w116 w117 w3 w118 (by decide) [(.int c0)] [] (rm21 hw c0 hT n0 Z17) e104 0 rfl (M rfl) (lenOf pd0 rfl) (B at_387) rfl rfl rfl (fun v T130 L X130 Y => ?_)
  obtain ⟨rfl, N130q, e130⟩ := Y
  have N130 := Fr.app N104 N130q
  by_cases hc131 : (own_term c0) = 0
  ·
   refine gt X130 hx 396 (B at_390) ((if0 _ _).trans (teq hc131).1) rfl ?_
   refine gl X130 hx 398 (B at_396) rfl rfl ?_
   refine gk X130 hx 399 1 (B at_398) rfl rfl ?_
   refine gF X130 hx 402 (B at_399) (by decide) rfl ?_
   refine gA X130 hx 404 (B at_402) rfl rfl rfl ?_
   refine gk X130 hx 405 1 (B at_404) rfl rfl ?_
   refine gc X130 hx 406 hZ e130 V_b1 c1 rfl rfl (B at_405) rfl ?_
   refine gS X130 hx 409 hZ hown w116 w117 w3 w118 (by decide) [(.int c1)] [] (rm21 hw c1 hT n0 Z17) e130 0 rfl (M rfl) (lenOf pd0 rfl) (B at_406) rfl rfl rfl (fun v T132 L X132 Y => ?_)
   obtain ⟨rfl, N132q, e132⟩ := Y
   have N132 := Fr.app N130 N132q
   by_cases hc133 : (own_term c1) = 0
   ·
    refine gt X132 hx 415 (B at_409) ((if0 _ _).trans (teq hc133).1) rfl ?_
    refine gl X132 hx 417 (B at_415) rfl rfl ?_
    refine gk X132 hx 418 2 (B at_417) rfl rfl ?_
    refine gF X132 hx 421 (B at_418) (by decide) rfl ?_
    refine gA X132 hx 423 (B at_421) rfl rfl rfl ?_
    refine gk X132 hx 424 2 (B at_423) rfl rfl ?_
    refine gc X132 hx 425 hZ e132 V_b1 c2 rfl rfl (B at_424) rfl ?_
    refine gS X132 hx 428 hZ hown w116 w117 w3 w118 (by decide) [(.int c2)] [] (rm21 hw c2 hT n0 Z17) e132 0 rfl (M rfl) (lenOf pd0 rfl) (B at_425) rfl rfl rfl (fun v T134 L X134 Y => ?_)
    obtain ⟨rfl, N134q, e134⟩ := Y
    have N134 := Fr.app N132 N134q
    by_cases hc135 : (own_term c2) = 0
    ·
     refine gt X134 hx 434 (B at_428) ((if0 _ _).trans (teq hc135).1) rfl ?_
     refine gl X134 hx 436 (B at_434) rfl rfl ?_
     refine gk X134 hx 437 3 (B at_436) rfl rfl ?_
     refine gF X134 hx 440 (B at_437) (by decide) rfl ?_
     refine gA X134 hx 442 (B at_440) rfl rfl rfl ?_
     refine gk X134 hx 443 3 (B at_442) rfl rfl ?_
     refine gc X134 hx 444 hZ e134 V_b1 c3 rfl rfl (B at_443) rfl ?_
     refine gS X134 hx 447 hZ hown w116 w117 w3 w118 (by decide) [(.int c3)] [] (rm21 hw c3 hT n0 Z17) e134 0 rfl (M rfl) (lenOf pd0 rfl) (B at_444) rfl rfl rfl (fun v T136 L X136 Y => ?_)
     obtain ⟨rfl, N136q, e136⟩ := Y
     have N136 := Fr.app N134 N136q
     by_cases hc137 : (own_term c3) = 0
     ·
      refine gt X136 hx 453 (B at_447) ((if0 _ _).trans (teq hc137).1) rfl ?_
      exact t453_0 _ _ X136 e136 N136 (by simp [own_st, hc131, hc133, hc135, hc137])
     ·
      refine gf X136 hx 450 (B at_447) ((if0 _ _).trans (feq hc137).1) rfl ?_
      refine gk X136 hx 451 4 (B at_450) rfl rfl ?_
      refine gs X136 hx 453 _ (B at_451) rfl rfl ?_
      exact t453_4 _ _ X136 e136 N136 (by simp [own_st, hc131, hc133, hc135, hc137])
    ·
     refine gf X134 hx 431 (B at_428) ((if0 _ _).trans (feq hc135).1) rfl ?_
     refine gk X134 hx 432 3 (B at_431) rfl rfl ?_
     refine gs X134 hx 434 _ (B at_432) rfl rfl ?_
     refine gl X134 hx 436 (B at_434) rfl rfl ?_
     refine gk X134 hx 437 3 (B at_436) rfl rfl ?_
     refine gF X134 hx 440 (B at_437) (by decide) rfl ?_
     refine gA X134 hx 442 (B at_440) rfl rfl rfl ?_
     refine gk X134 hx 443 3 (B at_442) rfl rfl ?_
     refine gc X134 hx 444 hZ e134 V_b1 c3 rfl rfl (B at_443) rfl ?_
     refine gS X134 hx 447 hZ hown w116 w117 w3 w118 (by decide) [(.int c3)] [] (rm21 hw c3 hT n0 Z17) e134 0 rfl (M rfl) (lenOf pd0 rfl) (B at_444) rfl rfl rfl (fun v T138 L X138 Y => ?_)
     obtain ⟨rfl, N138q, e138⟩ := Y
     have N138 := Fr.app N134 N138q
     by_cases hc139 : (own_term c3) = 0
     ·
      refine gt X138 hx 453 (B at_447) ((if0 _ _).trans (teq hc139).1) rfl ?_
      exact t453_3 _ _ X138 e138 N138 (by simp [own_st, hc131, hc133, hc135, hc139])
     ·
      refine gf X138 hx 450 (B at_447) ((if0 _ _).trans (feq hc139).1) rfl ?_
      refine gk X138 hx 451 4 (B at_450) rfl rfl ?_
      refine gs X138 hx 453 #[I x0, I x1, I x2, I x3, I m_, I n_, A b1, A b10, I a_, I b_, I 4, I 1, I (-1 : Int32), I 4, I (((((1 : Int32) + (own_ea c0 (0 : Int32))) + (own_ea c1 c0)) + (own_ea c2 c1)) + (own_ea c3 c2)), I 4, U] (B at_451) rfl rfl ?_
      exact t453_4 _ _ X138 e138 N138 (by simp [own_st, hc131, hc133, hc135, hc139])
   ·
    refine gf X132 hx 412 (B at_409) ((if0 _ _).trans (feq hc133).1) rfl ?_
    refine gk X132 hx 413 2 (B at_412) rfl rfl ?_
    refine gs X132 hx 415 _ (B at_413) rfl rfl ?_
    refine gl X132 hx 417 (B at_415) rfl rfl ?_
    refine gk X132 hx 418 2 (B at_417) rfl rfl ?_
    refine gF X132 hx 421 (B at_418) (by decide) rfl ?_
    refine gA X132 hx 423 (B at_421) rfl rfl rfl ?_
    refine gk X132 hx 424 2 (B at_423) rfl rfl ?_
    refine gc X132 hx 425 hZ e132 V_b1 c2 rfl rfl (B at_424) rfl ?_
    refine gS X132 hx 428 hZ hown w116 w117 w3 w118 (by decide) [(.int c2)] [] (rm21 hw c2 hT n0 Z17) e132 0 rfl (M rfl) (lenOf pd0 rfl) (B at_425) rfl rfl rfl (fun v T140 L X140 Y => ?_)
    obtain ⟨rfl, N140q, e140⟩ := Y
    have N140 := Fr.app N132 N140q
    by_cases hc141 : (own_term c2) = 0
    ·
     refine gt X140 hx 434 (B at_428) ((if0 _ _).trans (teq hc141).1) rfl ?_
     refine gl X140 hx 436 (B at_434) rfl rfl ?_
     refine gk X140 hx 437 3 (B at_436) rfl rfl ?_
     refine gF X140 hx 440 (B at_437) (by decide) rfl ?_
     refine gA X140 hx 442 (B at_440) rfl rfl rfl ?_
     refine gk X140 hx 443 3 (B at_442) rfl rfl ?_
     refine gc X140 hx 444 hZ e140 V_b1 c3 rfl rfl (B at_443) rfl ?_
     refine gS X140 hx 447 hZ hown w116 w117 w3 w118 (by decide) [(.int c3)] [] (rm21 hw c3 hT n0 Z17) e140 0 rfl (M rfl) (lenOf pd0 rfl) (B at_444) rfl rfl rfl (fun v T142 L X142 Y => ?_)
     obtain ⟨rfl, N142q, e142⟩ := Y
     have N142 := Fr.app N140 N142q
     by_cases hc143 : (own_term c3) = 0
     ·
      refine gt X142 hx 453 (B at_447) ((if0 _ _).trans (teq hc143).1) rfl ?_
      exact t453_2 _ _ X142 e142 N142 (by simp [own_st, hc131, hc133, hc141, hc143])
     ·
      refine gf X142 hx 450 (B at_447) ((if0 _ _).trans (feq hc143).1) rfl ?_
      refine gk X142 hx 451 4 (B at_450) rfl rfl ?_
      refine gs X142 hx 453 #[I x0, I x1, I x2, I x3, I m_, I n_, A b1, A b10, I a_, I b_, I 4, I 1, I (-1 : Int32), I 4, I (((((1 : Int32) + (own_ea c0 (0 : Int32))) + (own_ea c1 c0)) + (own_ea c2 c1)) + (own_ea c3 c2)), I 4, U] (B at_451) rfl rfl ?_
      exact t453_4 _ _ X142 e142 N142 (by simp [own_st, hc131, hc133, hc141, hc143])
    ·
     refine gf X140 hx 431 (B at_428) ((if0 _ _).trans (feq hc141).1) rfl ?_
     refine gk X140 hx 432 3 (B at_431) rfl rfl ?_
     refine gs X140 hx 434 #[I x0, I x1, I x2, I x3, I m_, I n_, A b1, A b10, I a_, I b_, I 4, I 1, I (-1 : Int32), I 4, I (((((1 : Int32) + (own_ea c0 (0 : Int32))) + (own_ea c1 c0)) + (own_ea c2 c1)) + (own_ea c3 c2)), I 3, U] (B at_432) rfl rfl ?_
     refine gl X140 hx 436 (B at_434) rfl rfl ?_
     refine gk X140 hx 437 3 (B at_436) rfl rfl ?_
     refine gF X140 hx 440 (B at_437) (by decide) rfl ?_
     refine gA X140 hx 442 (B at_440) rfl rfl rfl ?_
     refine gk X140 hx 443 3 (B at_442) rfl rfl ?_
     refine gc X140 hx 444 hZ e140 V_b1 c3 rfl rfl (B at_443) rfl ?_
     refine gS X140 hx 447 hZ hown w116 w117 w3 w118 (by decide) [(.int c3)] [] (rm21 hw c3 hT n0 Z17) e140 0 rfl (M rfl) (lenOf pd0 rfl) (B at_444) rfl rfl rfl (fun v T144 L X144 Y => ?_)
     obtain ⟨rfl, N144q, e144⟩ := Y
     have N144 := Fr.app N140 N144q
     by_cases hc145 : (own_term c3) = 0
     ·
      refine gt X144 hx 453 (B at_447) ((if0 _ _).trans (teq hc145).1) rfl ?_
      exact t453_3 _ _ X144 e144 N144 (by simp [own_st, hc131, hc133, hc141, hc145])
     ·
      refine gf X144 hx 450 (B at_447) ((if0 _ _).trans (feq hc145).1) rfl ?_
      refine gk X144 hx 451 4 (B at_450) rfl rfl ?_
      refine gs X144 hx 453 _ (B at_451) rfl rfl ?_
      exact t453_4 _ _ X144 e144 N144 (by simp [own_st, hc131, hc133, hc141, hc145])
  ·
   refine gf X130 hx 393 (B at_390) ((if0 _ _).trans (feq hc131).1) rfl ?_
   refine gk X130 hx 394 1 (B at_393) rfl rfl ?_
   refine gs X130 hx 396 _ (B at_394) rfl rfl ?_
   refine gl X130 hx 398 (B at_396) rfl rfl ?_
   refine gk X130 hx 399 1 (B at_398) rfl rfl ?_
   refine gF X130 hx 402 (B at_399) (by decide) rfl ?_
   refine gA X130 hx 404 (B at_402) rfl rfl rfl ?_
   refine gk X130 hx 405 1 (B at_404) rfl rfl ?_
   refine gc X130 hx 406 hZ e130 V_b1 c1 rfl rfl (B at_405) rfl ?_
   refine gS X130 hx 409 hZ hown w116 w117 w3 w118 (by decide) [(.int c1)] [] (rm21 hw c1 hT n0 Z17) e130 0 rfl (M rfl) (lenOf pd0 rfl) (B at_406) rfl rfl rfl (fun v T146 L X146 Y => ?_)
   obtain ⟨rfl, N146q, e146⟩ := Y
   have N146 := Fr.app N130 N146q
   by_cases hc147 : (own_term c1) = 0
   ·
    refine gt X146 hx 415 (B at_409) ((if0 _ _).trans (teq hc147).1) rfl ?_
    refine gl X146 hx 417 (B at_415) rfl rfl ?_
    refine gk X146 hx 418 2 (B at_417) rfl rfl ?_
    refine gF X146 hx 421 (B at_418) (by decide) rfl ?_
    refine gA X146 hx 423 (B at_421) rfl rfl rfl ?_
    refine gk X146 hx 424 2 (B at_423) rfl rfl ?_
    refine gc X146 hx 425 hZ e146 V_b1 c2 rfl rfl (B at_424) rfl ?_
    refine gS X146 hx 428 hZ hown w116 w117 w3 w118 (by decide) [(.int c2)] [] (rm21 hw c2 hT n0 Z17) e146 0 rfl (M rfl) (lenOf pd0 rfl) (B at_425) rfl rfl rfl (fun v T148 L X148 Y => ?_)
    obtain ⟨rfl, N148q, e148⟩ := Y
    have N148 := Fr.app N146 N148q
    by_cases hc149 : (own_term c2) = 0
    ·
     refine gt X148 hx 434 (B at_428) ((if0 _ _).trans (teq hc149).1) rfl ?_
     refine gl X148 hx 436 (B at_434) rfl rfl ?_
     refine gk X148 hx 437 3 (B at_436) rfl rfl ?_
     refine gF X148 hx 440 (B at_437) (by decide) rfl ?_
     refine gA X148 hx 442 (B at_440) rfl rfl rfl ?_
     refine gk X148 hx 443 3 (B at_442) rfl rfl ?_
     refine gc X148 hx 444 hZ e148 V_b1 c3 rfl rfl (B at_443) rfl ?_
     refine gS X148 hx 447 hZ hown w116 w117 w3 w118 (by decide) [(.int c3)] [] (rm21 hw c3 hT n0 Z17) e148 0 rfl (M rfl) (lenOf pd0 rfl) (B at_444) rfl rfl rfl (fun v T150 L X150 Y => ?_)
     obtain ⟨rfl, N150q, e150⟩ := Y
     have N150 := Fr.app N148 N150q
     by_cases hc151 : (own_term c3) = 0
     ·
      refine gt X150 hx 453 (B at_447) ((if0 _ _).trans (teq hc151).1) rfl ?_
      exact t453_1 _ _ X150 e150 N150 (by simp [own_st, hc131, hc147, hc149, hc151])
     ·
      refine gf X150 hx 450 (B at_447) ((if0 _ _).trans (feq hc151).1) rfl ?_
      refine gk X150 hx 451 4 (B at_450) rfl rfl ?_
      refine gs X150 hx 453 #[I x0, I x1, I x2, I x3, I m_, I n_, A b1, A b10, I a_, I b_, I 4, I 1, I (-1 : Int32), I 4, I (((((1 : Int32) + (own_ea c0 (0 : Int32))) + (own_ea c1 c0)) + (own_ea c2 c1)) + (own_ea c3 c2)), I 4, U] (B at_451) rfl rfl ?_
      exact t453_4 _ _ X150 e150 N150 (by simp [own_st, hc131, hc147, hc149, hc151])
    ·
     refine gf X148 hx 431 (B at_428) ((if0 _ _).trans (feq hc149).1) rfl ?_
     refine gk X148 hx 432 3 (B at_431) rfl rfl ?_
     refine gs X148 hx 434 #[I x0, I x1, I x2, I x3, I m_, I n_, A b1, A b10, I a_, I b_, I 4, I 1, I (-1 : Int32), I 4, I (((((1 : Int32) + (own_ea c0 (0 : Int32))) + (own_ea c1 c0)) + (own_ea c2 c1)) + (own_ea c3 c2)), I 3, U] (B at_432) rfl rfl ?_
     refine gl X148 hx 436 (B at_434) rfl rfl ?_
     refine gk X148 hx 437 3 (B at_436) rfl rfl ?_
     refine gF X148 hx 440 (B at_437) (by decide) rfl ?_
     refine gA X148 hx 442 (B at_440) rfl rfl rfl ?_
     refine gk X148 hx 443 3 (B at_442) rfl rfl ?_
     refine gc X148 hx 444 hZ e148 V_b1 c3 rfl rfl (B at_443) rfl ?_
     refine gS X148 hx 447 hZ hown w116 w117 w3 w118 (by decide) [(.int c3)] [] (rm21 hw c3 hT n0 Z17) e148 0 rfl (M rfl) (lenOf pd0 rfl) (B at_444) rfl rfl rfl (fun v T152 L X152 Y => ?_)
     obtain ⟨rfl, N152q, e152⟩ := Y
     have N152 := Fr.app N148 N152q
     by_cases hc153 : (own_term c3) = 0
     ·
      refine gt X152 hx 453 (B at_447) ((if0 _ _).trans (teq hc153).1) rfl ?_
      exact t453_3 _ _ X152 e152 N152 (by simp [own_st, hc131, hc147, hc149, hc153])
     ·
      refine gf X152 hx 450 (B at_447) ((if0 _ _).trans (feq hc153).1) rfl ?_
      refine gk X152 hx 451 4 (B at_450) rfl rfl ?_
      refine gs X152 hx 453 _ (B at_451) rfl rfl ?_
      exact t453_4 _ _ X152 e152 N152 (by simp [own_st, hc131, hc147, hc149, hc153])
   ·
    refine gf X146 hx 412 (B at_409) ((if0 _ _).trans (feq hc147).1) rfl ?_
    refine gk X146 hx 413 2 (B at_412) rfl rfl ?_
    refine gs X146 hx 415 #[I x0, I x1, I x2, I x3, I m_, I n_, A b1, A b10, I a_, I b_, I 4, I 1, I (-1 : Int32), I 4, I (((((1 : Int32) + (own_ea c0 (0 : Int32))) + (own_ea c1 c0)) + (own_ea c2 c1)) + (own_ea c3 c2)), I 2, U] (B at_413) rfl rfl ?_
    refine gl X146 hx 417 (B at_415) rfl rfl ?_
    refine gk X146 hx 418 2 (B at_417) rfl rfl ?_
    refine gF X146 hx 421 (B at_418) (by decide) rfl ?_
    refine gA X146 hx 423 (B at_421) rfl rfl rfl ?_
    refine gk X146 hx 424 2 (B at_423) rfl rfl ?_
    refine gc X146 hx 425 hZ e146 V_b1 c2 rfl rfl (B at_424) rfl ?_
    refine gS X146 hx 428 hZ hown w116 w117 w3 w118 (by decide) [(.int c2)] [] (rm21 hw c2 hT n0 Z17) e146 0 rfl (M rfl) (lenOf pd0 rfl) (B at_425) rfl rfl rfl (fun v T154 L X154 Y => ?_)
    obtain ⟨rfl, N154q, e154⟩ := Y
    have N154 := Fr.app N146 N154q
    by_cases hc155 : (own_term c2) = 0
    ·
     refine gt X154 hx 434 (B at_428) ((if0 _ _).trans (teq hc155).1) rfl ?_
     refine gl X154 hx 436 (B at_434) rfl rfl ?_
     refine gk X154 hx 437 3 (B at_436) rfl rfl ?_
     refine gF X154 hx 440 (B at_437) (by decide) rfl ?_
     refine gA X154 hx 442 (B at_440) rfl rfl rfl ?_
     refine gk X154 hx 443 3 (B at_442) rfl rfl ?_
     refine gc X154 hx 444 hZ e154 V_b1 c3 rfl rfl (B at_443) rfl ?_
     refine gS X154 hx 447 hZ hown w116 w117 w3 w118 (by decide) [(.int c3)] [] (rm21 hw c3 hT n0 Z17) e154 0 rfl (M rfl) (lenOf pd0 rfl) (B at_444) rfl rfl rfl (fun v T156 L X156 Y => ?_)
     obtain ⟨rfl, N156q, e156⟩ := Y
     have N156 := Fr.app N154 N156q
     by_cases hc157 : (own_term c3) = 0
     ·
      refine gt X156 hx 453 (B at_447) ((if0 _ _).trans (teq hc157).1) rfl ?_
      exact t453_2 _ _ X156 e156 N156 (by simp [own_st, hc131, hc147, hc155, hc157])
     ·
      refine gf X156 hx 450 (B at_447) ((if0 _ _).trans (feq hc157).1) rfl ?_
      refine gk X156 hx 451 4 (B at_450) rfl rfl ?_
      refine gs X156 hx 453 _ (B at_451) rfl rfl ?_
      exact t453_4 _ _ X156 e156 N156 (by simp [own_st, hc131, hc147, hc155, hc157])
    ·
     refine gf X154 hx 431 (B at_428) ((if0 _ _).trans (feq hc155).1) rfl ?_
     refine gk X154 hx 432 3 (B at_431) rfl rfl ?_
     refine gs X154 hx 434 _ (B at_432) rfl rfl ?_
     refine gl X154 hx 436 (B at_434) rfl rfl ?_
     refine gk X154 hx 437 3 (B at_436) rfl rfl ?_
     refine gF X154 hx 440 (B at_437) (by decide) rfl ?_
     refine gA X154 hx 442 (B at_440) rfl rfl rfl ?_
     refine gk X154 hx 443 3 (B at_442) rfl rfl ?_
     refine gc X154 hx 444 hZ e154 V_b1 c3 rfl rfl (B at_443) rfl ?_
     refine gS X154 hx 447 hZ hown w116 w117 w3 w118 (by decide) [(.int c3)] [] (rm21 hw c3 hT n0 Z17) e154 0 rfl (M rfl) (lenOf pd0 rfl) (B at_444) rfl rfl rfl (fun v T158 L X158 Y => ?_)
     obtain ⟨rfl, N158q, e158⟩ := Y
     have N158 := Fr.app N154 N158q
     by_cases hc159 : (own_term c3) = 0
     ·
      refine gt X158 hx 453 (B at_447) ((if0 _ _).trans (teq hc159).1) rfl ?_
      exact t453_3 _ _ X158 e158 N158 (by simp [own_st, hc131, hc147, hc155, hc159])
     ·
      refine gf X158 hx 450 (B at_447) ((if0 _ _).trans (feq hc159).1) rfl ?_
      refine gk X158 hx 451 4 (B at_450) rfl rfl ?_
      refine gs X158 hx 453 #[I x0, I x1, I x2, I x3, I m_, I n_, A b1, A b10, I a_, I b_, I 4, I 1, I (-1 : Int32), I 4, I (((((1 : Int32) + (own_ea c0 (0 : Int32))) + (own_ea c1 c0)) + (own_ea c2 c1)) + (own_ea c3 c2)), I 4, U] (B at_451) rfl rfl ?_
      exact t453_4 _ _ X158 e158 N158 (by simp [own_st, hc131, hc147, hc155, hc159])
 refine gk XJ hx 142 (-1 : Int32) (B at_141) rfl rfl ?_
 refine gs XJ hx 144 #[I x0, I x1, I x2, I x3, I m_, I n_, A b1, A b10, I a_, I b_, I 4, I 1, I (-1 : Int32), U, U, U, U] (B at_142) rfl rfl ?_
 refine gl XJ hx 146 (B at_144) rfl rfl ?_
 refine gk XJ hx 147 3 (B at_146) rfl rfl ?_
 refine gT XJ hx 163 (B at_147) (by decide) rfl ?_
 refine gl XJ hx 165 (B at_163) rfl rfl ?_
 refine gk XJ hx 166 2 (B at_165) rfl rfl ?_
 refine gT XJ hx 182 (B at_166) (by decide) rfl ?_
 refine gl XJ hx 184 (B at_182) rfl rfl ?_
 refine gk XJ hx 185 1 (B at_184) rfl rfl ?_
 refine gT XJ hx 201 (B at_185) (by decide) rfl ?_
 refine gl XJ hx 203 (B at_201) rfl rfl ?_
 refine gt XJ hx 219 (B at_203) (by decide) rfl ?_
 exact t219_m _ _ XJ eJ NJ
set_option maxRecDepth 65536 in
set_option maxHeartbeats 40000000 in
theorem rm0 {l : Launch} {Z : State} {a0 : Array Value} (hw : ∀ d ∈ tables_1, d.before a0 Z = true) (x0 x1 x2 x3 m_ n_ cs : Int32) (sio : Value) (h0 : Heap) (n0 : Nat) (Z0 : n0 ≤ h0.size) (S_cs : Sta Z h0 "java/lang/String" "COMPACT_STRINGS" "Z" (.int cs)) (hcs : ¬ cs = 0) (S_sio : Sta Z h0 "jdk/internal/util/Preconditions" "SIOOBE_FORMATTER" "Ljava/util/function/BiFunction;" sio) (hsio : sio = .null ∨ ∃ r, sio = .ref r) :
  OwnMet l Z Jvm.Pilot.@@N@@.x code maxLocals ret tables_1 room_1 [(.int x0), (.int x1), (.int x2), (.int x3), (.int m_), (.int n_)] h0 (fun v h L => v = some (.int 1) ∧ Fr n0 L) := by
 refine own_body (Ls := #[I x0, I x1, I x2, I x3, I m_, I n_, U, U, U, U, U, U, U, U, U, U, U]) (plainFor_of_name own_pn1) (fun m => by first | (simp [entryFrame, mkF, argsToLocals, Value.category, maxLocals]; done) | rfl) (fun p e s m below meth cO T0 hx hby hml hown hnm hret hlk hZ X0 e0 => ?_)
 have hml : cO.maxLocals = 17 := hml
 have hown : s.vm.findClass "gleanwell/WindowMoveByPinLaw" = some m.cls := hown
 have B {q : Nat} {r : Instr × Nat} (h : decode code q = .ok r) : decode cO.code q = .ok r := hb hby h
 have W {d : Jvm.Cond} (i : Nat) (h : tables_1[i]? = some d) : d.before a0 Z = true := own_w hw i h
 have w1 := W 1 rfl
 have w2 := W 2 rfl
 have w3 := W 3 rfl
 have w4 := W 4 rfl
 have w6 := W 6 rfl
 have w7 := W 7 rfl
 have M {n : Nat} (h : n = _) : n = cO.maxLocals := h.trans hml.symm
 have N0 := Fr.nil n0
 have K0 := Keep.refl h0 []
 refine gk X0 hx 1 4 (B at_0) rfl rfl ?_
 refine g_newP X0 hx 3 hZ (W 0 rfl) e0 (B at_1) (by decide) 4 (by decide) (by decide) (by decide) (by decide) rfl (fun T1 h1 b1 kl1 g1 X1 e1 E1 A1 => ?_)
 have G_b1 : n0 ≤ b1 := Nat.le_trans Z0 (Nat.le_of_eq g1.symm)
 have Z1 : n0 ≤ h1.size := Nat.le_trans Z0 E1.1
 have SZ_b1 : h0.size ≤ b1 := Nat.le_trans K0.1 (Nat.le_of_eq g1.symm)
 have K1 := K0.ext E1
 have V_b1 : Arv Z h1 b1 kl1 .char (4 : Int32) [(.int 0), (.int 0), (.int 0), (.int 0)] (.int 0) := A1.pad (pad_rep [] (.int 0) 4)
 refine g_dup X1 hx 4 (B at_3) rfl rfl ?_
 refine gk X1 hx 5 0 (B at_4) rfl rfl ?_
 refine gn X1 hx 6 (B at_5) rfl rfl ?_
 refine gS X1 hx 9 hZ hown w1 w2 w3 w4 (by decide) [(.int x0)] [(.int 0), (.ref b1), (.ref b1)] (rm1 hw x0 h1 n0 Z1) e1 3 rfl (M rfl) (lenOf pd20 rfl) (B at_6) rfl rfl rfl (fun v T2 L X2 Y => ?_)
 obtain ⟨⟨c0, rfl, nc0, hc0⟩, N2q, e2⟩ := Y
 have N2 := Fr.app N0 N2q
 refine g_castore X2 hx 10 hZ e2 V_b1 0 (by decide) ⟨by decide, by decide⟩ (Nat.le_of_ble_eq_true rfl) (B at_9) rfl (fun T3 h3 X3 e3 W3 V3 => ?_)
 have V_b1 : Arv Z h3 b1 kl1 .char (4 : Int32) [(.int (nar .char c0)), (.int 0), (.int 0), (.int 0)] (.int 0) := V3
 have N3 := Fr.snoc X3 N2 G_b1
 have Z3 : n0 ≤ h3.size := by rw [W3.size]; exact Z1
 have K3 := K1.wr W3 (Or.inr SZ_b1)
 refine g_dup X3 hx 11 (B at_10) rfl rfl ?_
 refine gk X3 hx 12 1 (B at_11) rfl rfl ?_
 refine gn X3 hx 13 (B at_12) rfl rfl ?_
 refine gS X3 hx 16 hZ hown w1 w2 w3 w4 (by decide) [(.int x1)] [(.int 1), (.ref b1), (.ref b1)] (rm1 hw x1 h3 n0 Z3) e3 3 rfl (M rfl) (lenOf pd20 rfl) (B at_13) rfl rfl rfl (fun v T4 L X4 Y => ?_)
 obtain ⟨⟨c1, rfl, nc1, hc1⟩, N4q, e4⟩ := Y
 have N4 := Fr.app N3 N4q
 refine g_castore X4 hx 17 hZ e4 V_b1 1 (by decide) ⟨by decide, by decide⟩ (Nat.le_of_ble_eq_true rfl) (B at_16) rfl (fun T5 h5 X5 e5 W5 V5 => ?_)
 have V_b1 : Arv Z h5 b1 kl1 .char (4 : Int32) [(.int (nar .char c0)), (.int (nar .char c1)), (.int 0), (.int 0)] (.int 0) := V5
 have N5 := Fr.snoc X5 N4 G_b1
 have Z5 : n0 ≤ h5.size := by rw [W5.size]; exact Z3
 have K5 := K3.wr W5 (Or.inr SZ_b1)
 refine g_dup X5 hx 18 (B at_17) rfl rfl ?_
 refine gk X5 hx 19 2 (B at_18) rfl rfl ?_
 refine gn X5 hx 20 (B at_19) rfl rfl ?_
 refine gS X5 hx 23 hZ hown w1 w2 w3 w4 (by decide) [(.int x2)] [(.int 2), (.ref b1), (.ref b1)] (rm1 hw x2 h5 n0 Z5) e5 3 rfl (M rfl) (lenOf pd20 rfl) (B at_20) rfl rfl rfl (fun v T6 L X6 Y => ?_)
 obtain ⟨⟨c2, rfl, nc2, hc2⟩, N6q, e6⟩ := Y
 have N6 := Fr.app N5 N6q
 refine g_castore X6 hx 24 hZ e6 V_b1 2 (by decide) ⟨by decide, by decide⟩ (Nat.le_of_ble_eq_true rfl) (B at_23) rfl (fun T7 h7 X7 e7 W7 V7 => ?_)
 have V_b1 : Arv Z h7 b1 kl1 .char (4 : Int32) [(.int (nar .char c0)), (.int (nar .char c1)), (.int (nar .char c2)), (.int 0)] (.int 0) := V7
 have N7 := Fr.snoc X7 N6 G_b1
 have Z7 : n0 ≤ h7.size := by rw [W7.size]; exact Z5
 have K7 := K5.wr W7 (Or.inr SZ_b1)
 refine g_dup X7 hx 25 (B at_24) rfl rfl ?_
 refine gk X7 hx 26 3 (B at_25) rfl rfl ?_
 refine gn X7 hx 27 (B at_26) rfl rfl ?_
 refine gS X7 hx 30 hZ hown w1 w2 w3 w4 (by decide) [(.int x3)] [(.int 3), (.ref b1), (.ref b1)] (rm1 hw x3 h7 n0 Z7) e7 3 rfl (M rfl) (lenOf pd20 rfl) (B at_27) rfl rfl rfl (fun v T8 L X8 Y => ?_)
 obtain ⟨⟨c3, rfl, nc3, hc3⟩, N8q, e8⟩ := Y
 have N8 := Fr.app N7 N8q
 refine g_castore X8 hx 31 hZ e8 V_b1 3 (by decide) ⟨by decide, by decide⟩ (Nat.le_of_ble_eq_true rfl) (B at_30) rfl (fun T9 h9 X9 e9 W9 V9 => ?_)
 have V_b1 : Arv Z h9 b1 kl1 .char (4 : Int32) [(.int (nar .char c0)), (.int (nar .char c1)), (.int (nar .char c2)), (.int (nar .char c3))] (.int 0) := V9
 have N9 := Fr.snoc X9 N8 G_b1
 have Z9 : n0 ≤ h9.size := by rw [W9.size]; exact Z7
 have K9 := K7.wr W9 (Or.inr SZ_b1)
 rw [nc0, nc1, nc2, nc3] at V_b1
 refine g_astore X9 hx 33 _ (B at_31) rfl rfl rfl ?_
 refine g_new X9 hx 36 hZ hown (W 5 rfl) w6 w7 e9 (B at_33) (by decide) (by decide) rfl (fun T10 h10 b10 g10 X10 e10 E10 A10 D10 => ?_)
 have ne_b1_b10 : b1 ≠ b10 := Nat.ne_of_lt (Nat.lt_of_lt_of_le V_b1.lt (Nat.le_of_eq g10.symm))
 have V_b1 := V_b1.ext E10
 have G_b10 : n0 ≤ b10 := Nat.le_trans Z9 (Nat.le_of_eq g10.symm)
 have Z10 : n0 ≤ h10.size := Nat.le_trans Z9 E10.1
 have SZ_b10 : h0.size ≤ b10 := Nat.le_trans K9.1 (Nat.le_of_eq g10.symm)
 have K10 := K9.ext E10
 have E_b10 : Exa Z h10 b10 "gleanwell/Window" := A10
 have F_b10_countedPosition : Fld Z h10 b10 "gleanwell/Window" "countedPosition" "Lgleanwell/Position;" .null := D10 (Or.inr (W 53 rfl)) (ty := (.object "gleanwell/Position")) (by decide)
 have F_b10_source : Fld Z h10 b10 "gleanwell/Window" "source" "Ljava/lang/Readable;" .null := D10 (Or.inr (W 55 rfl)) (ty := (.object "java/lang/Readable")) (by decide)
 have F_b10_limit : Fld Z h10 b10 "gleanwell/Window" "limit" "I" (.int 0) := D10 (Or.inl (W 67 rfl)) (ty := .int) (by decide)
 have F_b10_buf : Fld Z h10 b10 "gleanwell/Window" "buf" "[C" .null := D10 (Or.inl (W 69 rfl)) (ty := (.array .char)) (by decide)
 have F_b10_sourceExhausted : Fld Z h10 b10 "gleanwell/Window" "sourceExhausted" "Z" (.int 0) := D10 (Or.inl (W 103 rfl)) (ty := .boolean) (by decide)
 have F_b10_pos : Fld Z h10 b10 "gleanwell/Window" "pos" "I" (.int 0) := D10 (Or.inl (W 111 rfl)) (ty := .int) (by decide)
 have F_b10_noLineEndFrom : Fld Z h10 b10 "gleanwell/Window" "noLineEndFrom" "I" (.int 0) := D10 (Or.inl (W 113 rfl)) (ty := .int) (by decide)
 have F_b10_counted : Fld Z h10 b10 "gleanwell/Window" "counted" "I" (.int 0) := D10 (Or.inl (W 128 rfl)) (ty := .int) (by decide)
 refine g_dup X10 hx 37 (B at_36) rfl rfl ?_
 refine g_new X10 hx 40 hZ hown (W 8 rfl) (W 9 rfl) (W 10 rfl) e10 (B at_37) (by decide) (by decide) rfl (fun T11 h11 b11 g11 X11 e11 E11 A11 D11 => ?_)
 have ne_b1_b11 : b1 ≠ b11 := Nat.ne_of_lt (Nat.lt_of_lt_of_le V_b1.lt (Nat.le_of_eq g11.symm))
 have ne_b10_b11 : b10 ≠ b11 := Nat.ne_of_lt (Nat.lt_of_lt_of_le E_b10.lt (Nat.le_of_eq g11.symm))
 have V_b1 := V_b1.ext E11
 have E_b10 := E_b10.ext E11
 have F_b10_countedPosition := F_b10_countedPosition.ext E11
 have F_b10_source := F_b10_source.ext E11
 have F_b10_limit := F_b10_limit.ext E11
 have F_b10_buf := F_b10_buf.ext E11
 have F_b10_sourceExhausted := F_b10_sourceExhausted.ext E11
 have F_b10_pos := F_b10_pos.ext E11
 have F_b10_noLineEndFrom := F_b10_noLineEndFrom.ext E11
 have F_b10_counted := F_b10_counted.ext E11
 have G_b11 : n0 ≤ b11 := Nat.le_trans Z10 (Nat.le_of_eq g11.symm)
 have Z11 : n0 ≤ h11.size := Nat.le_trans Z10 E11.1
 have SZ_b11 : h0.size ≤ b11 := Nat.le_trans K10.1 (Nat.le_of_eq g11.symm)
 have K11 := K10.ext E11
 have E_b11 : Exa Z h11 b11 "java/lang/String" := A11
 have F_b11_coder : Fld Z h11 b11 "java/lang/String" "coder" "B" (.int 0) := D11 (Or.inr (W 34 rfl)) (ty := .byte) (by decide)
 have F_b11_value : Fld Z h11 b11 "java/lang/String" "value" "[B" .null := D11 (Or.inr (W 36 rfl)) (ty := (.array .byte)) (by decide)
 refine g_dup X11 hx 41 (B at_40) rfl rfl ?_
 refine gA X11 hx 43 (B at_41) rfl rfl rfl ?_
 have V_u0 := V_b1
 refine g_callI X11 hx 46 hZ rfl hown (W 11 rfl) (W 12 rfl) (W 10 rfl) (W 13 rfl) (by decide) b11 [(.ref b1)] [(.ref b11), (.ref b10), (.ref b10)] (rs_init1 hw b11 b1 cs c0 c1 c2 c3 kl1 _ _ h11 n0 Z11 G_b11 (own_sta_keep S_cs K11) hcs E_b11 F_b11_value F_b11_coder V_b1 hc0 hc1 hc2 hc3) e11 3 (by decide) (by decide) (by decide) (by decide) (by rw [hml]; rfl) (lenOf pd21 rfl) (B at_43) rfl (Nat.le_of_eq rfl) rfl (fun v T12 L X12 Y => ?_)
 obtain ⟨rfl, N12q, K12, t, kT, hst, E12x, Fv_s, Fc_s, V_t⟩ := Y
 have N12 := Fr.app N9 N12q
 have V_b1 := V_b1.keep K12 (ninS ne_b1_b11 nin0)
 have E_b10 := E_b10.keep K12
 have F_b10_countedPosition := F_b10_countedPosition.keep K12 (ninS ne_b10_b11 nin0)
 have F_b10_source := F_b10_source.keep K12 (ninS ne_b10_b11 nin0)
 have F_b10_limit := F_b10_limit.keep K12 (ninS ne_b10_b11 nin0)
 have F_b10_buf := F_b10_buf.keep K12 (ninS ne_b10_b11 nin0)
 have F_b10_sourceExhausted := F_b10_sourceExhausted.keep K12 (ninS ne_b10_b11 nin0)
 have F_b10_pos := F_b10_pos.keep K12 (ninS ne_b10_b11 nin0)
 have F_b10_noLineEndFrom := F_b10_noLineEndFrom.keep K12 (ninS ne_b10_b11 nin0)
 have F_b10_counted := F_b10_counted.keep K12 (ninS ne_b10_b11 nin0)
 have E_b11 := E_b11.keep K12
 have KK12 : Keep h0 T12.heap [] := K11.trans K12 (allS (Or.inr SZ_b11) (all0))
 have Z12 := Nat.le_trans Z11 K12.1
 have ne_b10_t : b10 ≠ t := Exa.neArv E_b10 V_t w6
 have ne_b11_t : b11 ≠ t := Exa.neArv E_b11 V_t (W 9 rfl)
 have ne_u_t : b1 ≠ t := Nat.ne_of_lt (Nat.lt_of_lt_of_le V_u0.lt hst)
 refine g_callI X12 hx 49 hZ rfl hown (W 37 rfl) (W 38 rfl) w7 (W 39 rfl) (by decide) b10 [(.ref b11)] [(.ref b10)] (rm8 hw b10 b11 t cs sio c0 c1 c2 c3 kT _ _ _ _ _ T12.heap n0 Z12 G_b10 (own_sta_keep S_cs KK12) hcs (own_sta_keep S_sio KK12) hsio E_b10 F_b10_countedPosition F_b10_source F_b10_limit F_b10_buf F_b10_sourceExhausted F_b10_pos F_b10_noLineEndFrom F_b10_counted E_b11 Fv_s Fc_s V_t nc0 nc1 nc2 nc3 hc0 hc1 hc2 hc3) rfl 1 (by decide) (by decide) (by decide) (by decide) (by rw [hml]; rfl) (lenOf pd22 rfl) (B at_46) rfl (Nat.le_of_eq rfl) rfl (fun v T13 L X13 Y => ?_)
 obtain ⟨rfl, N13q, K13, cp, bf, kF, g_cp, hcp, hbf, E_b10, W_countedPosition, W_limit, W_buf, W_pos, W_noLineEndFrom, W_counted, E_cp, Pl, Pc, Pa, V_bf⟩ := Y
 have N13 := Fr.app N12 N13q
 have V_u1 := V_b1
 have V_b1 := V_b1.keep K13 (ninS ne_b1_b10 nin0)
 have Z13 := Nat.le_trans Z12 K13.1
 have ne_cp_w : cp ≠ b10 := ne_exa E_cp E_b10 (by decide)
 have ne_bf_w : bf ≠ b10 := Ne.symm (Exa.neArv E_b10 V_bf w6)
 have ne_bf_cp : bf ≠ cp := Ne.symm (Exa.neArv E_cp V_bf (W 42 rfl))
 have ne_u_cp : b1 ≠ cp := Nat.ne_of_lt (Nat.lt_of_lt_of_le V_u1.lt hcp)
 refine g_astore X13 hx 51 #[I x0, I x1, I x2, I x3, I m_, I n_, A b1, A b10, U, U, U, U, U, U, U, U, U] (B at_49) rfl rfl rfl ?_
 refine gl X13 hx 53 (B at_51) rfl rfl ?_
 refine g_ldcI X13 hx 55 hZ hown (W 104 rfl) (B at_53) rfl ?_
 refine g_iand X13 hx 56 (m_ &&& 2147483647) (B at_55) rfl rfl ?_
 refine gk X13 hx 57 5 (B at_56) rfl rfl ?_
 refine g_irem X13 hx 58 ((m_ &&& 2147483647) % 5) (B at_57) (by decide) rfl rfl ?_
 have ha := own_modb _ 5 (own_nn m_) (by decide)
 generalize ((m_ &&& 2147483647) % 5) = a_ at ha ⊢
 have hnz69 := own_5n a_ ha
 refine gs X13 hx 60 _ (B at_58) rfl rfl ?_
 refine gl X13 hx 62 (B at_60) rfl rfl ?_
 refine g_ldcI X13 hx 64 hZ hown (W 104 rfl) (B at_62) rfl ?_
 refine g_iand X13 hx 65 (n_ &&& 2147483647) (B at_64) rfl rfl ?_
 refine gk X13 hx 66 5 (B at_65) rfl rfl ?_
 refine gl X13 hx 68 (B at_66) rfl rfl ?_
 refine gm X13 hx 69 ((5 : Int32) - a_) (B at_68) rfl rfl ?_
 refine g_irem X13 hx 70 ((n_ &&& 2147483647) % ((5 : Int32) - a_)) (B at_69) hnz69 rfl rfl ?_
 have hb := own_modb _ (5 - a_) (own_nn n_) (own_5a a_ ha)
 generalize ((n_ &&& 2147483647) % ((5 : Int32) - a_)) = b_ at hb ⊢
 refine gs X13 hx 72 #[I x0, I x1, I x2, I x3, I m_, I n_, A b1, A b10, I a_, I b_, U, U, U, U, U, U, U] (B at_70) rfl rfl ?_
 refine gl X13 hx 74 (B at_72) rfl rfl ?_
 refine gl X13 hx 76 (B at_74) rfl rfl ?_
 refine gp X13 hx 77 (a_ + b_) (B at_76) rfl rfl ?_
 refine gs X13 hx 79 _ (B at_77) rfl rfl ?_
 refine gA X13 hx 81 (B at_79) rfl rfl rfl ?_
 refine gl X13 hx 83 (B at_81) rfl rfl ?_
 refine gV X13 hx 86 hZ hown (W 105 rfl) (W 106 rfl) (W 108 rfl) (W 107 rfl) w7 (W 109 rfl) (by decide) b10 E_b10 [(.int a_)] [] (rm20 hw b10 cp bf a_ (4 : Int32) (0 : Int32) (0 : Int32) (0 : Int32) T13.heap n0 Z13 G_b10 E_b10 W_countedPosition W_limit W_buf W_pos W_noLineEndFrom W_counted) rfl 0 rfl (M rfl) (lenOf pd23 rfl) (B at_83) rfl rfl rfl (fun v T14 L X14 Y => ?_)
 obtain ⟨rfl, N14q, K14, E14x, W14_countedPosition, W14_limit, W14_buf, W14_pos, W14_noLineEndFrom, W14_counted⟩ := Y
 have N14 := Fr.app N13 N14q
 have V_b1 := V_b1.keep K14 (ninS ne_b1_b10 nin0)
 have E_b10 := E_b10.keep K14
 have E_cp := E_cp.keep K14
 have Pl := Pl.keep K14 (ninS ne_cp_w nin0)
 have Pc := Pc.keep K14 (ninS ne_cp_w nin0)
 have Pa := Pa.keep K14 (ninS ne_cp_w nin0)
 have V_bf := V_bf.keep K14 (ninS ne_bf_w nin0)
 have Z14 := Nat.le_trans Z13 K14.1
 refine gA X14 hx 88 (B at_86) rfl rfl rfl ?_
 refine gG X14 hx 91 hZ hown (host := "") (Or.inl (W 114 rfl)) Via.refl rfl W14_pos (B at_88) rfl (fun T15 X15 e15 => ?_)
 refine gl X15 hx 93 (B at_91) rfl rfl ?_
 have hk16 : ((0 : Int32) + a_) = a_ := Int32.zero_add a_
 refine gF X15 hx 96 (B at_93) (teq hk16).2 rfl ?_
 refine gk X15 hx 97 1 (B at_96) rfl rfl ?_
 refine gg X15 hx 101 (B at_97) rfl ?_
 refine gs X15 hx 103 #[I x0, I x1, I x2, I x3, I m_, I n_, A b1, A b10, I a_, I b_, I (a_ + b_), I 1, U, U, U, U, U] (B at_101) rfl rfl ?_
 refine gA X15 hx 105 (B at_103) rfl rfl rfl ?_
 refine gl X15 hx 107 (B at_105) rfl rfl ?_
 refine gV X15 hx 110 hZ hown (W 105 rfl) (W 106 rfl) (W 108 rfl) (W 107 rfl) w7 (W 109 rfl) (by decide) b10 E_b10 [(.int b_)] [] (rm20 hw b10 cp bf b_ (4 : Int32) ((0 : Int32) + a_) ((0 : Int32) + a_) (0 : Int32) T14.heap n0 Z14 G_b10 E_b10 W14_countedPosition W14_limit W14_buf W14_pos W14_noLineEndFrom W14_counted) e15 0 rfl (M rfl) (lenOf pd23 rfl) (B at_107) rfl rfl rfl (fun v T17 L X17 Y => ?_)
 obtain ⟨rfl, N17q, K17, E17x, W17_countedPosition, W17_limit, W17_buf, W17_pos, W17_noLineEndFrom, W17_counted⟩ := Y
 have N17 := Fr.app N14 N17q
 have V_b1 := V_b1.keep K17 (ninS ne_b1_b10 nin0)
 have E_b10 := E_b10.keep K17
 have E_cp := E_cp.keep K17
 have Pl := Pl.keep K17 (ninS ne_cp_w nin0)
 have Pc := Pc.keep K17 (ninS ne_cp_w nin0)
 have Pa := Pa.keep K17 (ninS ne_cp_w nin0)
 have V_bf := V_bf.keep K17 (ninS ne_bf_w nin0)
 have Z17 := Nat.le_trans Z14 K17.1
 refine gl X17 hx 112 (B at_110) rfl rfl ?_
 refine gf X17 hx 115 (B at_112) (by decide) rfl ?_
 refine gA X17 hx 117 (B at_115) rfl rfl rfl ?_
 refine gG X17 hx 120 hZ hown (host := "") (Or.inl (W 114 rfl)) Via.refl rfl W17_pos (B at_117) rfl (fun T18 X18 e18 => ?_)
 refine gl X18 hx 122 (B at_120) rfl rfl ?_
 have hk19 : (((0 : Int32) + a_) + b_) = (a_ + b_) := by rw [Int32.zero_add]
 refine gF X18 hx 125 (B at_122) (teq hk19).2 rfl ?_
 refine gA X18 hx 127 (B at_125) rfl rfl rfl ?_
 refine gG X18 hx 130 hZ hown (host := "") (Or.inl (W 115 rfl)) Via.refl e18 W17_limit (B at_127) rfl (fun T20 X20 e20 => ?_)
 refine gk X20 hx 131 4 (B at_130) rfl rfl ?_
 refine gF X20 hx 134 (B at_131) (by decide) rfl ?_
 refine gk X20 hx 135 1 (B at_134) rfl rfl ?_
 refine gg X20 hx 139 (B at_135) rfl ?_
 refine gs X20 hx 141 _ (B at_139) rfl rfl ?_
 have hab := own_ab a_ b_ ha hb
 rw [Int32.zero_add] at W17_pos W17_noLineEndFrom
 generalize (a_ + b_) = k_ at hab W17_pos W17_noLineEndFrom ⊢
 rcases hab with rfl | rfl | rfl | rfl | rfl
 ·
  exact law_0 hw hx hby hml hown hret hlk hZ _ _ X20 e20 N17 V_b1 V_bf E_b10 E_cp Pl Pc Pa W17_countedPosition W17_limit W17_buf W17_pos W17_noLineEndFrom W17_counted ne_b1_b10 ne_cp_w ne_bf_w ne_bf_cp ne_u_cp G_b10 g_cp Z17 nc0 nc1 nc2 nc3 hc0 hc1 hc2 hc3
 ·
  exact law_1 hw hx hby hml hown hret hlk hZ _ _ X20 e20 N17 V_b1 V_bf E_b10 E_cp Pl Pc Pa W17_countedPosition W17_limit W17_buf W17_pos W17_noLineEndFrom W17_counted ne_b1_b10 ne_cp_w ne_bf_w ne_bf_cp ne_u_cp G_b10 g_cp Z17 nc0 nc1 nc2 nc3 hc0 hc1 hc2 hc3
 ·
  exact law_2 hw hx hby hml hown hret hlk hZ _ _ X20 e20 N17 V_b1 V_bf E_b10 E_cp Pl Pc Pa W17_countedPosition W17_limit W17_buf W17_pos W17_noLineEndFrom W17_counted ne_b1_b10 ne_cp_w ne_bf_w ne_bf_cp ne_u_cp G_b10 g_cp Z17 nc0 nc1 nc2 nc3 hc0 hc1 hc2 hc3
 ·
  exact law_3 hw hx hby hml hown hret hlk hZ _ _ X20 e20 N17 V_b1 V_bf E_b10 E_cp Pl Pc Pa W17_countedPosition W17_limit W17_buf W17_pos W17_noLineEndFrom W17_counted ne_b1_b10 ne_cp_w ne_bf_w ne_bf_cp ne_u_cp G_b10 g_cp Z17 nc0 nc1 nc2 nc3 hc0 hc1 hc2 hc3
 ·
  exact law_4 hw hx hby hml hown hret hlk hZ _ _ X20 e20 N17 V_b1 V_bf E_b10 E_cp Pl Pc Pa W17_countedPosition W17_limit W17_buf W17_pos W17_noLineEndFrom W17_counted ne_b1_b10 ne_cp_w ne_bf_w ne_bf_cp ne_u_cp G_b10 g_cp Z17 nc0 nc1 nc2 nc3 hc0 hc1 hc2 hc3
set_option maxRecDepth 65536 in
set_option maxHeartbeats 40000000 in
theorem comes_1 {Post : Tables → Env → Array Value → State → Outcome → State → Prop} (hpost : ∀ tb e args s v u, (limb_1_1.after args s (.returned v) u = true ∧ limb_1_2.after args s (.returned v) u = true ∧ True) → FrameEnd s (.returned v) u (Jvm.fieldLocs frame_1_writes args s ++ Jvm.arrayLocs frame_1_arrays args s ++ Jvm.staticLocs frame_1_statics s) 24 128 → Post tb e args s (.returned v) u) :
    ArmFor flags0 classFile x code maxLocals ret World_1 tables_1 room_1 Calls_1 rest_1 Pre_1 Post := by
  intro l hfl _ _ p e ha hc hk s m args below hf hA hF happ hP
  obtain ⟨hcalls, hrest, hpre⟩ := hP
  obtain ⟨-, -, -, hnamed, -, -, -, hat⟩ := (Spec.applies_iff hf).mp happ
  obtain ⟨hg, hn⟩ := and_e (Cond.before_iff.mp (show (Jvm.Cond.and given_1 narrow_1).before args s = true from hpre))
  obtain ⟨ga1, gb1⟩ := and_e hg
  obtain ⟨ga2, gb2⟩ := and_e gb1
  obtain ⟨ga3, gb3⟩ := and_e gb2
  obtain ⟨ga4, gb4⟩ := and_e gb3
  obtain ⟨ga5, gb5⟩ := and_e gb4
  obtain ⟨ga6, gb6⟩ := and_e gb5
  obtain ⟨w0, w1, w2, w3, w4, w5, rfl⟩ : ∃ w0 w1 w2 w3 w4 w5 : Value, args = #[w0, w1, w2, w3, w4, w5] := by
    have hs : args.size = 6 := by simpa [Cond.value, given_1] using ga1
    obtain ⟨L⟩ := args
    match L, hs with
    | [w0, w1, w2, w3, w4, w5], _ => exact ⟨w0, w1, w2, w3, w4, w5, rfl⟩
  have hw := fun d (hd : d ∈ tables_1) => atoms_spec (ws := Jvm.Cond.code x code maxLocals ret :: tables_1) hat d (List.mem_cons_of_mem _ hd)
  have hfit : Fit s := fun {y c} hc i hi => by
    obtain ⟨ha, rfl⟩ := Array.getElem?_eq_some_iff.mp hc
    have q := List.all_eq_true.mp ((Array.all_eq_true_iff_forall_mem.mp hF) _ (Array.getElem_mem ha)) i (List.mem_range.mpr hi)
    simpa [Array.getElem?_eq_getElem hi] using q
  obtain ⟨hsets, hown0⟩ := atoms_of _ (rest_1_c_eq ▸ (show rest_1_c.before _ s = true from hrest))
  have hr0 := Cond.before_iff.mp hown0
  obtain ⟨i0, ei0⟩ := is_v ga2
  obtain rfl : w0 = (.int i0) := Option.some.inj ei0
  obtain ⟨i1, ei1⟩ := is_v ga3
  obtain rfl : w1 = (.int i1) := Option.some.inj ei1
  obtain ⟨i2, ei2⟩ := is_v ga4
  obtain rfl : w2 = (.int i2) := Option.some.inj ei2
  obtain ⟨i3, ei3⟩ := is_v ga5
  obtain rfl : w3 = (.int i3) := Option.some.inj ei3
  obtain ⟨i4, ei4⟩ := is_v ga6
  obtain rfl : w4 = (.int i4) := Option.some.inj ei4
  obtain ⟨i5, ei5⟩ := is_v gb6
  obtain rfl : w5 = (.int i5) := Option.some.inj ei5
  have hcs0 := Cond.before_iff.mp (hsets _ (List.mem_of_getElem? (i := 1) rfl))
  obtain ⟨cs, ecs⟩ := is_v hcs0
  have hcs1 := not_v (Cond.before_iff.mp (hsets _ (List.mem_of_getElem? (i := 2) rfl)))
  have hcs : ¬ cs = 0 := gotF (Cond.eq_ints ecs (Term.int_eval 0)) hcs1
  have S_cs : Sta s s.heap "java/lang/String" "COMPACT_STRINGS" "Z" (.int cs) := Sta.start ecs (Or.inl (hsets _ (List.mem_of_getElem? (i := 0) rfl)))
  obtain ⟨sio, esio, hrsio⟩ := isR_v (Cond.before_iff.mp (hsets _ (List.mem_of_getElem? (i := 8) rfl)))
  have S_sio : Sta s s.heap "jdk/internal/util/Preconditions" "SIOOBE_FORMATTER" "Ljava/util/function/BiFunction;" sio := Sta.start esio (Or.inl (hsets _ (List.mem_of_getElem? (i := 7) rfl)))
  obtain ⟨n, o, h1, h2, h3, _, L, rfl, ⟨rfl, N⟩, hq⟩ := rm0 hw i0 i1 i2 i3 i4 i5 cs sio s.heap s.heap.size (Nat.le_refl _) S_cs hcs S_sio (ref_cases hrsio) p e ha hc hk s m _ below hf ((Spec.applies_iff_loose hf).mp happ).1 ⟨rfl, State.Warmed39.refl s, rfl⟩ trivial
  refine ⟨n, _, h1, h2, h3, hpost _ _ _ _ _ _ ⟨Cond.after_iff.mpr rfl, Cond.after_iff.mpr (eq_i res_at (Term.int_eval (1)) rfl), trivial⟩ ⟨hq.1, hq.2.1, (hq.2.2.sift fun y hy => Or.inr (N y hy)).mono (by decide) (by decide)⟩⟩
theorem main_1_1 : Claimed_1_1 := comes_1 fun _ _ _ _ _ _ h hF => ⟨h.1, hF⟩
theorem main_1_2 : Claimed_1_2 := comes_1 fun _ _ _ _ _ _ h hF => ⟨h.2.1, hF⟩
end Jvm.Pilot.@@N@@
namespace Jvm.Pilot.@@N@@
open Jvm Jvm.ClassFile Sem Op Lib Jvm.Free Jvm.Stand Jvm.Pilot.@@N@@.Jvm.D
/-! MADE BY PROGRAM (witnessworld.py) out of the Statement's table words and the real class files: 22 classes; the members and pool entries that the words name. The judged class is class 1, her method 4. -/
namespace start1
open Jvm.ClassFile
def u (s : String) : CpInfo := .utf8 (stringToUtf16 s)
/-- a pool by its gaps: so many unusable entries, then the entry; so many at the end -/
def gap : Nat → List CpInfo → List CpInfo
  | 0, r => r
  | n + 1, r => .unusable :: gap n r
def poolList (es : List (Nat × CpInfo)) (last : Nat) : List CpInfo := es.foldr (fun e r => gap e.1 (e.2 :: r)) (gap last [])
def pool (es : List (Nat × CpInfo)) (last : Nat) : Array CpInfo := ⟨poolList es last⟩
def fileOf (pool : Array CpInfo) (this : Nat) (attrs : Array Attribute := #[]) (ms : Array MethodInfo := #[]) (fl : Nat := 33) (sup : Nat := 0) (ifs : Array Nat := #[]) (fds : Array FieldInfo := #[]) : ClassFile where
  minorVersion := 0
  majorVersion := 65
  constantPool := pool
  accessFlags := fl
  thisClass := this
  superClass := sup
  interfaces := ifs
  fields := fds
  methods := ms
  attributes := attrs
def plain (name : String) (sup : Option ClassId) : Class where
  name := name
  kind := .ordinary
  loader := none
  accessFlags := 33
  super := sup
  interfaces := #[]
  cf := none
  fields := #[]
  methods := #[]
  instanceTypes := #[]
  staticTypes := #[]
  resolved := #[]
  callSites := []
  init := .initialized
  statics := none
  mirror := none

def pool0 : Array CpInfo := pool [(5, u "<init>"), (0, u "()V"), (1, .class_ 10), (1, u "java/lang/Object")] 113

def k0c0 : Code := { maxStack := 0, maxLocals := 1, code := object_method_1_code, exceptionTable := #[], attributes := #[] }
def k0m0 : Method := { name := "<init>", desc := "()V", sig := { parameters := [], returnType := none }, accessFlags := 1, code := some k0c0 }
/-- java/lang/Object -/
def k0 : Class := { plain "java/lang/Object" none with
  accessFlags := 33
  interfaces := #[]
  cf := some (fileOf pool0 8 #[] #[{ accessFlags := 1, nameIndex := 5, descriptorIndex := 6, attributes := #[] }] 33 0 #[] #[])
  fields := #[]
  methods := #[k0m0]
  instanceTypes := #[]
  staticTypes := #[]
  resolved := Array.replicate 124 none
  statics := none }

def pool1 : Array CpInfo := pool [(2, .class_ 4), (1, u "java/lang/Object"), (0, u "<init>"), (0, u "()V"), (0, .methodref 8 9), (0, .class_ 10), (0, .nameAndType 11 12), (0, u "gleanwell/WindowMoveByPinLaw"), (0, u "isT"), (0, u "(C)Z"), (0, .methodref 8 14), (0, .nameAndType 15 16), (0, u "ch"), (0, u "(I)C"), (0, .class_ 18), (0, u "gleanwell/Window"), (0, .class_ 20), (0, u "java/lang/String"), (0, .methodref 19 22), (0, .nameAndType 5 23), (0, u "([C)V"), (0, .methodref 17 25), (0, .nameAndType 5 26), (0, u "(Ljava/lang/String;)V"), (0, .integer 2147483647), (0, .methodref 17 29), (0, .nameAndType 30 31), (0, u "moveBy"), (0, u "(I)V"), (0, .fieldref 17 33), (0, .nameAndType 34 35), (0, u "pos"), (0, u "I"), (0, .fieldref 17 37), (0, .nameAndType 38 35), (0, u "limit"), (0, .methodref 17 40), (0, .nameAndType 41 42), (0, u "moveOverLines"), (0, u "(III)V"), (0, .methodref 8 44), (0, .nameAndType 45 46), (0, u "endsAt"), (0, u "([CII)I"), (0, .methodref 17 48), (0, .nameAndType 49 50), (0, u "positionAt"), (0, u "(I)Lgleanwell/Position;"), (0, .methodref 52 53), (0, .class_ 54), (0, .nameAndType 55 56), (0, u "gleanwell/Position"), (0, u "line"), (0, u "()J"), (0, .methodref 52 58), (0, .nameAndType 59 56), (0, u "column"), (3, u "law"), (0, u "(IIIIII)Z")] 4

def k1m0 : Method := { name := "<init>", desc := "()V", sig := { parameters := [], returnType := none }, accessFlags := 1, code := none }
def k1c1 : Code := { maxStack := 2, maxLocals := 1, code := method_2_code, exceptionTable := #[], attributes := #[] }
def k1m1 : Method := { name := "ch", desc := "(I)C", sig := { parameters := [.int], returnType := some .char }, accessFlags := 10, code := some k1c1 }
def k1c2 : Code := { maxStack := 2, maxLocals := 1, code := method_3_code, exceptionTable := #[], attributes := #[] }
def k1m2 : Method := { name := "isT", desc := "(C)Z", sig := { parameters := [.char], returnType := some .boolean }, accessFlags := 10, code := some k1c2 }
def k1c3 : Code := { maxStack := 3, maxLocals := 5, code := method_4_code, exceptionTable := #[], attributes := #[] }
def k1m3 : Method := { name := "endsAt", desc := "([CII)I", sig := { parameters := [(.array .char), .int, .int], returnType := some .int }, accessFlags := 10, code := some k1c3 }
def k1c4 : Code := { maxStack := 5, maxLocals := 17, code := code, exceptionTable := #[], attributes := #[] }
def k1m4 : Method := { name := "law", desc := "(IIIIII)Z", sig := { parameters := [.int, .int, .int, .int, .int, .int], returnType := some .boolean }, accessFlags := 9, code := some k1c4 }
/-- gleanwell/WindowMoveByPinLaw -/
def k1 : Class := { plain "gleanwell/WindowMoveByPinLaw" (some 0) with
  accessFlags := 49
  interfaces := #[]
  cf := some (fileOf pool1 8 #[] #[{ accessFlags := 1, nameIndex := 5, descriptorIndex := 6, attributes := #[] }, { accessFlags := 10, nameIndex := 15, descriptorIndex := 16, attributes := #[] }, { accessFlags := 10, nameIndex := 11, descriptorIndex := 12, attributes := #[] }, { accessFlags := 10, nameIndex := 45, descriptorIndex := 46, attributes := #[] }, { accessFlags := 9, nameIndex := 63, descriptorIndex := 64, attributes := #[] }] 49 2 #[] #[])
  fields := #[]
  methods := #[k1m0, k1m1, k1m2, k1m3, k1m4]
  instanceTypes := #[]
  staticTypes := #[]
  resolved := Array.replicate 69 none
  statics := none }

def pool2 : Array CpInfo := pool [(3, .methodref 4 5), (0, .class_ 6), (0, .nameAndType 7 8), (0, u "java/lang/Object"), (0, u "<init>"), (0, u "()V"), (0, .class_ 10), (0, u "gleanwell/Position"), (0, .methodref 9 5), (0, .fieldref 13 14), (0, .class_ 15), (0, .nameAndType 16 17), (0, u "gleanwell/Window"), (0, u "countedPosition"), (0, u "Lgleanwell/Position;"), (0, .fieldref 13 19), (0, .nameAndType 20 21), (0, u "source"), (0, u "Ljava/lang/Readable;"), (0, .methodref 23 24), (0, .class_ 25), (0, .nameAndType 26 27), (0, u "java/lang/String"), (0, u "length"), (0, u "()I"), (0, .fieldref 13 29), (0, .nameAndType 30 31), (0, u "limit"), (0, u "I"), (0, .fieldref 13 33), (0, .nameAndType 34 35), (0, u "buf"), (0, u "[C"), (0, .methodref 23 37), (0, .nameAndType 38 39), (0, u "getChars"), (0, u "(II[CI)V"), (0, .fieldref 13 41), (0, .nameAndType 42 43), (0, u "sourceExhausted"), (0, u "Z"), (0, .fieldref 13 45), (0, .nameAndType 46 31), (0, u "pos"), (0, .fieldref 13 48), (0, .nameAndType 49 31), (0, u "noLineEndFrom"), (0, .fieldref 13 51), (0, .nameAndType 52 31), (0, u "counted"), (0, .methodref 9 54), (0, .nameAndType 55 56), (0, u "pass"), (0, u "([CII)V"), (0, .methodref 9 58), (0, .nameAndType 59 60), (0, u "beginLine"), (0, u "(JC)V"), (13, .class_ 76), (1, u "gleanwell/Window$Stop"), (19, u "(Ljava/lang/String;)V"), (36, u "readFailure"), (0, u "Ljava/io/IOException;"), (4, u "positionAt"), (0, u "(I)Lgleanwell/Position;"), (11, .methodref 9 153), (0, .nameAndType 154 155), (0, u "copy"), (0, u "()Lgleanwell/Position;"), (5, u "INITIAL_WINDOW"), (2, u "MAX_WINDOW"), (0, u "SENTINEL"), (0, u "C"), (4, u "moveBy"), (0, u "(I)V"), (0, u "moveOverLines"), (0, u "(III)V")] 16

def k2c0 : Code := { maxStack := 5, maxLocals := 2, code := prog_52_method_1_code, exceptionTable := #[], attributes := #[] }
def k2m0 : Method := { name := "<init>", desc := "(Ljava/lang/String;)V", sig := { parameters := [(.object "java/lang/String")], returnType := none }, accessFlags := 0, code := some k2c0 }
def k2c1 : Code := { maxStack := 3, maxLocals := 2, code := prog_52_method_3_code, exceptionTable := #[], attributes := #[] }
def k2m1 : Method := { name := "moveBy", desc := "(I)V", sig := { parameters := [.int], returnType := none }, accessFlags := 0, code := some k2c1 }
def k2c2 : Code := { maxStack := 6, maxLocals := 4, code := prog_52_method_4_code, exceptionTable := #[], attributes := #[] }
def k2m2 : Method := { name := "moveOverLines", desc := "(III)V", sig := { parameters := [.int, .int, .int], returnType := none }, accessFlags := 0, code := some k2c2 }
def k2c3 : Code := { maxStack := 5, maxLocals := 3, code := prog_52_method_11_code, exceptionTable := #[], attributes := #[] }
def k2m3 : Method := { name := "positionAt", desc := "(I)Lgleanwell/Position;", sig := { parameters := [.int], returnType := some (.object "gleanwell/Position") }, accessFlags := 0, code := some k2c3 }
/-- gleanwell/Window -/
def k2 : Class := { plain "gleanwell/Window" (some 0) with
  accessFlags := 32
  interfaces := #[]
  cf := some (fileOf pool2 13 #[.nestMembers #[74]] #[{ accessFlags := 0, nameIndex := 7, descriptorIndex := 96, attributes := #[] }, { accessFlags := 0, nameIndex := 171, descriptorIndex := 172, attributes := #[] }, { accessFlags := 0, nameIndex := 173, descriptorIndex := 174, attributes := #[] }, { accessFlags := 0, nameIndex := 139, descriptorIndex := 140, attributes := #[] }] 32 4 #[] #[{ accessFlags := 26, nameIndex := 161, descriptorIndex := 31, attributes := #[] }, { accessFlags := 26, nameIndex := 164, descriptorIndex := 31, attributes := #[] }, { accessFlags := 24, nameIndex := 165, descriptorIndex := 166, attributes := #[] }, { accessFlags := 18, nameIndex := 20, descriptorIndex := 21, attributes := #[] }, { accessFlags := 0, nameIndex := 34, descriptorIndex := 35, attributes := #[] }, { accessFlags := 0, nameIndex := 46, descriptorIndex := 31, attributes := #[] }, { accessFlags := 0, nameIndex := 30, descriptorIndex := 31, attributes := #[] }, { accessFlags := 2, nameIndex := 42, descriptorIndex := 43, attributes := #[] }, { accessFlags := 2, nameIndex := 133, descriptorIndex := 134, attributes := #[] }, { accessFlags := 2, nameIndex := 52, descriptorIndex := 31, attributes := #[] }, { accessFlags := 2, nameIndex := 49, descriptorIndex := 31, attributes := #[] }, { accessFlags := 18, nameIndex := 16, descriptorIndex := 17, attributes := #[] }])
  fields := #[{ name := "INITIAL_WINDOW", type := .int, accessFlags := 26, slot := 0, constantValue := 0 }, { name := "MAX_WINDOW", type := .int, accessFlags := 26, slot := 1, constantValue := 0 }, { name := "SENTINEL", type := .char, accessFlags := 24, slot := 2, constantValue := 0 }, { name := "source", type := (.object "java/lang/Readable"), accessFlags := 18, slot := 0, constantValue := 0 }, { name := "buf", type := (.array .char), accessFlags := 0, slot := 1, constantValue := 0 }, { name := "pos", type := .int, accessFlags := 0, slot := 2, constantValue := 0 }, { name := "limit", type := .int, accessFlags := 0, slot := 3, constantValue := 0 }, { name := "sourceExhausted", type := .boolean, accessFlags := 2, slot := 4, constantValue := 0 }, { name := "readFailure", type := (.object "java/io/IOException"), accessFlags := 2, slot := 5, constantValue := 0 }, { name := "counted", type := .int, accessFlags := 2, slot := 6, constantValue := 0 }, { name := "noLineEndFrom", type := .int, accessFlags := 2, slot := 7, constantValue := 0 }, { name := "countedPosition", type := (.object "gleanwell/Position"), accessFlags := 18, slot := 8, constantValue := 0 }]
  methods := #[k2m0, k2m1, k2m2, k2m3]
  instanceTypes := #[(.object "java/lang/Readable"), (.array .char), .int, .int, .boolean, (.object "java/io/IOException"), .int, .int, (.object "gleanwell/Position")]
  staticTypes := #[.int, .int, .char]
  resolved := Array.replicate 191 none
  statics := none }

def pool3 : Array CpInfo := pool [(1, .class_ 2), (0, u "java/io/Serializable"), (0, .class_ 4), (0, u "java/lang/Object")] 2

/-- java/io/Serializable -/
def k3 : Class := { plain "java/io/Serializable" (some 0) with
  accessFlags := 1537
  interfaces := #[]
  cf := some (fileOf pool3 1 #[] #[] 1537 3 #[] #[])
  fields := #[]
  methods := #[]
  instanceTypes := #[]
  staticTypes := #[]
  resolved := Array.replicate 7 none
  statics := none }

def pool4 : Array CpInfo := pool [(1, .class_ 2), (0, u "java/lang/Comparable"), (0, .class_ 4), (0, u "java/lang/Object")] 7

/-- java/lang/Comparable -/
def k4 : Class := { plain "java/lang/Comparable" (some 0) with
  accessFlags := 1537
  interfaces := #[]
  cf := some (fileOf pool4 1 #[] #[] 1537 3 #[] #[])
  fields := #[]
  methods := #[]
  instanceTypes := #[]
  staticTypes := #[]
  resolved := Array.replicate 12 none
  statics := none }

def pool5 : Array CpInfo := pool [(2, .class_ 4), (1, u "java/lang/CharSequence"), (42, .class_ 48), (0, u "java/lang/CharSequence$1CodePointIterator"), (10, .class_ 60), (0, u "java/lang/CharSequence$1CharIterator"), (5, .class_ 67), (0, u "java/lang/Object")] 63

/-- java/lang/CharSequence -/
def k5 : Class := { plain "java/lang/CharSequence" (some 0) with
  accessFlags := 1537
  interfaces := #[]
  cf := some (fileOf pool5 2 #[.nestMembers #[47, 59]] #[] 1537 66 #[] #[])
  fields := #[]
  methods := #[]
  instanceTypes := #[]
  staticTypes := #[]
  resolved := Array.replicate 131 none
  statics := none }

def pool6 : Array CpInfo := pool [(1, .class_ 2), (0, u "java/lang/constant/Constable"), (0, .class_ 4), (0, u "java/lang/Object")] 6

/-- java/lang/constant/Constable -/
def k6 : Class := { plain "java/lang/constant/Constable" (some 0) with
  accessFlags := 1537
  interfaces := #[]
  cf := some (fileOf pool6 1 #[] #[] 1537 3 #[] #[])
  fields := #[]
  methods := #[]
  instanceTypes := #[]
  staticTypes := #[]
  resolved := Array.replicate 11 none
  statics := none }

def pool7 : Array CpInfo := pool [(1, .class_ 2), (0, u "java/lang/constant/ConstantDesc"), (0, .class_ 4), (0, u "java/lang/Object")] 32

/-- java/lang/constant/ConstantDesc -/
def k7 : Class := { plain "java/lang/constant/ConstantDesc" (some 0) with
  accessFlags := 1537
  interfaces := #[]
  cf := some (fileOf pool7 1 #[] #[] 1537 3 #[] #[])
  fields := #[]
  methods := #[]
  instanceTypes := #[]
  staticTypes := #[]
  resolved := Array.replicate 37 none
  statics := none }

def pool8 : Array CpInfo := pool [(1, .methodref 2 3), (0, .class_ 4), (0, .nameAndType 5 6), (0, u "java/lang/Object"), (0, u "<init>"), (0, u "()V"), (2, .fieldref 10 11), (0, .class_ 12), (0, .nameAndType 13 14), (0, u "java/lang/String"), (0, u "value"), (0, u "[B"), (0, .fieldref 10 16), (0, .nameAndType 17 18), (0, u "coder"), (0, u "B"), (2, u "hash"), (0, u "I"), (2, u "hashIsZero"), (0, u "Z"), (0, .methodref 10 28), (0, .nameAndType 5 29), (0, u "([CIILjava/lang/Void;)V"), (4, .methodref 10 35), (0, .nameAndType 36 37), (0, u "checkBoundsOffCount"), (0, u "(III)I"), (0, .fieldref 10 39), (0, .nameAndType 40 26), (0, u "COMPACT_STRINGS"), (1, .class_ 44), (1, u "java/lang/StringUTF16"), (0, u "compress"), (1, .methodref 42 48), (0, .nameAndType 49 50), (0, u "coderFromArrayLen"), (0, u "([BI)B"), (56, .class_ 109), (1, u "java/lang/StringLatin1"), (32, u "()Z"), (34, .methodref 42 178), (0, .nameAndType 45 179), (0, u "([CII)[B"), (154, u "()I"), (0, .methodref 10 336), (0, .nameAndType 17 337), (0, u "()B"), (154, .methodref 10 493), (0, .nameAndType 494 142), (0, u "isLatin1"), (10, .methodref 10 506), (0, .nameAndType 507 334), (0, u "length"), (5, u "checkFromToIndex"), (7, .methodref 10 522), (0, .nameAndType 523 524), (0, u "checkBoundsBeginEnd"), (0, u "(III)V"), (0, .methodref 107 526), (0, .nameAndType 527 528), (0, u "getChars"), (0, u "([BII[CI)V"), (46, .class_ 576), (0, u "java/lang/CharSequence"), (22, u "CASE_INSENSITIVE_ORDER"), (0, u "Ljava/util/Comparator;"), (409, u "([C)V"), (42, .fieldref 1054 1055), (0, .class_ 1056), (0, .nameAndType 1057 1058), (0, u "jdk/internal/util/Preconditions"), (0, u "SIOOBE_FORMATTER"), (0, u "Ljava/util/function/BiFunction;"), (3, .methodref 1054 1063), (0, .nameAndType 513 1064), (0, u "(IIILjava/util/function/BiFunction;)I"), (0, .methodref 1054 1066), (0, .nameAndType 1067 1064), (0, u "checkFromIndexSize"), (33, u "serialPersistentFields"), (0, u "[Ljava/io/ObjectStreamField;"), (0, .class_ 1104), (0, u "java/lang/String$CaseInsensitiveComparator"), (1, .class_ 1107), (0, u "java/io/Serializable"), (0, .class_ 1109), (0, u "java/lang/Comparable"), (0, .class_ 1111), (0, u "java/lang/constant/Constable"), (0, .class_ 1113), (0, u "java/lang/constant/ConstantDesc"), (2, u "serialVersionUID"), (0, u "J"), (3, u "REPL"), (0, u "C"), (2, u "LATIN1"), (1, u "UTF16"), (112, u "(II[CI)V")] 210

def k8m0 : Method := { name := "<init>", desc := "()V", sig := { parameters := [], returnType := none }, accessFlags := 1, code := none }
def k8c1 : Code := { maxStack := 5, maxLocals := 2, code := jdk_42_method_3_code, exceptionTable := #[], attributes := #[] }
def k8m1 : Method := { name := "<init>", desc := "([C)V", sig := { parameters := [(.array .char)], returnType := none }, accessFlags := 1, code := some k8c1 }
def k8c2 : Code := { maxStack := 2, maxLocals := 1, code := jdk_42_method_54_code, exceptionTable := #[], attributes := #[] }
def k8m2 : Method := { name := "length", desc := "()I", sig := { parameters := [], returnType := some .int }, accessFlags := 1, code := some k8c2 }
def k8c3 : Code := { maxStack := 5, maxLocals := 5, code := jdk_42_method_61_code, exceptionTable := #[], attributes := #[] }
def k8m3 : Method := { name := "getChars", desc := "(II[CI)V", sig := { parameters := [.int, .int, (.array .char), .int], returnType := none }, accessFlags := 1, code := some k8c3 }
def k8c4 : Code := { maxStack := 4, maxLocals := 6, code := jdk_42_method_149_code, exceptionTable := #[], attributes := #[] }
def k8m4 : Method := { name := "<init>", desc := "([CIILjava/lang/Void;)V", sig := { parameters := [(.array .char), .int, .int, (.object "java/lang/Void")], returnType := none }, accessFlags := 2, code := some k8c4 }
def k8c5 : Code := { maxStack := 1, maxLocals := 1, code := jdk_42_method_152_code, exceptionTable := #[], attributes := #[] }
def k8m5 : Method := { name := "coder", desc := "()B", sig := { parameters := [], returnType := some .byte }, accessFlags := 0, code := some k8c5 }
def k8c6 : Code := { maxStack := 1, maxLocals := 1, code := jdk_42_method_154_code, exceptionTable := #[], attributes := #[] }
def k8m6 : Method := { name := "isLatin1", desc := "()Z", sig := { parameters := [], returnType := some .boolean }, accessFlags := 0, code := some k8c6 }
def k8c7 : Code := { maxStack := 4, maxLocals := 3, code := jdk_42_method_157_code, exceptionTable := #[], attributes := #[] }
def k8m7 : Method := { name := "checkBoundsOffCount", desc := "(III)I", sig := { parameters := [.int, .int, .int], returnType := some .int }, accessFlags := 8, code := some k8c7 }
def k8c8 : Code := { maxStack := 4, maxLocals := 3, code := jdk_42_method_158_code, exceptionTable := #[], attributes := #[] }
def k8m8 : Method := { name := "checkBoundsBeginEnd", desc := "(III)V", sig := { parameters := [.int, .int, .int], returnType := none }, accessFlags := 8, code := some k8c8 }
/-- java/lang/String -/
def k8 : Class := { plain "java/lang/String" (some 0) with
  accessFlags := 49
  interfaces := #[3, 4, 5, 6, 7]
  cf := some (fileOf pool8 10 #[.nestMembers #[1103]] #[{ accessFlags := 1, nameIndex := 5, descriptorIndex := 6, attributes := #[] }, { accessFlags := 1, nameIndex := 5, descriptorIndex := 1010, attributes := #[] }, { accessFlags := 1, nameIndex := 507, descriptorIndex := 334, attributes := #[] }, { accessFlags := 1, nameIndex := 527, descriptorIndex := 1240, attributes := #[] }, { accessFlags := 2, nameIndex := 5, descriptorIndex := 29, attributes := #[] }, { accessFlags := 0, nameIndex := 17, descriptorIndex := 337, attributes := #[] }, { accessFlags := 0, nameIndex := 494, descriptorIndex := 142, attributes := #[] }, { accessFlags := 8, nameIndex := 36, descriptorIndex := 37, attributes := #[] }, { accessFlags := 8, nameIndex := 523, descriptorIndex := 524, attributes := #[] }] 49 2 #[1106, 1108, 575, 1110, 1112] #[{ accessFlags := 18, nameIndex := 13, descriptorIndex := 14, attributes := #[] }, { accessFlags := 18, nameIndex := 17, descriptorIndex := 18, attributes := #[] }, { accessFlags := 2, nameIndex := 21, descriptorIndex := 22, attributes := #[] }, { accessFlags := 2, nameIndex := 25, descriptorIndex := 26, attributes := #[] }, { accessFlags := 26, nameIndex := 1116, descriptorIndex := 1117, attributes := #[] }, { accessFlags := 24, nameIndex := 40, descriptorIndex := 26, attributes := #[] }, { accessFlags := 26, nameIndex := 1101, descriptorIndex := 1102, attributes := #[] }, { accessFlags := 26, nameIndex := 1121, descriptorIndex := 1122, attributes := #[] }, { accessFlags := 25, nameIndex := 599, descriptorIndex := 600, attributes := #[] }, { accessFlags := 24, nameIndex := 1125, descriptorIndex := 18, attributes := #[] }, { accessFlags := 24, nameIndex := 1127, descriptorIndex := 18, attributes := #[] }])
  fields := #[{ name := "value", type := (.array .byte), accessFlags := 18, slot := 0, constantValue := 0 }, { name := "coder", type := .byte, accessFlags := 18, slot := 1, constantValue := 0 }, { name := "hash", type := .int, accessFlags := 2, slot := 2, constantValue := 0 }, { name := "hashIsZero", type := .boolean, accessFlags := 2, slot := 3, constantValue := 0 }, { name := "serialVersionUID", type := .long, accessFlags := 26, slot := 0, constantValue := 0 }, { name := "COMPACT_STRINGS", type := .boolean, accessFlags := 24, slot := 1, constantValue := 0 }, { name := "serialPersistentFields", type := (.array (.object "java/io/ObjectStreamField")), accessFlags := 26, slot := 2, constantValue := 0 }, { name := "REPL", type := .char, accessFlags := 26, slot := 3, constantValue := 0 }, { name := "CASE_INSENSITIVE_ORDER", type := (.object "java/util/Comparator"), accessFlags := 25, slot := 4, constantValue := 0 }, { name := "LATIN1", type := .byte, accessFlags := 24, slot := 5, constantValue := 0 }, { name := "UTF16", type := .byte, accessFlags := 24, slot := 6, constantValue := 0 }]
  methods := #[k8m0, k8m1, k8m2, k8m3, k8m4, k8m5, k8m6, k8m7, k8m8]
  instanceTypes := #[(.array .byte), .byte, .int, .boolean]
  staticTypes := #[.long, .boolean, (.array (.object "java/io/ObjectStreamField")), .char, (.object "java/util/Comparator"), .byte, .byte]
  resolved := Array.replicate 1451 none
  statics := some 0 }

def pool9 : Array CpInfo := pool [(6, .class_ 8), (1, u "java/lang/Object"), (0, u "<init>"), (0, u "()V"), (1, .class_ 14), (1, u "java/lang/StringUTF16"), (31, u "$assertionsDisabled"), (0, u "Z"), (13, u "HI_BYTE_SHIFT"), (0, u "I"), (2, u "LO_BYTE_SHIFT"), (49, .methodref 12 116), (0, .nameAndType 117 118), (0, u "compress"), (0, u "([CI[BII)I"), (3, u "([CII)[B"), (138, u "coderFromArrayLen"), (0, u "([BI)B"), (106, .class_ 371), (1, u "java/lang/StringUTF16$LinesSpliterator"), (58, u "MAX_LENGTH"), (196, .class_ 628), (0, u "java/lang/StringUTF16$CodePointsSpliterator"), (0, .class_ 630), (0, u "java/lang/StringUTF16$CharsSpliterator")] 4

def k9m0 : Method := { name := "<init>", desc := "()V", sig := { parameters := [], returnType := none }, accessFlags := 0, code := none }
def k9c1 : Code := { maxStack := 2, maxLocals := 2, code := jdk_52_method_15_code, exceptionTable := #[], attributes := #[] }
def k9m1 : Method := { name := "coderFromArrayLen", desc := "([BI)B", sig := { parameters := [(.array .byte), .int], returnType := some .byte }, accessFlags := 8, code := some k9c1 }
def k9c2 : Code := { maxStack := 5, maxLocals := 6, code := jdk_52_method_16_code, exceptionTable := #[], attributes := #[] }
def k9m2 : Method := { name := "compress", desc := "([CII)[B", sig := { parameters := [(.array .char), .int, .int], returnType := some (.array .byte) }, accessFlags := 9, code := some k9c2 }
def k9c3 : Code := { maxStack := 3, maxLocals := 7, code := jdk_52_method_21_code, exceptionTable := #[], attributes := #[] }
def k9m3 : Method := { name := "compress", desc := "([CI[BII)I", sig := { parameters := [(.array .char), .int, (.array .byte), .int, .int], returnType := some .int }, accessFlags := 9, code := some k9c3 }
/-- java/lang/StringUTF16 -/
def k9 : Class := { plain "java/lang/StringUTF16" (some 0) with
  accessFlags := 48
  interfaces := #[]
  cf := some (fileOf pool9 12 #[.nestMembers #[627, 629, 369]] #[{ accessFlags := 0, nameIndex := 9, descriptorIndex := 10, attributes := #[] }, { accessFlags := 8, nameIndex := 261, descriptorIndex := 262, attributes := #[] }, { accessFlags := 9, nameIndex := 117, descriptorIndex := 122, attributes := #[] }, { accessFlags := 9, nameIndex := 117, descriptorIndex := 118, attributes := #[] }] 48 6 #[] #[{ accessFlags := 26, nameIndex := 61, descriptorIndex := 62, attributes := #[] }, { accessFlags := 26, nameIndex := 65, descriptorIndex := 62, attributes := #[] }, { accessFlags := 24, nameIndex := 430, descriptorIndex := 62, attributes := #[] }, { accessFlags := 4120, nameIndex := 46, descriptorIndex := 47, attributes := #[] }])
  fields := #[{ name := "HI_BYTE_SHIFT", type := .int, accessFlags := 26, slot := 0, constantValue := 0 }, { name := "LO_BYTE_SHIFT", type := .int, accessFlags := 26, slot := 1, constantValue := 0 }, { name := "MAX_LENGTH", type := .int, accessFlags := 24, slot := 2, constantValue := 0 }, { name := "$assertionsDisabled", type := .boolean, accessFlags := 4120, slot := 3, constantValue := 0 }]
  methods := #[k9m0, k9m1, k9m2, k9m3]
  instanceTypes := #[]
  staticTypes := #[.int, .int, .int, .boolean]
  resolved := Array.replicate 635 none
  statics := none }

def pool10 : Array CpInfo := pool [(1, .methodref 2 3), (0, .class_ 4), (0, .nameAndType 5 6), (0, u "java/lang/Object"), (0, u "<init>"), (0, u "()V"), (0, .fieldref 8 9), (0, .class_ 10), (0, .nameAndType 11 12), (0, u "gleanwell/Position"), (0, u "line"), (0, u "J"), (0, .fieldref 8 14), (0, .nameAndType 15 12), (0, u "column"), (0, .fieldref 8 17), (0, .nameAndType 18 19), (0, u "last"), (0, u "C"), (0, .methodref 8 3), (0, .methodref 8 22), (0, .nameAndType 23 24), (0, u "isTerminator"), (0, u "(C)Z"), (0, .methodref 8 26), (0, .nameAndType 27 28), (0, u "before"), (0, u "([CII)C"), (0, .methodref 8 30), (0, .nameAndType 31 32), (0, u "endsLine"), (0, u "(CC)Z"), (0, .methodref 34 35), (0, .class_ 36), (0, .nameAndType 37 24), (0, u "java/lang/Character"), (0, u "isLowSurrogate"), (5, u "()J"), (2, u "beginLine"), (0, u "(JC)V"), (0, u "copy"), (0, u "()Lgleanwell/Position;"), (0, u "pass"), (0, u "([CII)V")] 4

def k10c0 : Code := { maxStack := 3, maxLocals := 1, code := prog_33_method_1_code, exceptionTable := #[], attributes := #[] }
def k10m0 : Method := { name := "<init>", desc := "()V", sig := { parameters := [], returnType := none }, accessFlags := 0, code := some k10c0 }
def k10c1 : Code := { maxStack := 2, maxLocals := 1, code := prog_33_method_2_code, exceptionTable := #[], attributes := #[] }
def k10m1 : Method := { name := "line", desc := "()J", sig := { parameters := [], returnType := some .long }, accessFlags := 0, code := some k10c1 }
def k10c2 : Code := { maxStack := 2, maxLocals := 1, code := prog_33_method_3_code, exceptionTable := #[], attributes := #[] }
def k10m2 : Method := { name := "column", desc := "()J", sig := { parameters := [], returnType := some .long }, accessFlags := 0, code := some k10c2 }
def k10c3 : Code := { maxStack := 2, maxLocals := 1, code := prog_33_method_4_code, exceptionTable := #[], attributes := #[] }
def k10m3 : Method := { name := "isTerminator", desc := "(C)Z", sig := { parameters := [.char], returnType := some .boolean }, accessFlags := 8, code := some k10c3 }
def k10c4 : Code := { maxStack := 2, maxLocals := 2, code := prog_33_method_5_code, exceptionTable := #[], attributes := #[] }
def k10m4 : Method := { name := "endsLine", desc := "(CC)Z", sig := { parameters := [.char, .char], returnType := some .boolean }, accessFlags := 8, code := some k10c4 }
def k10c5 : Code := { maxStack := 5, maxLocals := 4, code := prog_33_method_7_code, exceptionTable := #[], attributes := #[] }
def k10m5 : Method := { name := "beginLine", desc := "(JC)V", sig := { parameters := [.long, .char], returnType := none }, accessFlags := 0, code := some k10c5 }
def k10c6 : Code := { maxStack := 3, maxLocals := 2, code := prog_33_method_8_code, exceptionTable := #[], attributes := #[] }
def k10m6 : Method := { name := "copy", desc := "()Lgleanwell/Position;", sig := { parameters := [], returnType := some (.object "gleanwell/Position") }, accessFlags := 0, code := some k10c6 }
def k10c7 : Code := { maxStack := 5, maxLocals := 11, code := prog_33_method_9_code, exceptionTable := #[], attributes := #[] }
def k10m7 : Method := { name := "pass", desc := "([CII)V", sig := { parameters := [(.array .char), .int, .int], returnType := none }, accessFlags := 0, code := some k10c7 }
def k10c8 : Code := { maxStack := 3, maxLocals := 4, code := prog_33_method_10_code, exceptionTable := #[], attributes := #[] }
def k10m8 : Method := { name := "before", desc := "([CII)C", sig := { parameters := [(.array .char), .int, .int], returnType := some .char }, accessFlags := 2, code := some k10c8 }
/-- gleanwell/Position -/
def k10 : Class := { plain "gleanwell/Position" (some 0) with
  accessFlags := 48
  interfaces := #[]
  cf := some (fileOf pool10 8 #[] #[{ accessFlags := 0, nameIndex := 5, descriptorIndex := 6, attributes := #[] }, { accessFlags := 0, nameIndex := 11, descriptorIndex := 43, attributes := #[] }, { accessFlags := 0, nameIndex := 15, descriptorIndex := 43, attributes := #[] }, { accessFlags := 8, nameIndex := 23, descriptorIndex := 24, attributes := #[] }, { accessFlags := 8, nameIndex := 31, descriptorIndex := 32, attributes := #[] }, { accessFlags := 0, nameIndex := 46, descriptorIndex := 47, attributes := #[] }, { accessFlags := 0, nameIndex := 48, descriptorIndex := 49, attributes := #[] }, { accessFlags := 0, nameIndex := 50, descriptorIndex := 51, attributes := #[] }, { accessFlags := 2, nameIndex := 27, descriptorIndex := 28, attributes := #[] }] 48 2 #[] #[{ accessFlags := 2, nameIndex := 11, descriptorIndex := 12, attributes := #[] }, { accessFlags := 2, nameIndex := 15, descriptorIndex := 12, attributes := #[] }, { accessFlags := 2, nameIndex := 18, descriptorIndex := 19, attributes := #[] }])
  fields := #[{ name := "line", type := .long, accessFlags := 2, slot := 0, constantValue := 0 }, { name := "column", type := .long, accessFlags := 2, slot := 1, constantValue := 0 }, { name := "last", type := .char, accessFlags := 2, slot := 2, constantValue := 0 }]
  methods := #[k10m0, k10m1, k10m2, k10m3, k10m4, k10m5, k10m6, k10m7, k10m8]
  instanceTypes := #[.long, .long, .char]
  staticTypes := #[]
  resolved := Array.replicate 56 none
  statics := none }

def pool11 : Array CpInfo := pool [(2, .class_ 4), (1, u "java/lang/Object"), (0, u "<init>"), (0, u "()V"), (17, .class_ 26), (1, u "jdk/internal/util/Preconditions"), (20, u "checkFromToIndex"), (1, u "checkFromIndexSize"), (5, .class_ 56), (0, u "jdk/internal/util/Preconditions$4"), (57, .class_ 115), (0, u "jdk/internal/util/Preconditions$1"), (7, u "SIOOBE_FORMATTER"), (0, u "Ljava/util/function/BiFunction;"), (0, .class_ 126), (0, u "jdk/internal/util/Preconditions$2"), (3, u "AIOOBE_FORMATTER"), (0, .class_ 132), (0, u "jdk/internal/util/Preconditions$3"), (3, u "IOOBE_FORMATTER"), (46, u "(IIILjava/util/function/BiFunction;)I")] 10

def k11m0 : Method := { name := "<init>", desc := "()V", sig := { parameters := [], returnType := none }, accessFlags := 1, code := none }
def k11c1 : Code := { maxStack := 4, maxLocals := 4, code := jdk_41_method_12_code, exceptionTable := #[], attributes := #[] }
def k11m1 : Method := { name := "checkFromToIndex", desc := "(IIILjava/util/function/BiFunction;)I", sig := { parameters := [.int, .int, .int, (.object "java/util/function/BiFunction")], returnType := some .int }, accessFlags := 9, code := some k11c1 }
def k11c2 : Code := { maxStack := 4, maxLocals := 4, code := jdk_41_method_13_code, exceptionTable := #[], attributes := #[] }
def k11m2 : Method := { name := "checkFromIndexSize", desc := "(IIILjava/util/function/BiFunction;)I", sig := { parameters := [.int, .int, .int, (.object "java/util/function/BiFunction")], returnType := some .int }, accessFlags := 9, code := some k11c2 }
/-- jdk/internal/util/Preconditions -/
def k11 : Class := { plain "jdk/internal/util/Preconditions" (some 0) with
  accessFlags := 33
  interfaces := #[]
  cf := some (fileOf pool11 24 #[.nestMembers #[55, 131, 125, 114]] #[{ accessFlags := 1, nameIndex := 5, descriptorIndex := 6, attributes := #[] }, { accessFlags := 9, nameIndex := 47, descriptorIndex := 183, attributes := #[] }, { accessFlags := 9, nameIndex := 49, descriptorIndex := 183, attributes := #[] }] 33 2 #[] #[{ accessFlags := 25, nameIndex := 123, descriptorIndex := 124, attributes := #[] }, { accessFlags := 25, nameIndex := 130, descriptorIndex := 124, attributes := #[] }, { accessFlags := 25, nameIndex := 136, descriptorIndex := 124, attributes := #[] }])
  fields := #[{ name := "SIOOBE_FORMATTER", type := (.object "java/util/function/BiFunction"), accessFlags := 25, slot := 0, constantValue := 0 }, { name := "AIOOBE_FORMATTER", type := (.object "java/util/function/BiFunction"), accessFlags := 25, slot := 1, constantValue := 0 }, { name := "IOOBE_FORMATTER", type := (.object "java/util/function/BiFunction"), accessFlags := 25, slot := 2, constantValue := 0 }]
  methods := #[k11m0, k11m1, k11m2]
  instanceTypes := #[]
  staticTypes := #[(.object "java/util/function/BiFunction"), (.object "java/util/function/BiFunction"), (.object "java/util/function/BiFunction")]
  resolved := Array.replicate 194 none
  statics := some 1 }

def pool12 : Array CpInfo := pool [(4, .class_ 6), (1, u "java/lang/Object"), (0, u "<init>"), (0, u "()V"), (4, .methodref 14 15), (0, .class_ 16), (0, .nameAndType 17 18), (0, u "java/lang/StringLatin1"), (0, u "inflate"), (0, u "([BI[CII)V"), (102, u "$assertionsDisabled"), (0, u "Z"), (98, .class_ 223), (1, u "java/lang/StringLatin1$LinesSpliterator"), (50, u "getChars"), (0, u "([BII[CI)V"), (114, .class_ 391), (0, u "java/lang/StringLatin1$CharsSpliterator")] 3

def k12m0 : Method := { name := "<init>", desc := "()V", sig := { parameters := [], returnType := none }, accessFlags := 0, code := none }
def k12c1 : Code := { maxStack := 6, maxLocals := 5, code := jdk_43_method_11_code, exceptionTable := #[], attributes := #[] }
def k12m1 : Method := { name := "getChars", desc := "([BII[CI)V", sig := { parameters := [(.array .byte), .int, .int, (.array .char), .int], returnType := none }, accessFlags := 9, code := some k12c1 }
def k12c2 : Code := { maxStack := 4, maxLocals := 6, code := jdk_43_method_49_code, exceptionTable := #[], attributes := #[] }
def k12m2 : Method := { name := "inflate", desc := "([BI[CII)V", sig := { parameters := [(.array .byte), .int, (.array .char), .int, .int], returnType := none }, accessFlags := 9, code := some k12c2 }
/-- java/lang/StringLatin1 -/
def k12 : Class := { plain "java/lang/StringLatin1" (some 0) with
  accessFlags := 48
  interfaces := #[]
  cf := some (fileOf pool12 14 #[.nestMembers #[390, 221]] #[{ accessFlags := 0, nameIndex := 7, descriptorIndex := 8, attributes := #[] }, { accessFlags := 9, nameIndex := 274, descriptorIndex := 275, attributes := #[] }, { accessFlags := 9, nameIndex := 17, descriptorIndex := 18, attributes := #[] }] 48 4 #[] #[{ accessFlags := 4120, nameIndex := 121, descriptorIndex := 122, attributes := #[] }])
  fields := #[{ name := "$assertionsDisabled", type := .boolean, accessFlags := 4120, slot := 0, constantValue := 0 }]
  methods := #[k12m0, k12m1, k12m2]
  instanceTypes := #[]
  staticTypes := #[.boolean]
  resolved := Array.replicate 395 none
  statics := none }

def pool13 : Array CpInfo := pool [(1, .class_ 2), (0, u "java/lang/Character"), (18, u "value"), (0, u "C"), (19, .class_ 44), (1, u "java/lang/Object"), (3, .class_ 50), (1, u "java/lang/Character$CharacterCache"), (25, .integer 56320), (4, u "(C)Z"), (2, u "isLowSurrogate"), (199, u "$assertionsDisabled"), (0, u "Z"), (21, .class_ 309), (1, u "java/lang/Character$UnicodeBlock"), (73, u "TYPE"), (0, u "Ljava/lang/Class;"), (0, .class_ 386), (0, u "java/io/Serializable"), (0, .class_ 388), (0, u "java/lang/Comparable"), (0, .class_ 390), (0, u "java/lang/constant/Constable"), (0, u "MIN_RADIX"), (0, u "I"), (2, u "MAX_RADIX"), (1, u "MIN_VALUE"), (1, u "MAX_VALUE"), (3, u "UNASSIGNED"), (0, u "B"), (0, u "UPPERCASE_LETTER"), (1, u "LOWERCASE_LETTER"), (0, u "TITLECASE_LETTER"), (1, u "MODIFIER_LETTER"), (1, u "OTHER_LETTER"), (1, u "NON_SPACING_MARK"), (1, u "ENCLOSING_MARK"), (1, u "COMBINING_SPACING_MARK"), (1, u "DECIMAL_DIGIT_NUMBER"), (1, u "LETTER_NUMBER"), (1, u "OTHER_NUMBER"), (1, u "SPACE_SEPARATOR"), (1, u "LINE_SEPARATOR"), (1, u "PARAGRAPH_SEPARATOR"), (1, u "CONTROL"), (1, u "FORMAT"), (1, u "PRIVATE_USE"), (1, u "SURROGATE"), (1, u "DASH_PUNCTUATION"), (1, u "START_PUNCTUATION"), (1, u "END_PUNCTUATION"), (1, u "CONNECTOR_PUNCTUATION"), (1, u "OTHER_PUNCTUATION"), (1, u "MATH_SYMBOL"), (1, u "CURRENCY_SYMBOL"), (1, u "MODIFIER_SYMBOL"), (1, u "OTHER_SYMBOL"), (1, u "INITIAL_QUOTE_PUNCTUATION"), (1, u "FINAL_QUOTE_PUNCTUATION"), (1, u "ERROR"), (1, u "DIRECTIONALITY_UNDEFINED"), (0, u "DIRECTIONALITY_LEFT_TO_RIGHT"), (0, u "DIRECTIONALITY_RIGHT_TO_LEFT"), (0, u "DIRECTIONALITY_RIGHT_TO_LEFT_ARABIC"), (0, u "DIRECTIONALITY_EUROPEAN_NUMBER"), (0, u "DIRECTIONALITY_EUROPEAN_NUMBER_SEPARATOR"), (0, u "DIRECTIONALITY_EUROPEAN_NUMBER_TERMINATOR"), (0, u "DIRECTIONALITY_ARABIC_NUMBER"), (0, u "DIRECTIONALITY_COMMON_NUMBER_SEPARATOR"), (0, u "DIRECTIONALITY_NONSPACING_MARK"), (0, u "DIRECTIONALITY_BOUNDARY_NEUTRAL"), (0, u "DIRECTIONALITY_PARAGRAPH_SEPARATOR"), (0, u "DIRECTIONALITY_SEGMENT_SEPARATOR"), (0, u "DIRECTIONALITY_WHITESPACE"), (0, u "DIRECTIONALITY_OTHER_NEUTRALS"), (0, u "DIRECTIONALITY_LEFT_TO_RIGHT_EMBEDDING"), (0, u "DIRECTIONALITY_LEFT_TO_RIGHT_OVERRIDE"), (0, u "DIRECTIONALITY_RIGHT_TO_LEFT_EMBEDDING"), (0, u "DIRECTIONALITY_RIGHT_TO_LEFT_OVERRIDE"), (1, u "DIRECTIONALITY_POP_DIRECTIONAL_FORMAT"), (0, u "DIRECTIONALITY_LEFT_TO_RIGHT_ISOLATE"), (0, u "DIRECTIONALITY_RIGHT_TO_LEFT_ISOLATE"), (0, u "DIRECTIONALITY_FIRST_STRONG_ISOLATE"), (0, u "DIRECTIONALITY_POP_DIRECTIONAL_ISOLATE"), (0, u "MIN_HIGH_SURROGATE"), (0, u "MAX_HIGH_SURROGATE"), (1, u "MIN_LOW_SURROGATE"), (0, u "MAX_LOW_SURROGATE"), (1, u "MIN_SURROGATE"), (0, u "MAX_SURROGATE"), (0, u "MIN_SUPPLEMENTARY_CODE_POINT"), (0, u "MIN_CODE_POINT"), (0, u "MAX_CODE_POINT"), (1, u "serialVersionUID"), (0, u "J"), (2, u "SIZE"), (0, u "BYTES"), (88, .class_ 596), (0, u "java/lang/Character$UnicodeScript"), (0, .class_ 598), (0, u "java/lang/Character$Subset")] 5

def k13c0 : Code := { maxStack := 2, maxLocals := 1, code := jdk_89_method_15_code, exceptionTable := #[], attributes := #[] }
def k13m0 : Method := { name := "isLowSurrogate", desc := "(C)Z", sig := { parameters := [.char], returnType := some .boolean }, accessFlags := 9, code := some k13c0 }
/-- java/lang/Character -/
def k13 : Class := { plain "java/lang/Character" (some 0) with
  accessFlags := 49
  interfaces := #[3, 4, 6]
  cf := some (fileOf pool13 1 #[.nestMembers #[48, 595, 307, 597]] #[{ accessFlags := 9, nameIndex := 84, descriptorIndex := 81, attributes := #[] }] 49 42 #[385, 387, 389] #[{ accessFlags := 25, nameIndex := 391, descriptorIndex := 392, attributes := #[] }, { accessFlags := 25, nameIndex := 395, descriptorIndex := 392, attributes := #[] }, { accessFlags := 25, nameIndex := 397, descriptorIndex := 22, attributes := #[] }, { accessFlags := 25, nameIndex := 399, descriptorIndex := 22, attributes := #[] }, { accessFlags := 25, nameIndex := 383, descriptorIndex := 384, attributes := #[] }, { accessFlags := 25, nameIndex := 403, descriptorIndex := 404, attributes := #[] }, { accessFlags := 25, nameIndex := 405, descriptorIndex := 404, attributes := #[] }, { accessFlags := 25, nameIndex := 407, descriptorIndex := 404, attributes := #[] }, { accessFlags := 25, nameIndex := 408, descriptorIndex := 404, attributes := #[] }, { accessFlags := 25, nameIndex := 410, descriptorIndex := 404, attributes := #[] }, { accessFlags := 25, nameIndex := 412, descriptorIndex := 404, attributes := #[] }, { accessFlags := 25, nameIndex := 414, descriptorIndex := 404, attributes := #[] }, { accessFlags := 25, nameIndex := 416, descriptorIndex := 404, attributes := #[] }, { accessFlags := 25, nameIndex := 418, descriptorIndex := 404, attributes := #[] }, { accessFlags := 25, nameIndex := 420, descriptorIndex := 404, attributes := #[] }, { accessFlags := 25, nameIndex := 422, descriptorIndex := 404, attributes := #[] }, { accessFlags := 25, nameIndex := 424, descriptorIndex := 404, attributes := #[] }, { accessFlags := 25, nameIndex := 426, descriptorIndex := 404, attributes := #[] }, { accessFlags := 25, nameIndex := 428, descriptorIndex := 404, attributes := #[] }, { accessFlags := 25, nameIndex := 430, descriptorIndex := 404, attributes := #[] }, { accessFlags := 25, nameIndex := 432, descriptorIndex := 404, attributes := #[] }, { accessFlags := 25, nameIndex := 434, descriptorIndex := 404, attributes := #[] }, { accessFlags := 25, nameIndex := 436, descriptorIndex := 404, attributes := #[] }, { accessFlags := 25, nameIndex := 438, descriptorIndex := 404, attributes := #[] }, { accessFlags := 25, nameIndex := 440, descriptorIndex := 404, attributes := #[] }, { accessFlags := 25, nameIndex := 442, descriptorIndex := 404, attributes := #[] }, { accessFlags := 25, nameIndex := 444, descriptorIndex := 404, attributes := #[] }, { accessFlags := 25, nameIndex := 446, descriptorIndex := 404, attributes := #[] }, { accessFlags := 25, nameIndex := 448, descriptorIndex := 404, attributes := #[] }, { accessFlags := 25, nameIndex := 450, descriptorIndex := 404, attributes := #[] }, { accessFlags := 25, nameIndex := 452, descriptorIndex := 404, attributes := #[] }, { accessFlags := 25, nameIndex := 454, descriptorIndex := 404, attributes := #[] }, { accessFlags := 25, nameIndex := 456, descriptorIndex := 404, attributes := #[] }, { accessFlags := 25, nameIndex := 458, descriptorIndex := 404, attributes := #[] }, { accessFlags := 25, nameIndex := 460, descriptorIndex := 404, attributes := #[] }, { accessFlags := 24, nameIndex := 462, descriptorIndex := 392, attributes := #[] }, { accessFlags := 25, nameIndex := 464, descriptorIndex := 404, attributes := #[] }, { accessFlags := 25, nameIndex := 465, descriptorIndex := 404, attributes := #[] }, { accessFlags := 25, nameIndex := 466, descriptorIndex := 404, attributes := #[] }, { accessFlags := 25, nameIndex := 467, descriptorIndex := 404, attributes := #[] }, { accessFlags := 25, nameIndex := 468, descriptorIndex := 404, attributes := #[] }, { accessFlags := 25, nameIndex := 469, descriptorIndex := 404, attributes := #[] }, { accessFlags := 25, nameIndex := 470, descriptorIndex := 404, attributes := #[] }, { accessFlags := 25, nameIndex := 471, descriptorIndex := 404, attributes := #[] }, { accessFlags := 25, nameIndex := 472, descriptorIndex := 404, attributes := #[] }, { accessFlags := 25, nameIndex := 473, descriptorIndex := 404, attributes := #[] }, { accessFlags := 25, nameIndex := 474, descriptorIndex := 404, attributes := #[] }, { accessFlags := 25, nameIndex := 475, descriptorIndex := 404, attributes := #[] }, { accessFlags := 25, nameIndex := 476, descriptorIndex := 404, attributes := #[] }, { accessFlags := 25, nameIndex := 477, descriptorIndex := 404, attributes := #[] }, { accessFlags := 25, nameIndex := 478, descriptorIndex := 404, attributes := #[] }, { accessFlags := 25, nameIndex := 479, descriptorIndex := 404, attributes := #[] }, { accessFlags := 25, nameIndex := 480, descriptorIndex := 404, attributes := #[] }, { accessFlags := 25, nameIndex := 481, descriptorIndex := 404, attributes := #[] }, { accessFlags := 25, nameIndex := 482, descriptorIndex := 404, attributes := #[] }, { accessFlags := 25, nameIndex := 484, descriptorIndex := 404, attributes := #[] }, { accessFlags := 25, nameIndex := 485, descriptorIndex := 404, attributes := #[] }, { accessFlags := 25, nameIndex := 486, descriptorIndex := 404, attributes := #[] }, { accessFlags := 25, nameIndex := 487, descriptorIndex := 404, attributes := #[] }, { accessFlags := 25, nameIndex := 488, descriptorIndex := 404, attributes := #[] }, { accessFlags := 25, nameIndex := 489, descriptorIndex := 22, attributes := #[] }, { accessFlags := 25, nameIndex := 490, descriptorIndex := 22, attributes := #[] }, { accessFlags := 25, nameIndex := 492, descriptorIndex := 22, attributes := #[] }, { accessFlags := 25, nameIndex := 493, descriptorIndex := 22, attributes := #[] }, { accessFlags := 25, nameIndex := 495, descriptorIndex := 22, attributes := #[] }, { accessFlags := 25, nameIndex := 496, descriptorIndex := 22, attributes := #[] }, { accessFlags := 25, nameIndex := 497, descriptorIndex := 392, attributes := #[] }, { accessFlags := 25, nameIndex := 498, descriptorIndex := 392, attributes := #[] }, { accessFlags := 25, nameIndex := 499, descriptorIndex := 392, attributes := #[] }, { accessFlags := 18, nameIndex := 21, descriptorIndex := 22, attributes := #[] }, { accessFlags := 26, nameIndex := 501, descriptorIndex := 502, attributes := #[] }, { accessFlags := 25, nameIndex := 505, descriptorIndex := 392, attributes := #[] }, { accessFlags := 25, nameIndex := 506, descriptorIndex := 392, attributes := #[] }, { accessFlags := 4120, nameIndex := 284, descriptorIndex := 285, attributes := #[] }])
  fields := #[{ name := "MIN_RADIX", type := .int, accessFlags := 25, slot := 0, constantValue := 0 }, { name := "MAX_RADIX", type := .int, accessFlags := 25, slot := 1, constantValue := 0 }, { name := "MIN_VALUE", type := .char, accessFlags := 25, slot := 2, constantValue := 0 }, { name := "MAX_VALUE", type := .char, accessFlags := 25, slot := 3, constantValue := 0 }, { name := "TYPE", type := (.object "java/lang/Class"), accessFlags := 25, slot := 4, constantValue := 0 }, { name := "UNASSIGNED", type := .byte, accessFlags := 25, slot := 5, constantValue := 0 }, { name := "UPPERCASE_LETTER", type := .byte, accessFlags := 25, slot := 6, constantValue := 0 }, { name := "LOWERCASE_LETTER", type := .byte, accessFlags := 25, slot := 7, constantValue := 0 }, { name := "TITLECASE_LETTER", type := .byte, accessFlags := 25, slot := 8, constantValue := 0 }, { name := "MODIFIER_LETTER", type := .byte, accessFlags := 25, slot := 9, constantValue := 0 }, { name := "OTHER_LETTER", type := .byte, accessFlags := 25, slot := 10, constantValue := 0 }, { name := "NON_SPACING_MARK", type := .byte, accessFlags := 25, slot := 11, constantValue := 0 }, { name := "ENCLOSING_MARK", type := .byte, accessFlags := 25, slot := 12, constantValue := 0 }, { name := "COMBINING_SPACING_MARK", type := .byte, accessFlags := 25, slot := 13, constantValue := 0 }, { name := "DECIMAL_DIGIT_NUMBER", type := .byte, accessFlags := 25, slot := 14, constantValue := 0 }, { name := "LETTER_NUMBER", type := .byte, accessFlags := 25, slot := 15, constantValue := 0 }, { name := "OTHER_NUMBER", type := .byte, accessFlags := 25, slot := 16, constantValue := 0 }, { name := "SPACE_SEPARATOR", type := .byte, accessFlags := 25, slot := 17, constantValue := 0 }, { name := "LINE_SEPARATOR", type := .byte, accessFlags := 25, slot := 18, constantValue := 0 }, { name := "PARAGRAPH_SEPARATOR", type := .byte, accessFlags := 25, slot := 19, constantValue := 0 }, { name := "CONTROL", type := .byte, accessFlags := 25, slot := 20, constantValue := 0 }, { name := "FORMAT", type := .byte, accessFlags := 25, slot := 21, constantValue := 0 }, { name := "PRIVATE_USE", type := .byte, accessFlags := 25, slot := 22, constantValue := 0 }, { name := "SURROGATE", type := .byte, accessFlags := 25, slot := 23, constantValue := 0 }, { name := "DASH_PUNCTUATION", type := .byte, accessFlags := 25, slot := 24, constantValue := 0 }, { name := "START_PUNCTUATION", type := .byte, accessFlags := 25, slot := 25, constantValue := 0 }, { name := "END_PUNCTUATION", type := .byte, accessFlags := 25, slot := 26, constantValue := 0 }, { name := "CONNECTOR_PUNCTUATION", type := .byte, accessFlags := 25, slot := 27, constantValue := 0 }, { name := "OTHER_PUNCTUATION", type := .byte, accessFlags := 25, slot := 28, constantValue := 0 }, { name := "MATH_SYMBOL", type := .byte, accessFlags := 25, slot := 29, constantValue := 0 }, { name := "CURRENCY_SYMBOL", type := .byte, accessFlags := 25, slot := 30, constantValue := 0 }, { name := "MODIFIER_SYMBOL", type := .byte, accessFlags := 25, slot := 31, constantValue := 0 }, { name := "OTHER_SYMBOL", type := .byte, accessFlags := 25, slot := 32, constantValue := 0 }, { name := "INITIAL_QUOTE_PUNCTUATION", type := .byte, accessFlags := 25, slot := 33, constantValue := 0 }, { name := "FINAL_QUOTE_PUNCTUATION", type := .byte, accessFlags := 25, slot := 34, constantValue := 0 }, { name := "ERROR", type := .int, accessFlags := 24, slot := 35, constantValue := 0 }, { name := "DIRECTIONALITY_UNDEFINED", type := .byte, accessFlags := 25, slot := 36, constantValue := 0 }, { name := "DIRECTIONALITY_LEFT_TO_RIGHT", type := .byte, accessFlags := 25, slot := 37, constantValue := 0 }, { name := "DIRECTIONALITY_RIGHT_TO_LEFT", type := .byte, accessFlags := 25, slot := 38, constantValue := 0 }, { name := "DIRECTIONALITY_RIGHT_TO_LEFT_ARABIC", type := .byte, accessFlags := 25, slot := 39, constantValue := 0 }, { name := "DIRECTIONALITY_EUROPEAN_NUMBER", type := .byte, accessFlags := 25, slot := 40, constantValue := 0 }, { name := "DIRECTIONALITY_EUROPEAN_NUMBER_SEPARATOR", type := .byte, accessFlags := 25, slot := 41, constantValue := 0 }, { name := "DIRECTIONALITY_EUROPEAN_NUMBER_TERMINATOR", type := .byte, accessFlags := 25, slot := 42, constantValue := 0 }, { name := "DIRECTIONALITY_ARABIC_NUMBER", type := .byte, accessFlags := 25, slot := 43, constantValue := 0 }, { name := "DIRECTIONALITY_COMMON_NUMBER_SEPARATOR", type := .byte, accessFlags := 25, slot := 44, constantValue := 0 }, { name := "DIRECTIONALITY_NONSPACING_MARK", type := .byte, accessFlags := 25, slot := 45, constantValue := 0 }, { name := "DIRECTIONALITY_BOUNDARY_NEUTRAL", type := .byte, accessFlags := 25, slot := 46, constantValue := 0 }, { name := "DIRECTIONALITY_PARAGRAPH_SEPARATOR", type := .byte, accessFlags := 25, slot := 47, constantValue := 0 }, { name := "DIRECTIONALITY_SEGMENT_SEPARATOR", type := .byte, accessFlags := 25, slot := 48, constantValue := 0 }, { name := "DIRECTIONALITY_WHITESPACE", type := .byte, accessFlags := 25, slot := 49, constantValue := 0 }, { name := "DIRECTIONALITY_OTHER_NEUTRALS", type := .byte, accessFlags := 25, slot := 50, constantValue := 0 }, { name := "DIRECTIONALITY_LEFT_TO_RIGHT_EMBEDDING", type := .byte, accessFlags := 25, slot := 51, constantValue := 0 }, { name := "DIRECTIONALITY_LEFT_TO_RIGHT_OVERRIDE", type := .byte, accessFlags := 25, slot := 52, constantValue := 0 }, { name := "DIRECTIONALITY_RIGHT_TO_LEFT_EMBEDDING", type := .byte, accessFlags := 25, slot := 53, constantValue := 0 }, { name := "DIRECTIONALITY_RIGHT_TO_LEFT_OVERRIDE", type := .byte, accessFlags := 25, slot := 54, constantValue := 0 }, { name := "DIRECTIONALITY_POP_DIRECTIONAL_FORMAT", type := .byte, accessFlags := 25, slot := 55, constantValue := 0 }, { name := "DIRECTIONALITY_LEFT_TO_RIGHT_ISOLATE", type := .byte, accessFlags := 25, slot := 56, constantValue := 0 }, { name := "DIRECTIONALITY_RIGHT_TO_LEFT_ISOLATE", type := .byte, accessFlags := 25, slot := 57, constantValue := 0 }, { name := "DIRECTIONALITY_FIRST_STRONG_ISOLATE", type := .byte, accessFlags := 25, slot := 58, constantValue := 0 }, { name := "DIRECTIONALITY_POP_DIRECTIONAL_ISOLATE", type := .byte, accessFlags := 25, slot := 59, constantValue := 0 }, { name := "MIN_HIGH_SURROGATE", type := .char, accessFlags := 25, slot := 60, constantValue := 0 }, { name := "MAX_HIGH_SURROGATE", type := .char, accessFlags := 25, slot := 61, constantValue := 0 }, { name := "MIN_LOW_SURROGATE", type := .char, accessFlags := 25, slot := 62, constantValue := 0 }, { name := "MAX_LOW_SURROGATE", type := .char, accessFlags := 25, slot := 63, constantValue := 0 }, { name := "MIN_SURROGATE", type := .char, accessFlags := 25, slot := 64, constantValue := 0 }, { name := "MAX_SURROGATE", type := .char, accessFlags := 25, slot := 65, constantValue := 0 }, { name := "MIN_SUPPLEMENTARY_CODE_POINT", type := .int, accessFlags := 25, slot := 66, constantValue := 0 }, { name := "MIN_CODE_POINT", type := .int, accessFlags := 25, slot := 67, constantValue := 0 }, { name := "MAX_CODE_POINT", type := .int, accessFlags := 25, slot := 68, constantValue := 0 }, { name := "value", type := .char, accessFlags := 18, slot := 0, constantValue := 0 }, { name := "serialVersionUID", type := .long, accessFlags := 26, slot := 69, constantValue := 0 }, { name := "SIZE", type := .int, accessFlags := 25, slot := 70, constantValue := 0 }, { name := "BYTES", type := .int, accessFlags := 25, slot := 71, constantValue := 0 }, { name := "$assertionsDisabled", type := .boolean, accessFlags := 4120, slot := 72, constantValue := 0 }]
  methods := #[k13m0]
  instanceTypes := #[.char]
  staticTypes := #[.int, .int, .char, .char, (.object "java/lang/Class"), .byte, .byte, .byte, .byte, .byte, .byte, .byte, .byte, .byte, .byte, .byte, .byte, .byte, .byte, .byte, .byte, .byte, .byte, .byte, .byte, .byte, .byte, .byte, .byte, .byte, .byte, .byte, .byte, .byte, .byte, .int, .byte, .byte, .byte, .byte, .byte, .byte, .byte, .byte, .byte, .byte, .byte, .byte, .byte, .byte, .byte, .byte, .byte, .byte, .byte, .byte, .byte, .byte, .byte, .byte, .char, .char, .char, .char, .char, .char, .int, .int, .int, .long, .int, .int, .boolean]
  resolved := Array.replicate 604 none
  statics := none }

def pool14 : Array CpInfo := pool [(9, u "<init>"), (6, .class_ 18), (1, u "java/lang/Object"), (0, u "()V"), (1, .class_ 23), (1, u "jdk/internal/util/ArraysSupport"), (0, u "LOG2_ARRAY_LONG_INDEX_SCALE"), (0, u "I"), (2, u "U"), (0, u "Ljdk/internal/misc/Unsafe;"), (8, u "BIG_ENDIAN"), (0, u "Z"), (8, u "LOG2_BYTE_BIT_SIZE"), (4, u "LOG2_ARRAY_INT_INDEX_SCALE"), (54, u "JLA"), (0, u "Ljdk/internal/access/JavaLangAccess;"), (11, u "LOG2_ARRAY_BOOLEAN_INDEX_SCALE"), (9, u "LOG2_ARRAY_BYTE_INDEX_SCALE"), (5, u "LOG2_ARRAY_CHAR_INDEX_SCALE"), (5, u "LOG2_ARRAY_SHORT_INDEX_SCALE"), (18, u "LOG2_ARRAY_FLOAT_INDEX_SCALE"), (24, u "LOG2_ARRAY_DOUBLE_INDEX_SCALE"), (89, u "T_BOOLEAN"), (2, u "T_CHAR"), (1, u "T_FLOAT"), (1, u "T_DOUBLE"), (1, u "T_BYTE"), (1, u "T_SHORT"), (1, u "T_INT"), (1, u "T_LONG"), (1, u "SOFT_MAX_ARRAY_LENGTH")] 83

def k14m0 : Method := { name := "<init>", desc := "()V", sig := { parameters := [], returnType := none }, accessFlags := 2, code := none }
/-- jdk/internal/util/ArraysSupport -/
def k14 : Class := { plain "jdk/internal/util/ArraysSupport" (some 0) with
  accessFlags := 33
  interfaces := #[]
  cf := some (fileOf pool14 21 #[] #[{ accessFlags := 2, nameIndex := 9, descriptorIndex := 19, attributes := #[] }] 33 16 #[] #[{ accessFlags := 24, nameIndex := 28, descriptorIndex := 29, attributes := #[] }, { accessFlags := 26, nameIndex := 38, descriptorIndex := 39, attributes := #[] }, { accessFlags := 25, nameIndex := 121, descriptorIndex := 25, attributes := #[] }, { accessFlags := 25, nameIndex := 131, descriptorIndex := 25, attributes := #[] }, { accessFlags := 25, nameIndex := 137, descriptorIndex := 25, attributes := #[] }, { accessFlags := 25, nameIndex := 143, descriptorIndex := 25, attributes := #[] }, { accessFlags := 25, nameIndex := 53, descriptorIndex := 25, attributes := #[] }, { accessFlags := 25, nameIndex := 24, descriptorIndex := 25, attributes := #[] }, { accessFlags := 25, nameIndex := 162, descriptorIndex := 25, attributes := #[] }, { accessFlags := 25, nameIndex := 187, descriptorIndex := 25, attributes := #[] }, { accessFlags := 26, nameIndex := 48, descriptorIndex := 25, attributes := #[] }, { accessFlags := 25, nameIndex := 277, descriptorIndex := 25, attributes := #[] }, { accessFlags := 25, nameIndex := 280, descriptorIndex := 25, attributes := #[] }, { accessFlags := 25, nameIndex := 282, descriptorIndex := 25, attributes := #[] }, { accessFlags := 25, nameIndex := 284, descriptorIndex := 25, attributes := #[] }, { accessFlags := 25, nameIndex := 286, descriptorIndex := 25, attributes := #[] }, { accessFlags := 25, nameIndex := 288, descriptorIndex := 25, attributes := #[] }, { accessFlags := 25, nameIndex := 290, descriptorIndex := 25, attributes := #[] }, { accessFlags := 25, nameIndex := 292, descriptorIndex := 25, attributes := #[] }, { accessFlags := 26, nameIndex := 108, descriptorIndex := 109, attributes := #[] }, { accessFlags := 25, nameIndex := 294, descriptorIndex := 25, attributes := #[] }])
  fields := #[{ name := "U", type := (.object "jdk/internal/misc/Unsafe"), accessFlags := 24, slot := 0, constantValue := 0 }, { name := "BIG_ENDIAN", type := .boolean, accessFlags := 26, slot := 1, constantValue := 0 }, { name := "LOG2_ARRAY_BOOLEAN_INDEX_SCALE", type := .int, accessFlags := 25, slot := 2, constantValue := 0 }, { name := "LOG2_ARRAY_BYTE_INDEX_SCALE", type := .int, accessFlags := 25, slot := 3, constantValue := 0 }, { name := "LOG2_ARRAY_CHAR_INDEX_SCALE", type := .int, accessFlags := 25, slot := 4, constantValue := 0 }, { name := "LOG2_ARRAY_SHORT_INDEX_SCALE", type := .int, accessFlags := 25, slot := 5, constantValue := 0 }, { name := "LOG2_ARRAY_INT_INDEX_SCALE", type := .int, accessFlags := 25, slot := 6, constantValue := 0 }, { name := "LOG2_ARRAY_LONG_INDEX_SCALE", type := .int, accessFlags := 25, slot := 7, constantValue := 0 }, { name := "LOG2_ARRAY_FLOAT_INDEX_SCALE", type := .int, accessFlags := 25, slot := 8, constantValue := 0 }, { name := "LOG2_ARRAY_DOUBLE_INDEX_SCALE", type := .int, accessFlags := 25, slot := 9, constantValue := 0 }, { name := "LOG2_BYTE_BIT_SIZE", type := .int, accessFlags := 26, slot := 10, constantValue := 0 }, { name := "T_BOOLEAN", type := .int, accessFlags := 25, slot := 11, constantValue := 0 }, { name := "T_CHAR", type := .int, accessFlags := 25, slot := 12, constantValue := 0 }, { name := "T_FLOAT", type := .int, accessFlags := 25, slot := 13, constantValue := 0 }, { name := "T_DOUBLE", type := .int, accessFlags := 25, slot := 14, constantValue := 0 }, { name := "T_BYTE", type := .int, accessFlags := 25, slot := 15, constantValue := 0 }, { name := "T_SHORT", type := .int, accessFlags := 25, slot := 16, constantValue := 0 }, { name := "T_INT", type := .int, accessFlags := 25, slot := 17, constantValue := 0 }, { name := "T_LONG", type := .int, accessFlags := 25, slot := 18, constantValue := 0 }, { name := "JLA", type := (.object "jdk/internal/access/JavaLangAccess"), accessFlags := 26, slot := 19, constantValue := 0 }, { name := "SOFT_MAX_ARRAY_LENGTH", type := .int, accessFlags := 25, slot := 20, constantValue := 0 }]
  methods := #[k14m0]
  instanceTypes := #[]
  staticTypes := #[(.object "jdk/internal/misc/Unsafe"), .boolean, .int, .int, .int, .int, .int, .int, .int, .int, .int, .int, .int, .int, .int, .int, .int, .int, .int, (.object "jdk/internal/access/JavaLangAccess"), .int]
  resolved := Array.replicate 378 none
  statics := none }

def pool15 : Array CpInfo := pool [(1, u "java/lang/Cloneable"), (0, .class_ 1), (0, u "java/lang/Object"), (0, .class_ 3)] 3

/-- java/lang/Cloneable -/
def k15 : Class := { plain "java/lang/Cloneable" (some 0) with
  accessFlags := 1537
  interfaces := #[]
  cf := some (fileOf pool15 2 #[] #[] 1537 4 #[] #[])
  fields := #[]
  methods := #[]
  instanceTypes := #[]
  staticTypes := #[]
  resolved := Array.replicate 8 none
  statics := none }

/-- the primitive byte -/
def k16 : Class := { plain "byte" none with kind := .primitive 'B', accessFlags := 0x411 }
/-- [B -/
def k17 : Class := { plain "[B" (some 0) with kind := .array 16 .byte, interfaces := #[15, 3], accessFlags := 1041 }

/-- the primitive char -/
def k18 : Class := { plain "char" none with kind := .primitive 'C', accessFlags := 0x411 }
/-- [C -/
def k19 : Class := { plain "[C" (some 0) with kind := .array 18 .char, interfaces := #[15, 3], accessFlags := 1041 }

/-- the primitive int -/
def k20 : Class := { plain "int" none with kind := .primitive 'I', accessFlags := 0x411 }
/-- [I -/
def k21 : Class := { plain "[I" (some 0) with kind := .array 20 .int, interfaces := #[15, 3], accessFlags := 1041 }

def heap : Heap := #[{ cls := 8, slots := #[.long 0, .int 1, .null, .int 0, .null, .int 0, .int 0], vm := .statics 8 },
  { cls := 11, slots := #[.null, .null, .null], vm := .statics 11 }]
def classes : Array Class := #[k0, k1, k2, k3, k4, k5, k6, k7, k8, k9, k10, k11, k12, k13, k14, k15, k16, k17, k18, k19, k20, k21]
def interned : List (Array UInt16 × Addr) := []
def slotsUsed : Nat := 10
def theMethod : MethodId := ⟨1, 4⟩
def args0 : Array Value := #[.int 1, .int 2, .int 65, .int 66, .int 67, .int 68]
def aboutOver (below : List Frame) : State where
  vm := { classes := classes, interned := interned.toArray }
  heap := heap
  slotsUsed := slotsUsed
  threads := #[{ frames := .invoking theMethod args0 :: below }]
def below0 : List Frame := [.native { method := ⟨0, 0⟩, args := #[] }]
def about1 : State := aboutOver below0
def p0 : Program := .bare "" "" ""
def e0 : Env := launch0.env 0 0 0
theorem w_frames : about1.frames = Frame.invoking theMethod args0 :: below0 := rfl
set_option maxRecDepth 65536 in
theorem w_args : argsFit about1.vm theMethod args0 = true := by decide +kernel
set_option maxRecDepth 65536 in
theorem w_heap : heapFits about1 = true := by decide +kernel
set_option maxRecDepth 65536 in
theorem w_runnable : about1.curStatus? = some .runnable := by decide +kernel
set_option maxRecDepth 65536 in
theorem w_alone : about1.alone = true := by decide +kernel
set_option maxRecDepth 65536 in
theorem w_named : about1.methodNamed? x = some theMethod := by decide +kernel
set_option maxRecDepth 65536 in
theorem w_hears : about1.hears theMethod below0 = true := by decide +kernel
set_option maxRecDepth 65536 in
theorem w_ripe : about1.ripe theMethod args0 below0 = true := by decide +kernel
theorem w_running : about1.status = .running := rfl
set_option maxRecDepth 65536 in
theorem w_room : about1.hasRoom e0.platform room_1 = true :=
  launch0.hasRoom_least _ room_1 (by decide +kernel) (by decide +kernel) (by decide +kernel) (by decide +kernel) (by decide +kernel) (by decide +kernel)
theorem allAtoms_all (ts : List Jvm.Cond) (a : Array Jvm.Value) (st : Jvm.State) : (allAtoms ts).before a st = ts.all (fun c => c.before a st) := by
  induction ts with
  | nil => rfl
  | cons c t ih =>
    show (Jvm.Cond.and c (allAtoms t)).before a st = _
    rw [Jvm.Cond.before_and, ih, List.all_cons]
def words1 : List Jvm.Cond := Jvm.Cond.code x code maxLocals ret :: tables_1
/-- a 'code' word, met by the world's own term for the bytes: nothing is compared byte by byte -/
theorem code_word {y : MethodName} {bytes : ByteArray} {mx : Nat} {rt : Option FieldType} {a : Array Value} {s : State} {m : MethodId} {meth : Method} {c : Code} (h1 : s.methodNamed? y = some m) (h2 : s.vm.method? m = some meth) (h3 : meth.code = some c) (h4 : c.code = bytes)
    (h5 : (c.maxLocals == mx && c.exceptionTable.isEmpty && decide (c.maxStack ≤ mostOperands) && decide (meth.sig.returnType = rt) && !meth.locks && decide (parseMethodDescriptor y.desc = some meth.sig)) = true) : (Jvm.Cond.code y bytes mx rt).before a s = true := by
  simp only [Bool.and_eq_true, beq_iff_eq, Bool.not_eq_true', decide_eq_true_eq] at h5
  obtain ⟨⟨⟨⟨⟨g1, g2⟩, g3⟩, g4⟩, g5⟩, g6⟩ := h5
  simp [Cond.before, Cond.holds, Cond.value, h1, h2, h3, h4, g1, g2, g3, g4, g5, g6]
def isCode : Jvm.Cond → Bool
  | .code _ _ _ _ => true
  | _ => false
theorem all_split {L : List Jvm.Cond} {P : Jvm.Cond → Bool} (h1 : L.all (fun c => isCode c || P c) = true) (h2 : ∀ c ∈ L.filter isCode, P c = true) : L.all P = true := by
  refine List.all_eq_true.mpr fun c hc => ?_
  have h := List.all_eq_true.mp h1 c hc
  rcases Bool.eq_false_or_eq_true (isCode c) with hi | hi
  · exact h2 c (List.mem_filter.mpr ⟨hc, hi⟩)
  · simpa [hi] using h
set_option maxRecDepth 65536 in
theorem w_c0 : (Jvm.Cond.code x code maxLocals ret).before args0 about1 = true := code_word (m := ⟨1, 4⟩) (meth := k1m4) (c := k1c4) (by decide +kernel) rfl rfl rfl (by decide +kernel)
set_option maxRecDepth 65536 in
theorem w_c1 : (Jvm.Cond.code ({ cls := "gleanwell/WindowMoveByPinLaw", name := "ch", desc := "(I)C" } : Jvm.MethodName) method_2_code (1 : Nat) (Option.some Jvm.ClassFile.FieldType.char)).before args0 about1 = true := code_word (m := ⟨1, 1⟩) (meth := k1m1) (c := k1c1) (by decide +kernel) rfl rfl rfl (by decide +kernel)
set_option maxRecDepth 65536 in
theorem w_c2 : (Jvm.Cond.code ({ cls := "java/lang/String", name := "<init>", desc := "([C)V" } : Jvm.MethodName) jdk_42_method_3_code (2 : Nat) (Option.none : Option Jvm.ClassFile.FieldType)).before args0 about1 = true := code_word (m := ⟨8, 1⟩) (meth := k8m1) (c := k8c1) (by decide +kernel) rfl rfl rfl (by decide +kernel)
set_option maxRecDepth 65536 in
theorem w_c3 : (Jvm.Cond.code ({ cls := "java/lang/String", name := "<init>", desc := "([CIILjava/lang/Void;)V" } : Jvm.MethodName) jdk_42_method_149_code (6 : Nat) (Option.none : Option Jvm.ClassFile.FieldType)).before args0 about1 = true := code_word (m := ⟨8, 4⟩) (meth := k8m4) (c := k8c4) (by decide +kernel) rfl rfl rfl (by decide +kernel)
set_option maxRecDepth 65536 in
theorem w_c4 : (Jvm.Cond.code ({ cls := "java/lang/Object", name := "<init>", desc := "()V" } : Jvm.MethodName) object_method_1_code (1 : Nat) (Option.none : Option Jvm.ClassFile.FieldType)).before args0 about1 = true := code_word (m := ⟨0, 0⟩) (meth := k0m0) (c := k0c0) (by decide +kernel) rfl rfl rfl (by decide +kernel)
set_option maxRecDepth 65536 in
theorem w_c5 : (Jvm.Cond.code ({ cls := "java/lang/StringUTF16", name := "compress", desc := "([CII)[B" } : Jvm.MethodName) jdk_52_method_16_code (6 : Nat) (Option.some (Jvm.ClassFile.FieldType.array Jvm.ClassFile.FieldType.byte))).before args0 about1 = true := code_word (m := ⟨9, 2⟩) (meth := k9m2) (c := k9c2) (by decide +kernel) rfl rfl rfl (by decide +kernel)
set_option maxRecDepth 65536 in
theorem w_c6 : (Jvm.Cond.code ({ cls := "java/lang/StringUTF16", name := "compress", desc := "([CI[BII)I" } : Jvm.MethodName) jdk_52_method_21_code (7 : Nat) (Option.some Jvm.ClassFile.FieldType.int)).before args0 about1 = true := code_word (m := ⟨9, 3⟩) (meth := k9m3) (c := k9c3) (by decide +kernel) rfl rfl rfl (by decide +kernel)
set_option maxRecDepth 65536 in
theorem w_c7 : (Jvm.Cond.code ({ cls := "java/lang/StringUTF16", name := "coderFromArrayLen", desc := "([BI)B" } : Jvm.MethodName) jdk_52_method_15_code (2 : Nat) (Option.some Jvm.ClassFile.FieldType.byte)).before args0 about1 = true := code_word (m := ⟨9, 1⟩) (meth := k9m1) (c := k9c1) (by decide +kernel) rfl rfl rfl (by decide +kernel)
set_option maxRecDepth 65536 in
theorem w_c8 : (Jvm.Cond.code ({ cls := "gleanwell/Window", name := "<init>", desc := "(Ljava/lang/String;)V" } : Jvm.MethodName) prog_52_method_1_code (2 : Nat) (Option.none : Option Jvm.ClassFile.FieldType)).before args0 about1 = true := code_word (m := ⟨2, 0⟩) (meth := k2m0) (c := k2c0) (by decide +kernel) rfl rfl rfl (by decide +kernel)
set_option maxRecDepth 65536 in
theorem w_c9 : (Jvm.Cond.code ({ cls := "gleanwell/Position", name := "<init>", desc := "()V" } : Jvm.MethodName) prog_33_method_1_code (1 : Nat) (Option.none : Option Jvm.ClassFile.FieldType)).before args0 about1 = true := code_word (m := ⟨10, 0⟩) (meth := k10m0) (c := k10c0) (by decide +kernel) rfl rfl rfl (by decide +kernel)
set_option maxRecDepth 65536 in
theorem w_c10 : (Jvm.Cond.code ({ cls := "java/lang/String", name := "length", desc := "()I" } : Jvm.MethodName) jdk_42_method_54_code (1 : Nat) (Option.some Jvm.ClassFile.FieldType.int)).before args0 about1 = true := code_word (m := ⟨8, 2⟩) (meth := k8m2) (c := k8c2) (by decide +kernel) rfl rfl rfl (by decide +kernel)
set_option maxRecDepth 65536 in
theorem w_c11 : (Jvm.Cond.code ({ cls := "java/lang/String", name := "coder", desc := "()B" } : Jvm.MethodName) jdk_42_method_152_code (1 : Nat) (Option.some Jvm.ClassFile.FieldType.byte)).before args0 about1 = true := code_word (m := ⟨8, 5⟩) (meth := k8m5) (c := k8c5) (by decide +kernel) rfl rfl rfl (by decide +kernel)
set_option maxRecDepth 65536 in
theorem w_c12 : (Jvm.Cond.code ({ cls := "java/lang/String", name := "getChars", desc := "(II[CI)V" } : Jvm.MethodName) jdk_42_method_61_code (5 : Nat) (Option.none : Option Jvm.ClassFile.FieldType)).before args0 about1 = true := code_word (m := ⟨8, 3⟩) (meth := k8m3) (c := k8c3) (by decide +kernel) rfl rfl rfl (by decide +kernel)
set_option maxRecDepth 65536 in
theorem w_c13 : (Jvm.Cond.code ({ cls := "java/lang/String", name := "checkBoundsBeginEnd", desc := "(III)V" } : Jvm.MethodName) jdk_42_method_158_code (3 : Nat) (Option.none : Option Jvm.ClassFile.FieldType)).before args0 about1 = true := code_word (m := ⟨8, 8⟩) (meth := k8m8) (c := k8c8) (by decide +kernel) rfl rfl rfl (by decide +kernel)
set_option maxRecDepth 65536 in
theorem w_c14 : (Jvm.Cond.code ({ cls := "jdk/internal/util/Preconditions", name := "checkFromToIndex", desc := "(IIILjava/util/function/BiFunction;)I" } : Jvm.MethodName) jdk_41_method_12_code (4 : Nat) (Option.some Jvm.ClassFile.FieldType.int)).before args0 about1 = true := code_word (m := ⟨11, 1⟩) (meth := k11m1) (c := k11c1) (by decide +kernel) rfl rfl rfl (by decide +kernel)
set_option maxRecDepth 65536 in
theorem w_c15 : (Jvm.Cond.code ({ cls := "java/lang/String", name := "checkBoundsOffCount", desc := "(III)I" } : Jvm.MethodName) jdk_42_method_157_code (3 : Nat) (Option.some Jvm.ClassFile.FieldType.int)).before args0 about1 = true := code_word (m := ⟨8, 7⟩) (meth := k8m7) (c := k8c7) (by decide +kernel) rfl rfl rfl (by decide +kernel)
set_option maxRecDepth 65536 in
theorem w_c16 : (Jvm.Cond.code ({ cls := "jdk/internal/util/Preconditions", name := "checkFromIndexSize", desc := "(IIILjava/util/function/BiFunction;)I" } : Jvm.MethodName) jdk_41_method_13_code (4 : Nat) (Option.some Jvm.ClassFile.FieldType.int)).before args0 about1 = true := code_word (m := ⟨11, 2⟩) (meth := k11m2) (c := k11c2) (by decide +kernel) rfl rfl rfl (by decide +kernel)
set_option maxRecDepth 65536 in
theorem w_c17 : (Jvm.Cond.code ({ cls := "java/lang/String", name := "isLatin1", desc := "()Z" } : Jvm.MethodName) jdk_42_method_154_code (1 : Nat) (Option.some Jvm.ClassFile.FieldType.boolean)).before args0 about1 = true := code_word (m := ⟨8, 6⟩) (meth := k8m6) (c := k8c6) (by decide +kernel) rfl rfl rfl (by decide +kernel)
set_option maxRecDepth 65536 in
theorem w_c18 : (Jvm.Cond.code ({ cls := "java/lang/StringLatin1", name := "getChars", desc := "([BII[CI)V" } : Jvm.MethodName) jdk_43_method_11_code (5 : Nat) (Option.none : Option Jvm.ClassFile.FieldType)).before args0 about1 = true := code_word (m := ⟨12, 1⟩) (meth := k12m1) (c := k12c1) (by decide +kernel) rfl rfl rfl (by decide +kernel)
set_option maxRecDepth 65536 in
theorem w_c19 : (Jvm.Cond.code ({ cls := "java/lang/StringLatin1", name := "inflate", desc := "([BI[CII)V" } : Jvm.MethodName) jdk_43_method_49_code (6 : Nat) (Option.none : Option Jvm.ClassFile.FieldType)).before args0 about1 = true := code_word (m := ⟨12, 2⟩) (meth := k12m2) (c := k12c2) (by decide +kernel) rfl rfl rfl (by decide +kernel)
set_option maxRecDepth 65536 in
theorem w_c20 : (Jvm.Cond.code ({ cls := "gleanwell/Window", name := "moveBy", desc := "(I)V" } : Jvm.MethodName) prog_52_method_3_code (2 : Nat) (Option.none : Option Jvm.ClassFile.FieldType)).before args0 about1 = true := code_word (m := ⟨2, 1⟩) (meth := k2m1) (c := k2c1) (by decide +kernel) rfl rfl rfl (by decide +kernel)
set_option maxRecDepth 65536 in
theorem w_c21 : (Jvm.Cond.code ({ cls := "gleanwell/WindowMoveByPinLaw", name := "isT", desc := "(C)Z" } : Jvm.MethodName) method_3_code (1 : Nat) (Option.some Jvm.ClassFile.FieldType.boolean)).before args0 about1 = true := code_word (m := ⟨1, 2⟩) (meth := k1m2) (c := k1c2) (by decide +kernel) rfl rfl rfl (by decide +kernel)
set_option maxRecDepth 65536 in
theorem w_c22 : (Jvm.Cond.code ({ cls := "gleanwell/WindowMoveByPinLaw", name := "endsAt", desc := "([CII)I" } : Jvm.MethodName) method_4_code (5 : Nat) (Option.some Jvm.ClassFile.FieldType.int)).before args0 about1 = true := code_word (m := ⟨1, 3⟩) (meth := k1m3) (c := k1c3) (by decide +kernel) rfl rfl rfl (by decide +kernel)
set_option maxRecDepth 65536 in
theorem w_c23 : (Jvm.Cond.code ({ cls := "gleanwell/Window", name := "positionAt", desc := "(I)Lgleanwell/Position;" } : Jvm.MethodName) prog_52_method_11_code (3 : Nat) (Option.some (Jvm.ClassFile.FieldType.object "gleanwell/Position"))).before args0 about1 = true := code_word (m := ⟨2, 3⟩) (meth := k2m3) (c := k2c3) (by decide +kernel) rfl rfl rfl (by decide +kernel)
set_option maxRecDepth 65536 in
theorem w_c24 : (Jvm.Cond.code ({ cls := "gleanwell/Position", name := "pass", desc := "([CII)V" } : Jvm.MethodName) prog_33_method_9_code (11 : Nat) (Option.none : Option Jvm.ClassFile.FieldType)).before args0 about1 = true := code_word (m := ⟨10, 7⟩) (meth := k10m7) (c := k10c7) (by decide +kernel) rfl rfl rfl (by decide +kernel)
set_option maxRecDepth 65536 in
theorem w_c25 : (Jvm.Cond.code ({ cls := "gleanwell/Position", name := "isTerminator", desc := "(C)Z" } : Jvm.MethodName) prog_33_method_4_code (1 : Nat) (Option.some Jvm.ClassFile.FieldType.boolean)).before args0 about1 = true := code_word (m := ⟨10, 3⟩) (meth := k10m3) (c := k10c3) (by decide +kernel) rfl rfl rfl (by decide +kernel)
set_option maxRecDepth 65536 in
theorem w_c26 : (Jvm.Cond.code ({ cls := "java/lang/Character", name := "isLowSurrogate", desc := "(C)Z" } : Jvm.MethodName) jdk_89_method_15_code (1 : Nat) (Option.some Jvm.ClassFile.FieldType.boolean)).before args0 about1 = true := code_word (m := ⟨13, 0⟩) (meth := k13m0) (c := k13c0) (by decide +kernel) rfl rfl rfl (by decide +kernel)
set_option maxRecDepth 65536 in
theorem w_c27 : (Jvm.Cond.code ({ cls := "gleanwell/Position", name := "copy", desc := "()Lgleanwell/Position;" } : Jvm.MethodName) prog_33_method_8_code (2 : Nat) (Option.some (Jvm.ClassFile.FieldType.object "gleanwell/Position"))).before args0 about1 = true := code_word (m := ⟨10, 6⟩) (meth := k10m6) (c := k10c6) (by decide +kernel) rfl rfl rfl (by decide +kernel)
set_option maxRecDepth 65536 in
theorem w_c28 : (Jvm.Cond.code ({ cls := "gleanwell/Position", name := "line", desc := "()J" } : Jvm.MethodName) prog_33_method_2_code (1 : Nat) (Option.some Jvm.ClassFile.FieldType.long)).before args0 about1 = true := code_word (m := ⟨10, 1⟩) (meth := k10m1) (c := k10c1) (by decide +kernel) rfl rfl rfl (by decide +kernel)
set_option maxRecDepth 65536 in
theorem w_c29 : (Jvm.Cond.code ({ cls := "gleanwell/Position", name := "column", desc := "()J" } : Jvm.MethodName) prog_33_method_3_code (1 : Nat) (Option.some Jvm.ClassFile.FieldType.long)).before args0 about1 = true := code_word (m := ⟨10, 2⟩) (meth := k10m2) (c := k10c2) (by decide +kernel) rfl rfl rfl (by decide +kernel)
set_option maxRecDepth 65536 in
theorem w_c30 : (Jvm.Cond.code ({ cls := "gleanwell/Position", name := "before", desc := "([CII)C" } : Jvm.MethodName) prog_33_method_10_code (4 : Nat) (Option.some Jvm.ClassFile.FieldType.char)).before args0 about1 = true := code_word (m := ⟨10, 8⟩) (meth := k10m8) (c := k10c8) (by decide +kernel) rfl rfl rfl (by decide +kernel)
set_option maxRecDepth 65536 in
theorem w_c31 : (Jvm.Cond.code ({ cls := "gleanwell/Position", name := "endsLine", desc := "(CC)Z" } : Jvm.MethodName) prog_33_method_5_code (2 : Nat) (Option.some Jvm.ClassFile.FieldType.boolean)).before args0 about1 = true := code_word (m := ⟨10, 4⟩) (meth := k10m4) (c := k10c4) (by decide +kernel) rfl rfl rfl (by decide +kernel)
set_option maxRecDepth 65536 in
theorem w_c32 : (Jvm.Cond.code ({ cls := "gleanwell/Window", name := "moveOverLines", desc := "(III)V" } : Jvm.MethodName) prog_52_method_4_code (4 : Nat) (Option.none : Option Jvm.ClassFile.FieldType)).before args0 about1 = true := code_word (m := ⟨2, 2⟩) (meth := k2m2) (c := k2c2) (by decide +kernel) rfl rfl rfl (by decide +kernel)
set_option maxRecDepth 65536 in
theorem w_c33 : (Jvm.Cond.code ({ cls := "gleanwell/Position", name := "beginLine", desc := "(JC)V" } : Jvm.MethodName) prog_33_method_7_code (4 : Nat) (Option.none : Option Jvm.ClassFile.FieldType)).before args0 about1 = true := code_word (m := ⟨10, 5⟩) (meth := k10m5) (c := k10c5) (by decide +kernel) rfl rfl rfl (by decide +kernel)
def codes1 : List Jvm.Cond := [Jvm.Cond.code x code maxLocals ret, Jvm.Cond.code ({ cls := "gleanwell/WindowMoveByPinLaw", name := "ch", desc := "(I)C" } : Jvm.MethodName) method_2_code (1 : Nat) (Option.some Jvm.ClassFile.FieldType.char), Jvm.Cond.code ({ cls := "java/lang/String", name := "<init>", desc := "([C)V" } : Jvm.MethodName) jdk_42_method_3_code (2 : Nat) (Option.none : Option Jvm.ClassFile.FieldType), Jvm.Cond.code ({ cls := "java/lang/String", name := "<init>", desc := "([CIILjava/lang/Void;)V" } : Jvm.MethodName) jdk_42_method_149_code (6 : Nat) (Option.none : Option Jvm.ClassFile.FieldType), Jvm.Cond.code ({ cls := "java/lang/Object", name := "<init>", desc := "()V" } : Jvm.MethodName) object_method_1_code (1 : Nat) (Option.none : Option Jvm.ClassFile.FieldType), Jvm.Cond.code ({ cls := "java/lang/StringUTF16", name := "compress", desc := "([CII)[B" } : Jvm.MethodName) jdk_52_method_16_code (6 : Nat) (Option.some (Jvm.ClassFile.FieldType.array Jvm.ClassFile.FieldType.byte)), Jvm.Cond.code ({ cls := "java/lang/StringUTF16", name := "compress", desc := "([CI[BII)I" } : Jvm.MethodName) jdk_52_method_21_code (7 : Nat) (Option.some Jvm.ClassFile.FieldType.int), Jvm.Cond.code ({ cls := "java/lang/StringUTF16", name := "coderFromArrayLen", desc := "([BI)B" } : Jvm.MethodName) jdk_52_method_15_code (2 : Nat) (Option.some Jvm.ClassFile.FieldType.byte), Jvm.Cond.code ({ cls := "gleanwell/Window", name := "<init>", desc := "(Ljava/lang/String;)V" } : Jvm.MethodName) prog_52_method_1_code (2 : Nat) (Option.none : Option Jvm.ClassFile.FieldType), Jvm.Cond.code ({ cls := "gleanwell/Position", name := "<init>", desc := "()V" } : Jvm.MethodName) prog_33_method_1_code (1 : Nat) (Option.none : Option Jvm.ClassFile.FieldType), Jvm.Cond.code ({ cls := "java/lang/String", name := "length", desc := "()I" } : Jvm.MethodName) jdk_42_method_54_code (1 : Nat) (Option.some Jvm.ClassFile.FieldType.int), Jvm.Cond.code ({ cls := "java/lang/String", name := "coder", desc := "()B" } : Jvm.MethodName) jdk_42_method_152_code (1 : Nat) (Option.some Jvm.ClassFile.FieldType.byte), Jvm.Cond.code ({ cls := "java/lang/String", name := "getChars", desc := "(II[CI)V" } : Jvm.MethodName) jdk_42_method_61_code (5 : Nat) (Option.none : Option Jvm.ClassFile.FieldType), Jvm.Cond.code ({ cls := "java/lang/String", name := "checkBoundsBeginEnd", desc := "(III)V" } : Jvm.MethodName) jdk_42_method_158_code (3 : Nat) (Option.none : Option Jvm.ClassFile.FieldType), Jvm.Cond.code ({ cls := "jdk/internal/util/Preconditions", name := "checkFromToIndex", desc := "(IIILjava/util/function/BiFunction;)I" } : Jvm.MethodName) jdk_41_method_12_code (4 : Nat) (Option.some Jvm.ClassFile.FieldType.int), Jvm.Cond.code ({ cls := "java/lang/String", name := "checkBoundsOffCount", desc := "(III)I" } : Jvm.MethodName) jdk_42_method_157_code (3 : Nat) (Option.some Jvm.ClassFile.FieldType.int), Jvm.Cond.code ({ cls := "jdk/internal/util/Preconditions", name := "checkFromIndexSize", desc := "(IIILjava/util/function/BiFunction;)I" } : Jvm.MethodName) jdk_41_method_13_code (4 : Nat) (Option.some Jvm.ClassFile.FieldType.int), Jvm.Cond.code ({ cls := "java/lang/String", name := "isLatin1", desc := "()Z" } : Jvm.MethodName) jdk_42_method_154_code (1 : Nat) (Option.some Jvm.ClassFile.FieldType.boolean), Jvm.Cond.code ({ cls := "java/lang/StringLatin1", name := "getChars", desc := "([BII[CI)V" } : Jvm.MethodName) jdk_43_method_11_code (5 : Nat) (Option.none : Option Jvm.ClassFile.FieldType), Jvm.Cond.code ({ cls := "java/lang/StringLatin1", name := "inflate", desc := "([BI[CII)V" } : Jvm.MethodName) jdk_43_method_49_code (6 : Nat) (Option.none : Option Jvm.ClassFile.FieldType), Jvm.Cond.code ({ cls := "gleanwell/Window", name := "moveBy", desc := "(I)V" } : Jvm.MethodName) prog_52_method_3_code (2 : Nat) (Option.none : Option Jvm.ClassFile.FieldType), Jvm.Cond.code ({ cls := "gleanwell/WindowMoveByPinLaw", name := "isT", desc := "(C)Z" } : Jvm.MethodName) method_3_code (1 : Nat) (Option.some Jvm.ClassFile.FieldType.boolean), Jvm.Cond.code ({ cls := "gleanwell/WindowMoveByPinLaw", name := "endsAt", desc := "([CII)I" } : Jvm.MethodName) method_4_code (5 : Nat) (Option.some Jvm.ClassFile.FieldType.int), Jvm.Cond.code ({ cls := "gleanwell/Window", name := "positionAt", desc := "(I)Lgleanwell/Position;" } : Jvm.MethodName) prog_52_method_11_code (3 : Nat) (Option.some (Jvm.ClassFile.FieldType.object "gleanwell/Position")), Jvm.Cond.code ({ cls := "gleanwell/Position", name := "pass", desc := "([CII)V" } : Jvm.MethodName) prog_33_method_9_code (11 : Nat) (Option.none : Option Jvm.ClassFile.FieldType), Jvm.Cond.code ({ cls := "gleanwell/Position", name := "isTerminator", desc := "(C)Z" } : Jvm.MethodName) prog_33_method_4_code (1 : Nat) (Option.some Jvm.ClassFile.FieldType.boolean), Jvm.Cond.code ({ cls := "java/lang/Character", name := "isLowSurrogate", desc := "(C)Z" } : Jvm.MethodName) jdk_89_method_15_code (1 : Nat) (Option.some Jvm.ClassFile.FieldType.boolean), Jvm.Cond.code ({ cls := "gleanwell/Position", name := "copy", desc := "()Lgleanwell/Position;" } : Jvm.MethodName) prog_33_method_8_code (2 : Nat) (Option.some (Jvm.ClassFile.FieldType.object "gleanwell/Position")), Jvm.Cond.code ({ cls := "gleanwell/Position", name := "line", desc := "()J" } : Jvm.MethodName) prog_33_method_2_code (1 : Nat) (Option.some Jvm.ClassFile.FieldType.long), Jvm.Cond.code ({ cls := "gleanwell/Position", name := "column", desc := "()J" } : Jvm.MethodName) prog_33_method_3_code (1 : Nat) (Option.some Jvm.ClassFile.FieldType.long), Jvm.Cond.code ({ cls := "gleanwell/Position", name := "before", desc := "([CII)C" } : Jvm.MethodName) prog_33_method_10_code (4 : Nat) (Option.some Jvm.ClassFile.FieldType.char), Jvm.Cond.code ({ cls := "gleanwell/Position", name := "endsLine", desc := "(CC)Z" } : Jvm.MethodName) prog_33_method_5_code (2 : Nat) (Option.some Jvm.ClassFile.FieldType.boolean), Jvm.Cond.code ({ cls := "gleanwell/Window", name := "moveOverLines", desc := "(III)V" } : Jvm.MethodName) prog_52_method_4_code (4 : Nat) (Option.none : Option Jvm.ClassFile.FieldType), Jvm.Cond.code ({ cls := "gleanwell/Position", name := "beginLine", desc := "(JC)V" } : Jvm.MethodName) prog_33_method_7_code (4 : Nat) (Option.none : Option Jvm.ClassFile.FieldType)]
set_option maxRecDepth 65536 in
theorem codes_eq : words1.filter isCode = codes1 := rfl
theorem w_codes : ∀ c ∈ words1.filter isCode, c.before args0 about1 = true := by
  rw [codes_eq]
  intro c hc
  simp only [codes1, List.mem_cons, List.not_mem_nil, or_false] at hc
  rcases hc with rfl | rfl | rfl | rfl | rfl | rfl | rfl | rfl | rfl | rfl | rfl | rfl | rfl | rfl | rfl | rfl | rfl | rfl | rfl | rfl | rfl | rfl | rfl | rfl | rfl | rfl | rfl | rfl | rfl | rfl | rfl | rfl | rfl | rfl
  · exact w_c0
  · exact w_c1
  · exact w_c2
  · exact w_c3
  · exact w_c4
  · exact w_c5
  · exact w_c6
  · exact w_c7
  · exact w_c8
  · exact w_c9
  · exact w_c10
  · exact w_c11
  · exact w_c12
  · exact w_c13
  · exact w_c14
  · exact w_c15
  · exact w_c16
  · exact w_c17
  · exact w_c18
  · exact w_c19
  · exact w_c20
  · exact w_c21
  · exact w_c22
  · exact w_c23
  · exact w_c24
  · exact w_c25
  · exact w_c26
  · exact w_c27
  · exact w_c28
  · exact w_c29
  · exact w_c30
  · exact w_c31
  · exact w_c32
  · exact w_c33
set_option maxRecDepth 65536 in
theorem w_t1 : (words1.take 24).all (fun c => isCode c || c.before args0 about1) = true := by decide +kernel
set_option maxRecDepth 65536 in
theorem w_t2 : ((words1.drop 24).take 24).all (fun c => isCode c || c.before args0 about1) = true := by decide +kernel
set_option maxRecDepth 65536 in
theorem w_t3 : (((words1.drop 24).drop 24).take 24).all (fun c => isCode c || c.before args0 about1) = true := by decide +kernel
set_option maxRecDepth 65536 in
theorem w_t4 : ((((words1.drop 24).drop 24).drop 24).take 24).all (fun c => isCode c || c.before args0 about1) = true := by decide +kernel
set_option maxRecDepth 65536 in
theorem w_t5 : (((((words1.drop 24).drop 24).drop 24).drop 24).take 24).all (fun c => isCode c || c.before args0 about1) = true := by decide +kernel
set_option maxRecDepth 65536 in
theorem w_t6 : ((((((words1.drop 24).drop 24).drop 24).drop 24).drop 24).take 24).all (fun c => isCode c || c.before args0 about1) = true := by decide +kernel
set_option maxRecDepth 65536 in
theorem w_t7 : (((((((words1.drop 24).drop 24).drop 24).drop 24).drop 24).drop 24).take 24).all (fun c => isCode c || c.before args0 about1) = true := by decide +kernel
set_option maxRecDepth 65536 in
theorem w_t8 : (((((((words1.drop 24).drop 24).drop 24).drop 24).drop 24).drop 24).drop 24).all (fun c => isCode c || c.before args0 about1) = true := by decide +kernel
theorem w_tables : (allAtoms (Jvm.Cond.code x code maxLocals ret :: tables_1)).before args0 about1 = true := by
  rw [allAtoms_all]
  show words1.all (fun c => c.before args0 about1) = true
  refine all_split ?_ w_codes
  rw [← List.take_append_drop 24 words1, List.all_append, w_t1, ← List.take_append_drop 24 (words1.drop 24), List.all_append, w_t2, ← List.take_append_drop 24 ((words1.drop 24).drop 24), List.all_append, w_t3, ← List.take_append_drop 24 (((words1.drop 24).drop 24).drop 24), List.all_append, w_t4, ← List.take_append_drop 24 ((((words1.drop 24).drop 24).drop 24).drop 24), List.all_append, w_t5, ← List.take_append_drop 24 (((((words1.drop 24).drop 24).drop 24).drop 24).drop 24), List.all_append, w_t6, ← List.take_append_drop 24 ((((((words1.drop 24).drop 24).drop 24).drop 24).drop 24).drop 24), List.all_append, w_t7, w_t8]
  rfl
set_option maxRecDepth 65536 in
theorem w_rest : rest_1_c.before args0 about1 = true := by decide +kernel
set_option maxRecDepth 65536 in
theorem w_case : (Jvm.Cond.and given_1 narrow_1).before args0 about1 = true := by decide +kernel
theorem w_applies : (headSpec (Jvm.Cond.code x code maxLocals ret :: tables_1) room_1).applies x e0.platform about1 = true :=
  (Spec.applies_iff w_frames).mpr ⟨w_running, w_runnable, w_alone, w_named, w_hears, w_ripe, w_room, w_tables⟩
theorem atStart : AtStart classFile x code maxLocals ret World_1 tables_1 room_1 Calls_1 rest_1 Pre_1 launch0 p0 e0 about1 theMethod args0 below0 :=
  ⟨lists_1, trivial, launch0.admits_env _ _ _, launch0.least_env, fairChoices_fair.cas, fairChoices_fair.clock, w_frames, w_args, w_heap, w_applies, trivial, w_rest, w_case⟩
end start1
theorem witness_1 : WitnessClaimed_1 := ⟨start1.p0, start1.e0, start1.about1, start1.theMethod, start1.args0, start1.below0, start1.atStart⟩
end Jvm.Pilot.@@N@@
