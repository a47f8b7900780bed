import JvmDerived
import JvmDerived.Pilot.@@N@@Statement
import JvmDerived.Pilot.@@N@@Code
set_option linter.unusedVariables false
set_option linter.unusedSimpArgs false
namespace Jvm.Pilot.@@N@@
open Jvm Jvm.ClassFile Sem Op Lib Jvm.Free Jvm.Stand Jvm.LawKit Jvm.RoadKit Bundle Jvm.Pilot.@@N@@.Jvm.D
section OwnKit
variable {p : Program} {l : Launch} {e : Env} {R : Room} {s : State} {m : MethodId} {args : Array Value} {below : List Frame} {meth : Method} {c : Code} {T : State} {locs : List Loc} {cells slots : Nat} {Z : State} {a0 : Array Value} {h : Heap} {pc : Nat} {Ls : Array Slot} {S : List Value} {Q : Option Value → Heap → List Loc → Prop} {K J : Nat} {Fn : Outcome → State → List Loc → Prop}
/-- from here the body comes to its return, and then Q holds -/
def Go (p : Program) (e : Env) (below : List Frame) (Fn : Outcome → State → List Loc → Prop) (Q : Option Value → Heap → List Loc → Prop) (T : State) (g : JFrame) : Prop :=
  ∃ s₂ o, Steps p.tables e below (T.setTop g) s₂ ∧ s₂.status = .running ∧ Ended s₂ below o ∧ ∃ v L, o = .returned v ∧ Q v s₂.heap L ∧ Fn o s₂ L
theorem Go.st {T' : State} {g g' : JFrame} (st : ∀ t, Steps p.tables e below (T'.setTop g') t → Steps p.tables e below (T.setTop g) t) (k : Go p e below Fn Q T' g') : Go p e below Fn Q T g := by
  obtain ⟨s2, o, h1, h2⟩ := k
  exact ⟨s2, o, st _ h1, h2⟩
theorem own_w {d : Jvm.Cond} (hw : ∀ d ∈ tables_1, d.before a0 Z = true) (i : Nat) (h : tables_1[i]? = some d) : d.before a0 Z = true := hw _ (List.mem_of_getElem? h)
/-- a body's contract, at the heap h0 -/
def OwnMet (l : Launch) (Z : State) (y : MethodName) (bytes : ByteArray) (maxL : Nat) (ret : Option FieldType) (ws : List Jvm.Cond) (rm : Room) (as' : List Value) (h0 : Heap) (Qc : Option Value → Heap → List Loc → Prop) : Prop :=
  MetFree l y (head1 (Jvm.Cond.code y bytes maxL ret :: ws) rm) (fun a U => a = as'.toArray ∧ Z.Warmed39 U.vm ∧ U.heap = h0) (fun _ _ _ _ _ => True) (fun _ U o U' => ∃ v L, o = .returned v ∧ Qc v U'.heap L ∧ FrameEnd U o U' L rm.cells rm.slots)
theorem own_body {y : MethodName} {bytes : ByteArray} {maxL : Nat} {ret : Option FieldType} {ws : List Jvm.Cond} {rm : Room} {as' : List Value} {h0 : Heap} {Qc : Option Value → Heap → List Loc → Prop} {Ls : Array Slot} (hpl : plainFor y = true) (hef : ∀ m, entryFrame m as'.toArray maxL = mkF m 0 Ls [])
    (k : ∀ (p : Program) (e : Env) (s : State) (m : MethodId) (below : List Frame) (meth : Method) (c : Code) (T : State), p.tables.exec = Jvm.exec → c.code = bytes → c.maxLocals = maxL → s.vm.findClass y.cls = some m.cls → meth.name = y.name → meth.sig.returnType = ret → meth.locks = false → Z.Warmed39 s.vm → Stand p l e rm s m as'.toArray below meth c T [] 0 0 → T.heap = h0 → Go p e below (fun o t L => FrameEnd s o t L rm.cells rm.slots) Qc T (mkF m 0 Ls [])) : OwnMet l Z y bytes maxL ret ws rm as' h0 Qc := by
  refine MetFree.of_bodySF hpl hisR ?_
  intro p e s m args below meth c s₁ Bd hml0 hP hK
  obtain ⟨rfl, hZ, hh⟩ := hP
  have e0 : s₁.heap = h0 := by rw [← hh, Bd.state]; rfl
  have g := k p e s m below meth c s₁ Bd.exec Bd.bytes hml0 (findClass_of_methodNamed Bd.named) (name_of_methodNamed Bd.named Bd.method).1 Bd.returns (BodyLoose.notSynchronized Bd) hZ (Stand.of_body Bd) e0
  rw [hef]
  exact g
theorem Go.mono {Q' : Option Value → Heap → List Loc → Prop} {g : JFrame} (k : Go p e below Fn Q' T g) (hq : ∀ v h L, Q' v h L → Q v h L) : Go p e below Fn Q T g := by
  obtain ⟨s2, o, h1, h2, h3, v, L, h4, h5, h6⟩ := k
  exact ⟨s2, o, h1, h2, h3, v, L, h4, hq _ _ _ h5, h6⟩

theorem g_iloadN (X : Stand p l e R s m args below meth c T locs cells slots) (hx : p.tables.exec = Jvm.exec) (q : Nat) {k : Fin 4} {v : Int32} (hd : decode c.code pc = .ok (.iload_n k, 1)) (hl : Ls[k.val]? = some (.val (.int v))) (hq : pc + 1 = q) (k : Go p e below Fn Q T (mkF m q Ls (.int v :: S))) : Go p e below Fn Q T (mkF m pc Ls (S)) := by
  subst hq; exact k.st fun _ z => XS.iloadN X.here hx rfl hd hl z
theorem g_iload (X : Stand p l e R s m args below meth c T locs cells slots) (hx : p.tables.exec = Jvm.exec) (q : Nat) {k : Nat} {v : Int32} (hd : decode c.code pc = .ok (.iload k, 2)) (hl : Ls[k]? = some (.val (.int v))) (hq : pc + 2 = q) (k : Go p e below Fn Q T (mkF m q Ls (.int v :: S))) : Go p e below Fn Q T (mkF m pc Ls (S)) := by
  subst hq; exact k.st fun _ z => XS.iload X.here hx rfl hd hl z
theorem g_istoreN (X : Stand p l e R s m args below meth c T locs cells slots) (hx : p.tables.exec = Jvm.exec) (q : Nat) {k : Fin 4} {v : Int32} (l' : Array Slot) (hd : decode c.code pc = .ok (.istore_n k, 1)) (hl : storeLocals Ls k.val (.int v) = some l') (hq : pc + 1 = q) (k : Go p e below Fn Q T (mkF m q l' (S))) : Go p e below Fn Q T (mkF m pc Ls (.int v :: S)) := by
  subst hq; exact k.st fun _ z => XS.istoreN X.here hx rfl hd rfl hl z
theorem g_istore (X : Stand p l e R s m args below meth c T locs cells slots) (hx : p.tables.exec = Jvm.exec) (q : Nat) {k : Nat} {v : Int32} (l' : Array Slot) (hd : decode c.code pc = .ok (.istore k, 2)) (hl : storeLocals Ls k (.int v) = some l') (hq : pc + 2 = q) (k : Go p e below Fn Q T (mkF m q l' (S))) : Go p e below Fn Q T (mkF m pc Ls (.int v :: S)) := by
  subst hq; exact k.st fun _ z => XS.istore X.here hx rfl hd rfl hl z
theorem g_lloadN (X : Stand p l e R s m args below meth c T locs cells slots) (hx : p.tables.exec = Jvm.exec) (q : Nat) {k : Fin 4} {v : Int64} (hd : decode c.code pc = .ok (.lload_n k, 1)) (hl : Ls[k.val]? = some (.val (.long v))) (hq : pc + 1 = q) (k : Go p e below Fn Q T (mkF m q Ls (.long v :: S))) : Go p e below Fn Q T (mkF m pc Ls (S)) := by
  subst hq; exact k.st fun _ z => XS.lloadN X.here hx rfl hd hl z
theorem g_lload (X : Stand p l e R s m args below meth c T locs cells slots) (hx : p.tables.exec = Jvm.exec) (q : Nat) {k : Nat} {v : Int64} (hd : decode c.code pc = .ok (.lload k, 2)) (hl : Ls[k]? = some (.val (.long v))) (hq : pc + 2 = q) (k : Go p e below Fn Q T (mkF m q Ls (.long v :: S))) : Go p e below Fn Q T (mkF m pc Ls (S)) := by
  subst hq; exact k.st fun _ z => XS.lload X.here hx rfl hd hl z
theorem g_lstoreN (X : Stand p l e R s m args below meth c T locs cells slots) (hx : p.tables.exec = Jvm.exec) (q : Nat) {k : Fin 4} {v : Int64} (l' : Array Slot) (hd : decode c.code pc = .ok (.lstore_n k, 1)) (hl : storeLocals Ls k.val (.long v) = some l') (hq : pc + 1 = q) (k : Go p e below Fn Q T (mkF m q l' (S))) : Go p e below Fn Q T (mkF m pc Ls (.long v :: S)) := by
  subst hq; exact k.st fun _ z => XS.lstoreN X.here hx rfl hd rfl hl z
theorem g_lstore (X : Stand p l e R s m args below meth c T locs cells slots) (hx : p.tables.exec = Jvm.exec) (q : Nat) {k : Nat} {v : Int64} (l' : Array Slot) (hd : decode c.code pc = .ok (.lstore k, 2)) (hl : storeLocals Ls k (.long v) = some l') (hq : pc + 2 = q) (k : Go p e below Fn Q T (mkF m q l' (S))) : Go p e below Fn Q T (mkF m pc Ls (.long v :: S)) := by
  subst hq; exact k.st fun _ z => XS.lstore X.here hx rfl hd rfl hl z
theorem g_aloadN (X : Stand p l e R s m args below meth c T locs cells slots) (hx : p.tables.exec = Jvm.exec) (q : Nat) {k : Fin 4} {v : Value} (hd : decode c.code pc = .ok (.aload_n k, 1)) (hl : Ls[k.val]? = some (.val v)) (hv : v.isRef = true) (hq : pc + 1 = q) (k : Go p e below Fn Q T (mkF m q Ls (v :: S))) : Go p e below Fn Q T (mkF m pc Ls (S)) := by
  subst hq; exact k.st fun _ z => XS.aloadN X.here hx rfl hd hl hv z
theorem g_aload (X : Stand p l e R s m args below meth c T locs cells slots) (hx : p.tables.exec = Jvm.exec) (q : Nat) {k : Nat} {v : Value} (hd : decode c.code pc = .ok (.aload k, 2)) (hl : Ls[k]? = some (.val v)) (hv : v.isRef = true) (hq : pc + 2 = q) (k : Go p e below Fn Q T (mkF m q Ls (v :: S))) : Go p e below Fn Q T (mkF m pc Ls (S)) := by
  subst hq; exact k.st fun _ z => XS.aload X.here hx rfl hd hl hv z
theorem g_astoreN (X : Stand p l e R s m args below meth c T locs cells slots) (hx : p.tables.exec = Jvm.exec) (q : Nat) {k : Fin 4} {v : Value} (l' : Array Slot) (hd : decode c.code pc = .ok (.astore_n k, 1)) (hv : v.isRef = true) (hl : storeLocals Ls k.val v = some l') (hq : pc + 1 = q) (k : Go p e below Fn Q T (mkF m q l' (S))) : Go p e below Fn Q T (mkF m pc Ls (v :: S)) := by
  subst hq; exact k.st fun _ z => XS.astoreN X.here hx rfl hd rfl hv hl z
theorem g_astore (X : Stand p l e R s m args below meth c T locs cells slots) (hx : p.tables.exec = Jvm.exec) (q : Nat) {k : Nat} {v : Value} (l' : Array Slot) (hd : decode c.code pc = .ok (.astore k, 2)) (hv : v.isRef = true) (hl : storeLocals Ls k v = some l') (hq : pc + 2 = q) (k : Go p e below Fn Q T (mkF m q l' (S))) : Go p e below Fn Q T (mkF m pc Ls (v :: S)) := by
  subst hq; exact k.st fun _ z => XS.astore X.here hx rfl hd rfl hv hl z
theorem g_iconst (X : Stand p l e R s m args below meth c T locs cells slots) (hx : p.tables.exec = Jvm.exec) (q : Nat) {i : Int} (v : Int32) (hd : decode c.code pc = .ok (.iconst i, 1)) (hv : Int32.ofInt i = v) (hq : pc + 1 = q) (k : Go p e below Fn Q T (mkF m q Ls (.int v :: S))) : Go p e below Fn Q T (mkF m pc Ls (S)) := by
  subst hq; exact k.st fun _ z => XS.iconst X.here hx rfl hd (hv ▸ z)
theorem g_bipush (X : Stand p l e R s m args below meth c T locs cells slots) (hx : p.tables.exec = Jvm.exec) (q : Nat) {i : Int} (v : Int32) (hd : decode c.code pc = .ok (.bipush i, 2)) (hv : (Int8.ofInt i).toInt32 = v) (hq : pc + 2 = q) (k : Go p e below Fn Q T (mkF m q Ls (.int v :: S))) : Go p e below Fn Q T (mkF m pc Ls (S)) := by
  subst hq; exact k.st fun _ z => XS.bipush X.here hx rfl hd (hv ▸ z)
theorem g_sipush (X : Stand p l e R s m args below meth c T locs cells slots) (hx : p.tables.exec = Jvm.exec) (q : Nat) {i : Int} (v : Int32) (hd : decode c.code pc = .ok (.sipush i, 3)) (hv : (Int16.ofInt i).toInt32 = v) (hq : pc + 3 = q) (k : Go p e below Fn Q T (mkF m q Ls (.int v :: S))) : Go p e below Fn Q T (mkF m pc Ls (S)) := by
  subst hq; exact k.st fun _ z => XS.sipush X.here hx rfl hd (hv ▸ z)
theorem g_lconst (X : Stand p l e R s m args below meth c T locs cells slots) (hx : p.tables.exec = Jvm.exec) (q : Nat) {k : Fin 2} (v : Int64) (hd : decode c.code pc = .ok (.lconst k, 1)) (hv : Int64.ofNat k = v) (hq : pc + 1 = q) (k : Go p e below Fn Q T (mkF m q Ls (.long v :: S))) : Go p e below Fn Q T (mkF m pc Ls (S)) := by
  subst hq; exact k.st fun _ z => XS.lconst X.here hx rfl hd (hv ▸ z)
theorem g_aconst_null (X : Stand p l e R s m args below meth c T locs cells slots) (hx : p.tables.exec = Jvm.exec) (q : Nat)  (hd : decode c.code pc = .ok (.aconst_null, 1))  (hq : pc + 1 = q) (k : Go p e below Fn Q T (mkF m q Ls (.null :: S))) : Go p e below Fn Q T (mkF m pc Ls (S)) := by
  subst hq; exact k.st fun _ z => XS.aconstNull X.here hx rfl hd z
theorem g_iadd (X : Stand p l e R s m args below meth c T locs cells slots) (hx : p.tables.exec = Jvm.exec) (q : Nat) {x y : Int32} (w : Int32) (hd : decode c.code pc = .ok (.iadd, 1)) (hv : x + y = w) (hq : pc + 1 = q) (k : Go p e below Fn Q T (mkF m q Ls (.int w :: S))) : Go p e below Fn Q T (mkF m pc Ls (.int y :: .int x :: S)) := by
  subst hq; exact k.st fun _ z => XS.iadd X.here hx rfl hd rfl (hv ▸ z)
theorem g_isub (X : Stand p l e R s m args below meth c T locs cells slots) (hx : p.tables.exec = Jvm.exec) (q : Nat) {x y : Int32} (w : Int32) (hd : decode c.code pc = .ok (.isub, 1)) (hv : x - y = w) (hq : pc + 1 = q) (k : Go p e below Fn Q T (mkF m q Ls (.int w :: S))) : Go p e below Fn Q T (mkF m pc Ls (.int y :: .int x :: S)) := by
  subst hq; exact k.st fun _ z => XS.isub X.here hx rfl hd rfl (hv ▸ z)
theorem g_imul (X : Stand p l e R s m args below meth c T locs cells slots) (hx : p.tables.exec = Jvm.exec) (q : Nat) {x y : Int32} (w : Int32) (hd : decode c.code pc = .ok (.imul, 1)) (hv : x * y = w) (hq : pc + 1 = q) (k : Go p e below Fn Q T (mkF m q Ls (.int w :: S))) : Go p e below Fn Q T (mkF m pc Ls (.int y :: .int x :: S)) := by
  subst hq; exact k.st fun _ z => XS.imul X.here hx rfl hd rfl (hv ▸ z)
theorem g_iand (X : Stand p l e R s m args below meth c T locs cells slots) (hx : p.tables.exec = Jvm.exec) (q : Nat) {x y : Int32} (w : Int32) (hd : decode c.code pc = .ok (.iand, 1)) (hv : x &&& y = w) (hq : pc + 1 = q) (k : Go p e below Fn Q T (mkF m q Ls (.int w :: S))) : Go p e below Fn Q T (mkF m pc Ls (.int y :: .int x :: S)) := by
  subst hq; exact k.st fun _ z => XS.iand X.here hx rfl hd rfl (hv ▸ z)
theorem g_ior (X : Stand p l e R s m args below meth c T locs cells slots) (hx : p.tables.exec = Jvm.exec) (q : Nat) {x y : Int32} (w : Int32) (hd : decode c.code pc = .ok (.ior, 1)) (hv : x ||| y = w) (hq : pc + 1 = q) (k : Go p e below Fn Q T (mkF m q Ls (.int w :: S))) : Go p e below Fn Q T (mkF m pc Ls (.int y :: .int x :: S)) := by
  subst hq; exact k.st fun _ z => XS.ior X.here hx rfl hd rfl (hv ▸ z)
theorem g_ixor (X : Stand p l e R s m args below meth c T locs cells slots) (hx : p.tables.exec = Jvm.exec) (q : Nat) {x y : Int32} (w : Int32) (hd : decode c.code pc = .ok (.ixor, 1)) (hv : x ^^^ y = w) (hq : pc + 1 = q) (k : Go p e below Fn Q T (mkF m q Ls (.int w :: S))) : Go p e below Fn Q T (mkF m pc Ls (.int y :: .int x :: S)) := by
  subst hq; exact k.st fun _ z => XS.ixor X.here hx rfl hd rfl (hv ▸ z)
theorem g_ishl (X : Stand p l e R s m args below meth c T locs cells slots) (hx : p.tables.exec = Jvm.exec) (q : Nat) {x y : Int32} (w : Int32) (hd : decode c.code pc = .ok (.ishl, 1)) (hv : x <<< (y &&& 31) = w) (hq : pc + 1 = q) (k : Go p e below Fn Q T (mkF m q Ls (.int w :: S))) : Go p e below Fn Q T (mkF m pc Ls (.int y :: .int x :: S)) := by
  subst hq; exact k.st fun _ z => XS.ishl X.here hx rfl hd rfl (hv ▸ z)
theorem g_ishr (X : Stand p l e R s m args below meth c T locs cells slots) (hx : p.tables.exec = Jvm.exec) (q : Nat) {x y : Int32} (w : Int32) (hd : decode c.code pc = .ok (.ishr, 1)) (hv : x >>> (y &&& 31) = w) (hq : pc + 1 = q) (k : Go p e below Fn Q T (mkF m q Ls (.int w :: S))) : Go p e below Fn Q T (mkF m pc Ls (.int y :: .int x :: S)) := by
  subst hq; exact k.st fun _ z => XS.ishr X.here hx rfl hd rfl (hv ▸ z)
theorem g_iushr (X : Stand p l e R s m args below meth c T locs cells slots) (hx : p.tables.exec = Jvm.exec) (q : Nat) {x y : Int32} (w : Int32) (hd : decode c.code pc = .ok (.iushr, 1)) (hv : (x.toUInt32 >>> (y &&& 31).toUInt32).toInt32 = w) (hq : pc + 1 = q) (k : Go p e below Fn Q T (mkF m q Ls (.int w :: S))) : Go p e below Fn Q T (mkF m pc Ls (.int y :: .int x :: S)) := by
  subst hq; exact k.st fun _ z => XS.iushr X.here hx rfl hd rfl (hv ▸ z)
theorem g_ladd (X : Stand p l e R s m args below meth c T locs cells slots) (hx : p.tables.exec = Jvm.exec) (q : Nat) {x y : Int64} (w : Int64) (hd : decode c.code pc = .ok (.ladd, 1)) (hv : x + y = w) (hq : pc + 1 = q) (k : Go p e below Fn Q T (mkF m q Ls (.long w :: S))) : Go p e below Fn Q T (mkF m pc Ls (.long y :: .long x :: S)) := by
  subst hq; exact k.st fun _ z => XS.ladd X.here hx rfl hd rfl (hv ▸ z)
theorem g_lsub (X : Stand p l e R s m args below meth c T locs cells slots) (hx : p.tables.exec = Jvm.exec) (q : Nat) {x y : Int64} (w : Int64) (hd : decode c.code pc = .ok (.lsub, 1)) (hv : x - y = w) (hq : pc + 1 = q) (k : Go p e below Fn Q T (mkF m q Ls (.long w :: S))) : Go p e below Fn Q T (mkF m pc Ls (.long y :: .long x :: S)) := by
  subst hq; exact k.st fun _ z => XS.lsub X.here hx rfl hd rfl (hv ▸ z)
theorem g_lmul (X : Stand p l e R s m args below meth c T locs cells slots) (hx : p.tables.exec = Jvm.exec) (q : Nat) {x y : Int64} (w : Int64) (hd : decode c.code pc = .ok (.lmul, 1)) (hv : x * y = w) (hq : pc + 1 = q) (k : Go p e below Fn Q T (mkF m q Ls (.long w :: S))) : Go p e below Fn Q T (mkF m pc Ls (.long y :: .long x :: S)) := by
  subst hq; exact k.st fun _ z => XS.lmul X.here hx rfl hd rfl (hv ▸ z)
theorem g_land (X : Stand p l e R s m args below meth c T locs cells slots) (hx : p.tables.exec = Jvm.exec) (q : Nat) {x y : Int64} (w : Int64) (hd : decode c.code pc = .ok (.land, 1)) (hv : x &&& y = w) (hq : pc + 1 = q) (k : Go p e below Fn Q T (mkF m q Ls (.long w :: S))) : Go p e below Fn Q T (mkF m pc Ls (.long y :: .long x :: S)) := by
  subst hq; exact k.st fun _ z => XS.land X.here hx rfl hd rfl (hv ▸ z)
theorem g_lor (X : Stand p l e R s m args below meth c T locs cells slots) (hx : p.tables.exec = Jvm.exec) (q : Nat) {x y : Int64} (w : Int64) (hd : decode c.code pc = .ok (.lor, 1)) (hv : x ||| y = w) (hq : pc + 1 = q) (k : Go p e below Fn Q T (mkF m q Ls (.long w :: S))) : Go p e below Fn Q T (mkF m pc Ls (.long y :: .long x :: S)) := by
  subst hq; exact k.st fun _ z => XS.lor X.here hx rfl hd rfl (hv ▸ z)
theorem g_lxor (X : Stand p l e R s m args below meth c T locs cells slots) (hx : p.tables.exec = Jvm.exec) (q : Nat) {x y : Int64} (w : Int64) (hd : decode c.code pc = .ok (.lxor, 1)) (hv : x ^^^ y = w) (hq : pc + 1 = q) (k : Go p e below Fn Q T (mkF m q Ls (.long w :: S))) : Go p e below Fn Q T (mkF m pc Ls (.long y :: .long x :: S)) := by
  subst hq; exact k.st fun _ z => XS.lxor X.here hx rfl hd rfl (hv ▸ z)
theorem g_lshl (X : Stand p l e R s m args below meth c T locs cells slots) (hx : p.tables.exec = Jvm.exec) (q : Nat) {x : Int64} {y : Int32} (w : Int64) (hd : decode c.code pc = .ok (.lshl, 1)) (hv : x <<< (y &&& 0x3f).toInt64 = w) (hq : pc + 1 = q) (k : Go p e below Fn Q T (mkF m q Ls (.long w :: S))) : Go p e below Fn Q T (mkF m pc Ls (.int y :: .long x :: S)) := by
  subst hq; exact k.st fun _ z => XS.lshl X.here hx rfl hd rfl (hv ▸ z)
theorem g_lshr (X : Stand p l e R s m args below meth c T locs cells slots) (hx : p.tables.exec = Jvm.exec) (q : Nat) {x : Int64} {y : Int32} (w : Int64) (hd : decode c.code pc = .ok (.lshr, 1)) (hv : x >>> (y &&& 0x3f).toInt64 = w) (hq : pc + 1 = q) (k : Go p e below Fn Q T (mkF m q Ls (.long w :: S))) : Go p e below Fn Q T (mkF m pc Ls (.int y :: .long x :: S)) := by
  subst hq; exact k.st fun _ z => XS.lshr X.here hx rfl hd rfl (hv ▸ z)
theorem g_lushr (X : Stand p l e R s m args below meth c T locs cells slots) (hx : p.tables.exec = Jvm.exec) (q : Nat) {x : Int64} {y : Int32} (w : Int64) (hd : decode c.code pc = .ok (.lushr, 1)) (hv : (x.toUInt64 >>> (y &&& 0x3f).toInt64.toUInt64).toInt64 = w) (hq : pc + 1 = q) (k : Go p e below Fn Q T (mkF m q Ls (.long w :: S))) : Go p e below Fn Q T (mkF m pc Ls (.int y :: .long x :: S)) := by
  subst hq; exact k.st fun _ z => XS.lushr X.here hx rfl hd rfl (hv ▸ z)
theorem g_lcmp (X : Stand p l e R s m args below meth c T locs cells slots) (hx : p.tables.exec = Jvm.exec) (q : Nat) {x y : Int64} (hd : decode c.code pc = .ok (.lcmp, 1))  (hq : pc + 1 = q) (k : Go p e below Fn Q T (mkF m q Ls (.int (lcmpW x y) :: S))) : Go p e below Fn Q T (mkF m pc Ls (.long y :: .long x :: S)) := by
  subst hq; exact k.st fun _ z => XS.lcmp X.here hx rfl hd rfl z
theorem g_idiv (X : Stand p l e R s m args below meth c T locs cells slots) (hx : p.tables.exec = Jvm.exec) (q : Nat) {x y : Int32} (w : Int32) (hd : decode c.code pc = .ok (.idiv, 1)) (hy : y ≠ 0) (hv : x / y = w) (hq : pc + 1 = q) (k : Go p e below Fn Q T (mkF m q Ls (.int w :: S))) : Go p e below Fn Q T (mkF m pc Ls (.int y :: .int x :: S)) := by
  subst hq; exact k.st fun _ z => XS.idiv X.here hx rfl hd rfl hy (hv ▸ z)
theorem g_irem (X : Stand p l e R s m args below meth c T locs cells slots) (hx : p.tables.exec = Jvm.exec) (q : Nat) {x y : Int32} (w : Int32) (hd : decode c.code pc = .ok (.irem, 1)) (hy : y ≠ 0) (hv : x % y = w) (hq : pc + 1 = q) (k : Go p e below Fn Q T (mkF m q Ls (.int w :: S))) : Go p e below Fn Q T (mkF m pc Ls (.int y :: .int x :: S)) := by
  subst hq; exact k.st fun _ z => iremM X hx rfl hd rfl hy (hv ▸ z)
theorem g_ldiv (X : Stand p l e R s m args below meth c T locs cells slots) (hx : p.tables.exec = Jvm.exec) (q : Nat) {x y : Int64} (w : Int64) (hd : decode c.code pc = .ok (.ldiv, 1)) (hy : y ≠ 0) (hv : x / y = w) (hq : pc + 1 = q) (k : Go p e below Fn Q T (mkF m q Ls (.long w :: S))) : Go p e below Fn Q T (mkF m pc Ls (.long y :: .long x :: S)) := by
  subst hq; exact k.st fun _ z => XS.ldiv X.here hx rfl hd rfl hy (hv ▸ z)
theorem g_ineg (X : Stand p l e R s m args below meth c T locs cells slots) (hx : p.tables.exec = Jvm.exec) (q : Nat) {x : Int32} (w : Int32) (hd : decode c.code pc = .ok (.ineg, 1)) (hv : -x = w) (hq : pc + 1 = q) (k : Go p e below Fn Q T (mkF m q Ls (.int w :: S))) : Go p e below Fn Q T (mkF m pc Ls (.int x :: S)) := by
  subst hq; exact k.st fun _ z => XS.ineg X.here hx rfl hd rfl (hv ▸ z)
theorem g_lneg (X : Stand p l e R s m args below meth c T locs cells slots) (hx : p.tables.exec = Jvm.exec) (q : Nat) {x : Int64} (w : Int64) (hd : decode c.code pc = .ok (.lneg, 1)) (hv : -x = w) (hq : pc + 1 = q) (k : Go p e below Fn Q T (mkF m q Ls (.long w :: S))) : Go p e below Fn Q T (mkF m pc Ls (.long x :: S)) := by
  subst hq; exact k.st fun _ z => XS.lneg X.here hx rfl hd rfl (hv ▸ z)
theorem g_i2l (X : Stand p l e R s m args below meth c T locs cells slots) (hx : p.tables.exec = Jvm.exec) (q : Nat) {x : Int32} (w : Int64) (hd : decode c.code pc = .ok (.i2l, 1)) (hv : x.toInt64 = w) (hq : pc + 1 = q) (k : Go p e below Fn Q T (mkF m q Ls (.long w :: S))) : Go p e below Fn Q T (mkF m pc Ls (.int x :: S)) := by
  subst hq; exact k.st fun _ z => XS.i2l X.here hx rfl hd rfl (hv ▸ z)
theorem g_l2i (X : Stand p l e R s m args below meth c T locs cells slots) (hx : p.tables.exec = Jvm.exec) (q : Nat) {x : Int64} (w : Int32) (hd : decode c.code pc = .ok (.l2i, 1)) (hv : x.toInt32 = w) (hq : pc + 1 = q) (k : Go p e below Fn Q T (mkF m q Ls (.int w :: S))) : Go p e below Fn Q T (mkF m pc Ls (.long x :: S)) := by
  subst hq; exact k.st fun _ z => XS.l2i X.here hx rfl hd rfl (hv ▸ z)
theorem g_i2c (X : Stand p l e R s m args below meth c T locs cells slots) (hx : p.tables.exec = Jvm.exec) (q : Nat) {x : Int32} (w : Int32) (hd : decode c.code pc = .ok (.i2c, 1)) (hv : x.toUInt32.toUInt16.toUInt32.toInt32 = w) (hq : pc + 1 = q) (k : Go p e below Fn Q T (mkF m q Ls (.int w :: S))) : Go p e below Fn Q T (mkF m pc Ls (.int x :: S)) := by
  subst hq; exact k.st fun _ z => XS.i2c X.here hx rfl hd rfl (hv ▸ z)
theorem g_i2b (X : Stand p l e R s m args below meth c T locs cells slots) (hx : p.tables.exec = Jvm.exec) (q : Nat) {x : Int32} (w : Int32) (hd : decode c.code pc = .ok (.i2b, 1)) (hv : x.toInt8.toInt32 = w) (hq : pc + 1 = q) (k : Go p e below Fn Q T (mkF m q Ls (.int w :: S))) : Go p e below Fn Q T (mkF m pc Ls (.int x :: S)) := by
  subst hq; exact k.st fun _ z => XS.i2b X.here hx rfl hd rfl (hv ▸ z)
theorem g_i2s (X : Stand p l e R s m args below meth c T locs cells slots) (hx : p.tables.exec = Jvm.exec) (q : Nat) {x : Int32} (w : Int32) (hd : decode c.code pc = .ok (.i2s, 1)) (hv : x.toInt16.toInt32 = w) (hq : pc + 1 = q) (k : Go p e below Fn Q T (mkF m q Ls (.int w :: S))) : Go p e below Fn Q T (mkF m pc Ls (.int x :: S)) := by
  subst hq; exact k.st fun _ z => XS.i2s X.here hx rfl hd rfl (hv ▸ z)
theorem g_dup (X : Stand p l e R s m args below meth c T locs cells slots) (hx : p.tables.exec = Jvm.exec) (q : Nat) {v : Value} (hd : decode c.code pc = .ok (.dup, 1)) (hc : v.category = 1) (hq : pc + 1 = q) (k : Go p e below Fn Q T (mkF m q Ls (v :: v :: S))) : Go p e below Fn Q T (mkF m pc Ls (v :: S)) := by
  subst hq; exact k.st fun _ z => XS.dup X.here hx rfl hd rfl hc z
theorem g_pop (X : Stand p l e R s m args below meth c T locs cells slots) (hx : p.tables.exec = Jvm.exec) (q : Nat) {v : Value} (hd : decode c.code pc = .ok (.pop, 1)) (hc : v.category = 1) (hq : pc + 1 = q) (k : Go p e below Fn Q T (mkF m q Ls (S))) : Go p e below Fn Q T (mkF m pc Ls (v :: S)) := by
  subst hq; exact k.st fun _ z => XS.pop X.here hx rfl hd rfl hc z
theorem g_dup_x1 (X : Stand p l e R s m args below meth c T locs cells slots) (hx : p.tables.exec = Jvm.exec) (q : Nat) {v w : Value} (hd : decode c.code pc = .ok (.dup_x1, 1)) (hc : v.category = 1) (hc' : w.category = 1) (hq : pc + 1 = q) (k : Go p e below Fn Q T (mkF m q Ls (v :: w :: v :: S))) : Go p e below Fn Q T (mkF m pc Ls (v :: w :: S)) := by
  subst hq; exact k.st fun _ z => XS.dupX1 X.here hx rfl hd rfl hc hc' z
theorem g_dup2L (X : Stand p l e R s m args below meth c T locs cells slots) (hx : p.tables.exec = Jvm.exec) (q : Nat) {x : Int64} (hd : decode c.code pc = .ok (.dup2, 1))  (hq : pc + 1 = q) (k : Go p e below Fn Q T (mkF m q Ls (.long x :: .long x :: S))) : Go p e below Fn Q T (mkF m pc Ls (.long x :: S)) := by
  subst hq; exact k.st fun _ z => Jvm.Free.XT.dup2L X.here hx rfl hd rfl z
theorem g_dup2 (X : Stand p l e R s m args below meth c T locs cells slots) (hx : p.tables.exec = Jvm.exec) (q : Nat) {v w : Value} (hd : decode c.code pc = .ok (.dup2, 1)) (hc : v.category = 1) (hc' : w.category = 1) (hq : pc + 1 = q) (k : Go p e below Fn Q T (mkF m q Ls (v :: w :: v :: w :: S))) : Go p e below Fn Q T (mkF m pc Ls (v :: w :: S)) := by
  subst hq; exact k.st fun _ z => Jvm.Free.XT.dup2 X.here hx rfl hd rfl hc hc' z
theorem g_iinc (X : Stand p l e R s m args below meth c T locs cells slots) (hx : p.tables.exec = Jvm.exec) (q : Nat) {k : Nat} {cst : Int} {x : Int32} (w : Int32) (l' : Array Slot) (hd : decode c.code pc = .ok (.iinc k cst, 3)) (hl : Ls[k]? = some (.val (.int x))) (hv : x + Int32.ofInt cst = w) (hl' : storeLocals Ls k (.int w) = some l') (hq : pc + 3 = q) (k : Go p e below Fn Q T (mkF m q l' (S))) : Go p e below Fn Q T (mkF m pc Ls (S)) := by
  subst hq; exact k.st fun _ z => XS.iinc X.here hx rfl hd hl (hv ▸ hl') z
theorem g_ldcI (X : Stand p l e R s m args below meth c T locs cells slots) (hx : p.tables.exec = Jvm.exec) (q : Nat) (hZ : Z.Warmed39 s.vm) {own : String} {index : Nat} {v : Int32} (hown : s.vm.findClass own = some m.cls) (w1 : (Jvm.Cond.constant own index v).before a0 Z = true) (hd : decode c.code pc = .ok (.ldc index, 2))  (hq : pc + 2 = q) (k : Go p e below Fn Q T (mkF m q Ls (.int v :: S))) : Go p e below Fn Q T (mkF m pc Ls (S)) := by
  subst hq; exact k.st fun _ z => X.ldcInt hx hown (mvT hZ w1) (g := mkF m pc Ls S) rfl hd _ z
theorem g_ldc2J (X : Stand p l e R s m args below meth c T locs cells slots) (hx : p.tables.exec = Jvm.exec) (q : Nat) (hZ : Z.Warmed39 s.vm) {own : String} {index : Nat} {v : Int64} (hown : s.vm.findClass own = some m.cls) (w1 : (Jvm.Cond.constantLong own index v).before a0 Z = true) (hd : decode c.code pc = .ok (.ldc2_w index, 3))  (hq : pc + 3 = q) (k : Go p e below Fn Q T (mkF m q Ls (.long v :: S))) : Go p e below Fn Q T (mkF m pc Ls (S)) := by
  subst hq; exact k.st fun _ z => X.ldc2Long hx hown (mvT hZ w1) (g := mkF m pc Ls S) rfl hd _ z
theorem g_goto (X : Stand p l e R s m args below meth c T locs cells slots) (hx : p.tables.exec = Jvm.exec) (q : Nat)  {o : Int} (hd : decode c.code pc = .ok (.goto o, 3))  (ho : 0 ≤ (pc : Int) + o) (hp : ((pc : Int) + o).toNat = q) (k : Go p e below Fn Q T (mkF m q Ls S)) : Go p e below Fn Q T (mkF m pc Ls (S)) := k.st fun _ z => XS.goto X.here hx rfl rfl hd ho hp z
theorem g_ifT (X : Stand p l e R s m args below meth c T locs cells slots) (hx : p.tables.exec = Jvm.exec) (q : Nat) {cd : ClassFile.Cond} {x : Int32} {o : Int} (hd : decode c.code pc = .ok (.ifCond cd o, 3)) (hc : ifCond.holds cd x = true) (ho : 0 ≤ (pc : Int) + o) (hp : ((pc : Int) + o).toNat = q) (k : Go p e below Fn Q T (mkF m q Ls S)) : Go p e below Fn Q T (mkF m pc Ls (.int x :: S)) := k.st fun _ z => XS.ifYes X.here hx rfl rfl hd rfl hc ho hp z
theorem g_ifF (X : Stand p l e R s m args below meth c T locs cells slots) (hx : p.tables.exec = Jvm.exec) (q : Nat) {cd : ClassFile.Cond} {x : Int32} {o : Int} (hd : decode c.code pc = .ok (.ifCond cd o, 3)) (hc : ifCond.holds cd x = false) (hq : pc + 3 = q) (k : Go p e below Fn Q T (mkF m q Ls S)) : Go p e below Fn Q T (mkF m pc Ls (.int x :: S)) := by
  subst hq; exact k.st fun _ z => XS.ifNo X.here hx rfl hd rfl hc z
theorem g_icT (X : Stand p l e R s m args below meth c T locs cells slots) (hx : p.tables.exec = Jvm.exec) (q : Nat) {cd : ClassFile.Cond} {x y : Int32} {o : Int} (hd : decode c.code pc = .ok (.if_icmp cd o, 3)) (hc : if_icmp.holds cd x y = true) (ho : 0 ≤ (pc : Int) + o) (hp : ((pc : Int) + o).toNat = q) (k : Go p e below Fn Q T (mkF m q Ls S)) : Go p e below Fn Q T (mkF m pc Ls (.int y :: .int x :: S)) := k.st fun _ z => XS.icmpYes X.here hx rfl rfl hd rfl hc ho hp z
theorem g_icF (X : Stand p l e R s m args below meth c T locs cells slots) (hx : p.tables.exec = Jvm.exec) (q : Nat) {cd : ClassFile.Cond} {x y : Int32} {o : Int} (hd : decode c.code pc = .ok (.if_icmp cd o, 3)) (hc : if_icmp.holds cd x y = false) (hq : pc + 3 = q) (k : Go p e below Fn Q T (mkF m q Ls S)) : Go p e below Fn Q T (mkF m pc Ls (.int y :: .int x :: S)) := by
  subst hq; exact k.st fun _ z => XS.icmpNo X.here hx rfl hd rfl hc z
theorem g_ifnullT (X : Stand p l e R s m args below meth c T locs cells slots) (hx : p.tables.exec = Jvm.exec) (q : Nat)  {o : Int} (hd : decode c.code pc = .ok (.ifnull o, 3))  (ho : 0 ≤ (pc : Int) + o) (hp : ((pc : Int) + o).toNat = q) (k : Go p e below Fn Q T (mkF m q Ls S)) : Go p e below Fn Q T (mkF m pc Ls (.null :: S)) := k.st fun _ z => XS.ifnullYes X.here hx rfl rfl hd rfl ho hp z
theorem g_ifnullF (X : Stand p l e R s m args below meth c T locs cells slots) (hx : p.tables.exec = Jvm.exec) (q : Nat) {b : Addr} {o : Int} (hd : decode c.code pc = .ok (.ifnull o, 3))  (hq : pc + 3 = q) (k : Go p e below Fn Q T (mkF m q Ls S)) : Go p e below Fn Q T (mkF m pc Ls (.ref b :: S)) := by
  subst hq; exact k.st fun _ z => XS.ifnullNo X.here hx rfl hd rfl z
theorem g_ifnonnullT (X : Stand p l e R s m args below meth c T locs cells slots) (hx : p.tables.exec = Jvm.exec) (q : Nat) {b : Addr} {o : Int} (hd : decode c.code pc = .ok (.ifnonnull o, 3))  (ho : 0 ≤ (pc : Int) + o) (hp : ((pc : Int) + o).toNat = q) (k : Go p e below Fn Q T (mkF m q Ls S)) : Go p e below Fn Q T (mkF m pc Ls (.ref b :: S)) := k.st fun _ z => XS.ifnonnullYes X.here hx rfl rfl hd rfl ho hp z
theorem g_ifnonnullF (X : Stand p l e R s m args below meth c T locs cells slots) (hx : p.tables.exec = Jvm.exec) (q : Nat)  {o : Int} (hd : decode c.code pc = .ok (.ifnonnull o, 3))  (hq : pc + 3 = q) (k : Go p e below Fn Q T (mkF m q Ls S)) : Go p e below Fn Q T (mkF m pc Ls (.null :: S)) := by
  subst hq; exact k.st fun _ z => XS.ifnonnullNo X.here hx rfl hd rfl z
theorem g_ac (X : Stand p l e R s m args below meth c T locs cells slots) (hx : p.tables.exec = Jvm.exec) (q : Nat) {cd : ACond} {v w : Value} {o : Int} (same : Bool) (hd : decode c.code pc = .ok (.if_acmp cd o, 3)) (h1 : v.isRef = true) (h2 : w.isRef = true) (hs : decide (v = w) = same) (ho : 0 ≤ (pc : Int) + o) (hp : q = if acV cd same = true then ((pc : Int) + o).toNat else pc + 3) (k : Go p e below Fn Q T (mkF m q Ls S)) : Go p e below Fn Q T (mkF m pc Ls (w :: v :: S)) := k.st fun _ z => Jvm.RoadKit.acmp X hx rfl h1 h2 rfl hd rfl hs ho hp z
theorem own_ltL {x y : Int64} (h : x < y) : ifCond.holds .lt (lcmpW x y) = true ∧ ifCond.holds .ge (lcmpW x y) = false ∧ ifCond.holds .gt (lcmpW y x) = true ∧ ifCond.holds .le (lcmpW y x) = false := by
  have h1 := (lw_lt x y).mpr h
  have h2 := (lw_gt y x).mpr h
  exact ⟨(if0 _ _).trans (tlt h1).1, (if0 _ _).trans (tlt h1).2.1, (if0 _ _).trans (tlt h2).2.2.1, (if0 _ _).trans (tlt h2).2.2.2⟩
theorem own_nltL {x y : Int64} (h : ¬ x < y) : ifCond.holds .lt (lcmpW x y) = false ∧ ifCond.holds .ge (lcmpW x y) = true ∧ ifCond.holds .gt (lcmpW y x) = false ∧ ifCond.holds .le (lcmpW y x) = true := by
  have h1 : ¬ lcmpW x y < 0 := fun q => h ((lw_lt x y).mp q)
  have h2 : ¬ 0 < lcmpW y x := fun q => h ((lw_gt y x).mp q)
  exact ⟨(if0 _ _).trans (flt h1).1, (if0 _ _).trans (flt h1).2.1, (if0 _ _).trans (flt h2).2.2.1, (if0 _ _).trans (flt h2).2.2.2⟩
theorem own_eqL {x y : Int64} (h : x = y) : ifCond.holds .eq (lcmpW x y) = true ∧ ifCond.holds .ne (lcmpW x y) = false := by
  have h1 := (lw_eq x y).mpr h
  exact ⟨(if0 _ _).trans (teq h1).1, (if0 _ _).trans (teq h1).2⟩
theorem own_neL {x y : Int64} (h : ¬ x = y) : ifCond.holds .eq (lcmpW x y) = false ∧ ifCond.holds .ne (lcmpW x y) = true := by
  have h1 : ¬ lcmpW x y = 0 := fun q => h ((lw_eq x y).mp q)
  exact ⟨(if0 _ _).trans (feq h1).1, (if0 _ _).trans (feq h1).2⟩
theorem g_ret (X : Stand p l e R s m args below meth c T locs cells slots) (hx : p.tables.exec = Jvm.exec) {t : FieldType} {i : Instr} {w : Value} (hret : meth.sig.returnType = some t) (hlk : meth.locks = false) (hn : narrow t w = w) (hi : (i = .ireturn ∧ (t = .int ∨ t = .boolean ∨ t = .byte ∨ t = .char ∨ t = .short) ∧ ∃ z, w = .int z) ∨ (i = .lreturn ∧ t = .long ∧ ∃ z, w = .long z) ∨ (i = .dreturn ∧ t = .double ∧ ∃ z, w = .double z) ∨ (i = .freturn ∧ t = .float ∧ ∃ z, w = .float z) ∨ (i = .areturn ∧ t.isReference = true ∧ w.isRef = true)) (hd : decode c.code pc = .ok (i, 1)) (hc : cells ≤ K) (hs : slots ≤ J) (hq : Q (some w) T.heap locs) : Go p e below (fun o t L => FrameEnd s o t L K J) Q T (mkF m pc Ls (w :: S)) := by
  obtain ⟨fs, hr, hrun, hended, hW, hsame⟩ := X.leave (v := some w) (fun h => by rw [hret] at h; cases h) hlk
  exact ⟨_, _, retOut X hx hret hn hi hd hr, hrun, hended, _, _, rfl, hq, ⟨_, rfl⟩, hW, hsame.mono hc hs⟩
theorem g_retI (X : Stand p l e R s m args below meth c T locs cells slots) (hx : p.tables.exec = Jvm.exec) {z : Int32} (hret : meth.sig.returnType = some .int) (hlk : meth.locks = false) (hd : decode c.code pc = .ok (.ireturn, 1)) (hc : cells ≤ K) (hs : slots ≤ J) (hq : Q (some (.int z)) T.heap locs) : Go p e below (fun o t L => FrameEnd s o t L K J) Q T (mkF m pc Ls (.int z :: S)) := g_ret X hx hret hlk rfl (Or.inl ⟨rfl, Or.inl rfl, _, rfl⟩) hd hc hs hq
theorem g_retZ (X : Stand p l e R s m args below meth c T locs cells slots) (hx : p.tables.exec = Jvm.exec) {z : Int32} (hret : meth.sig.returnType = some .boolean) (hlk : meth.locks = false) (hn : narrow .boolean (.int z) = .int z) (hd : decode c.code pc = .ok (.ireturn, 1)) (hc : cells ≤ K) (hs : slots ≤ J) (hq : Q (some (.int z)) T.heap locs) : Go p e below (fun o t L => FrameEnd s o t L K J) Q T (mkF m pc Ls (.int z :: S)) := g_ret X hx hret hlk hn (Or.inl ⟨rfl, Or.inr (Or.inl rfl), _, rfl⟩) hd hc hs hq
theorem g_retC (X : Stand p l e R s m args below meth c T locs cells slots) (hx : p.tables.exec = Jvm.exec) {z : Int32} (hret : meth.sig.returnType = some .char) (hlk : meth.locks = false) (hn : narrow .char (.int z) = .int z) (hd : decode c.code pc = .ok (.ireturn, 1)) (hc : cells ≤ K) (hs : slots ≤ J) (hq : Q (some (.int z)) T.heap locs) : Go p e below (fun o t L => FrameEnd s o t L K J) Q T (mkF m pc Ls (.int z :: S)) := g_ret X hx hret hlk hn (Or.inl ⟨rfl, Or.inr (Or.inr (Or.inr (Or.inl rfl))), _, rfl⟩) hd hc hs hq
theorem g_retB (X : Stand p l e R s m args below meth c T locs cells slots) (hx : p.tables.exec = Jvm.exec) {z : Int32} (hret : meth.sig.returnType = some .byte) (hlk : meth.locks = false) (hn : narrow .byte (.int z) = .int z) (hd : decode c.code pc = .ok (.ireturn, 1)) (hc : cells ≤ K) (hs : slots ≤ J) (hq : Q (some (.int z)) T.heap locs) : Go p e below (fun o t L => FrameEnd s o t L K J) Q T (mkF m pc Ls (.int z :: S)) := g_ret X hx hret hlk hn (Or.inl ⟨rfl, Or.inr (Or.inr (Or.inl rfl)), _, rfl⟩) hd hc hs hq
theorem g_retJ (X : Stand p l e R s m args below meth c T locs cells slots) (hx : p.tables.exec = Jvm.exec) {z : Int64} (hret : meth.sig.returnType = some .long) (hlk : meth.locks = false) (hd : decode c.code pc = .ok (.lreturn, 1)) (hc : cells ≤ K) (hs : slots ≤ J) (hq : Q (some (.long z)) T.heap locs) : Go p e below (fun o t L => FrameEnd s o t L K J) Q T (mkF m pc Ls (.long z :: S)) := g_ret X hx hret hlk rfl (Or.inr (Or.inl ⟨rfl, rfl, _, rfl⟩)) hd hc hs hq
theorem g_retA (X : Stand p l e R s m args below meth c T locs cells slots) (hx : p.tables.exec = Jvm.exec) {t : FieldType} {w : Value} (hret : meth.sig.returnType = some t) (hlk : meth.locks = false) (hr : t.isReference = true) (hw : w.isRef = true) (hn : narrow t w = w) (hd : decode c.code pc = .ok (.areturn, 1)) (hc : cells ≤ K) (hs : slots ≤ J) (hq : Q (some w) T.heap locs) : Go p e below (fun o t L => FrameEnd s o t L K J) Q T (mkF m pc Ls (w :: S)) := g_ret X hx hret hlk hn (Or.inr (Or.inr (Or.inr (Or.inr ⟨rfl, hr, hw⟩)))) hd hc hs hq
theorem g_retV (X : Stand p l e R s m args below meth c T locs cells slots) (hx : p.tables.exec = Jvm.exec) (hret : meth.sig.returnType = none) (hlk : meth.locks = false) (hd : decode c.code pc = .ok (.return_, 1)) (hc : cells ≤ K) (hs : slots ≤ J) (hq : Q none T.heap locs) : Go p e below (fun o t L => FrameEnd s o t L K J) Q T (mkF m pc Ls []) := by
  obtain ⟨fs, hr, hrun, hended, hW, hsame⟩ := X.leave (v := none) (fun _ => rfl) hlk
  exact ⟨_, _, X.returnOut hx hret hd hr, hrun, hended, _, _, rfl, hq, ⟨_, rfl⟩, hW, hsame.mono hc hs⟩
theorem g_getF (X : Stand p l e R s m args below meth c T locs cells slots) (hx : p.tables.exec = Jvm.exec) (q : Nat) (hZ : Z.Warmed39 s.vm) {own R0 O n d host : String} {index : Nat} (hown : s.vm.findClass own = some m.cls) (w1 : (Jvm.Cond.fieldLink own index R0 n d).before a0 Z = true ∨ (Jvm.Cond.fieldLinkNest own index R0 n d host).before a0 Z = true) (via : Via Z R0 O n d) (eT : T.heap = h) {a : Addr} {v : Value} (F : Fld Z h a O n d v) (hd : decode c.code pc = .ok (.getfield index, 3)) (hq : pc + 3 = q)
    (k : ∀ T', Stand p l e R s m args below meth c T' locs cells slots → T'.heap = h → Go p e below Fn Q T' (mkF m q Ls (v :: S))) : Go p e below Fn Q T (mkF m pc Ls (.ref a :: S)) := by
  obtain ⟨T', X', e', st⟩ := getF X hx hZ hown w1 via eT F (g := mkF m pc Ls (.ref a :: S)) rfl rfl hd
  subst hq; exact (k T' X' e').st st
theorem g_putF (X : Stand p l e R s m args below meth c T locs cells slots) (hx : p.tables.exec = Jvm.exec) (q : Nat) (hZ : Z.Warmed39 s.vm) {own R0 O n d host C : String} {index kk : Nat} {ty : FieldType} (hown : s.vm.findClass own = some m.cls) (w1 : (Jvm.Cond.fieldLink own index R0 n d).before a0 Z = true ∨ (Jvm.Cond.fieldLinkNest own index R0 n d host).before a0 Z = true) (via : Via Z R0 O n d) (eT : T.heap = h) {a : Addr} {v old : Value} (F : Fld Z h a O n d old) (E : Exa Z h a C)
    (L : (Jvm.Cond.lays C O n d).before a0 Z = true ∨ ((Jvm.Cond.laysFinal C O n d).before a0 Z = true ∧ own = O ∧ meth.name = "<init>")) (wi : (Jvm.Cond.instantiable C kk).before a0 Z = true) (hty : parseFieldDescriptor d = some ty) (hn : narrow ty v = v) (hf : fits ty v = true) (hd : decode c.code pc = .ok (.putfield index, 3)) (hq : pc + 3 = q)
    (k : ∀ T' h', Stand p l e R s m args below meth c T' (locs ++ [⟨a, Jvm.RoadKit.slotOf Z O n d⟩]) cells slots → T'.heap = h' → Wr h h' a (Jvm.RoadKit.slotOf Z O n d) v → Go p e below Fn Q T' (mkF m q Ls S)) : Go p e below Fn Q T (mkF m pc Ls (v :: .ref a :: S)) := by
  obtain ⟨T', h', X', e', W', st⟩ := putF X hx hZ hown w1 via eT F E L wi hty hn hf (g := mkF m pc Ls (v :: .ref a :: S)) rfl rfl hd
  subst hq; exact (k T' h' X' e' W').st st
theorem g_getS (X : Stand p l e R s m args below meth c T locs cells slots) (hx : p.tables.exec = Jvm.exec) (q : Nat) (hZ : Z.Warmed39 s.vm) {own R0 O n d host : String} {index : Nat} (hown : s.vm.findClass own = some m.cls) (w1 : (Jvm.Cond.fieldLink own index R0 n d).before a0 Z = true ∨ (Jvm.Cond.fieldLinkNest own index R0 n d host).before a0 Z = true) (via : Via Z R0 O n d) (eT : T.heap = h) {v : Value} (F : Sta Z h O n d v) (hd : decode c.code pc = .ok (.getstatic index, 3)) (hq : pc + 3 = q)
    (k : ∀ T', Stand p l e R s m args below meth c T' locs cells slots → T'.heap = h → Go p e below Fn Q T' (mkF m q Ls (v :: S))) : Go p e below Fn Q T (mkF m pc Ls S) := by
  obtain ⟨T', X', e', st⟩ := getS2 X hx hZ hown w1 via eT F (g := mkF m pc Ls S) rfl hd
  subst hq; exact (k T' X' e').st st
theorem g_new (X : Stand p l e R s m args below meth c T locs cells slots) (hx : p.tables.exec = Jvm.exec) (q : Nat) (hZ : Z.Warmed39 s.vm) {own C : String} {index n : Nat} (hown : s.vm.findClass own = some m.cls) (w1 : (Jvm.Cond.classLink own index C).before a0 Z = true) (wi : (Jvm.Cond.instantiable C n).before a0 Z = true) (wz : (Jvm.Cond.initialized C).before a0 Z = true) (eT : T.heap = h) (hd : decode c.code pc = .ok (.new index, 3)) (hc : cells + 1 ≤ R.cells) (hl : slots + n ≤ R.slots) (hq : pc + 3 = q)
    (k : ∀ T' h' b, b = h.size → Stand p l e R s m args below meth c T' locs (cells + 1) (slots + n) → T'.heap = h' → Ext h h' → Exa Z h' b C → (∀ {O nm d : String} {ty : FieldType}, Laid Z a0 C O nm d → parseFieldDescriptor d = some ty → Fld Z h' b O nm d (defaultValue ty)) → Go p e below Fn Q T' (mkF m q Ls (.ref b :: S))) : Go p e below Fn Q T (mkF m pc Ls S) := by
  obtain ⟨T', h', X', e', E', A', D', -, st⟩ := newO X hx hZ hown w1 wi wz eT (g := mkF m pc Ls S) rfl hd hc hl
  subst hq; exact (k T' h' _ rfl X' e' E' A' D').st st
theorem g_initO (X : Stand p l e R s m args below meth c T locs cells slots) (hx : p.tables.exec = Jvm.exec) (q : Nat) (hZ : Z.Warmed39 s.vm) {own : String} {index : Nat} (hown : s.vm.findClass own = some m.cls) (w1 : (Jvm.Cond.methodLink own index Lib.objectInit).before a0 Z = true) (w2 : (Jvm.Cond.instanceMethod Lib.objectInit).before a0 Z = true) (w3 : (Jvm.Cond.code Lib.objectInit ⟨#[0xb1]⟩ 1 none).before a0 Z = true) (eT : T.heap = h) (hml : Ls.size = c.maxLocals) {a : Addr} (hd : decode c.code pc = .ok (.invokespecial index, 3)) (hf : 1 ≤ R.frames) (W : Nat) (hW : (S.map fun v => v.category).sum ≤ W) (hl : W + 12 ≤ R.locals) (hq : pc + 3 = q)
    (k : ∀ T', Stand p l e R s m args below meth c T' locs cells slots → T'.heap = h → Go p e below Fn Q T' (mkF m q Ls S)) : Go p e below Fn Q T (mkF m pc Ls (.ref a :: S)) := by
  obtain ⟨T', X', e', st⟩ := initO X hx hZ hown w1 w2 w3 eT (g := mkF m pc Ls (.ref a :: S)) rfl hml rfl hd hf (W := W) (by show 2 * 0 + _ ≤ _; omega) hl
  subst hq; exact (k T' X' e').st st
theorem g_newP (X : Stand p l e R s m args below meth c T locs cells slots) (hx : p.tables.exec = Jvm.exec) (q : Nat) (hZ : Z.Warmed39 s.vm) {aty : ArrayType} (w1 : (Jvm.Cond.arrayClass (newarray.typeOf aty)).before a0 Z = true) (eT : T.heap = h) {n : Int32} (hd : decode c.code pc = .ok (.newarray aty, 2)) (hn : ¬ n < 0) (cap : Nat) (hcap : n.toNatClampNeg ≤ cap) (hb : cap * 8 ≤ 536870912) (hc : cells + 1 ≤ R.cells) (hl : slots + cap ≤ R.slots) (hq : pc + 2 = q)
    (k : ∀ T' h' b kA, b = h.size → Stand p l e R s m args below meth c T' locs (cells + 1) (slots + cap) → T'.heap = h' → Ext h h' → Arv Z h' b kA (newarray.typeOf aty) n [] (defaultValue (newarray.typeOf aty)) → Go p e below Fn Q T' (mkF m q Ls (.ref b :: S))) : Go p e below Fn Q T (mkF m pc Ls (.int n :: S)) := by
  obtain ⟨T', h', cA, X', e', E', A', st⟩ := newP X hx hZ w1 eT (g := mkF m pc Ls (.int n :: S)) rfl hd rfl hn hcap hb hc hl
  subst hq; exact (k T' h' _ cA rfl X' e' E' (Arv.new A' hn)).st st
theorem g_newR (X : Stand p l e R s m args below meth c T locs cells slots) (hx : p.tables.exec = Jvm.exec) (q : Nat) (hZ : Z.Warmed39 s.vm) {own C : String} {index : Nat} (hown : s.vm.findClass own = some m.cls) (w1 : (Jvm.Cond.classLink own index C).before a0 Z = true) (w2 : (Jvm.Cond.arrayOver (.object C)).before a0 Z = true) (eT : T.heap = h) {n : Int32} (hd : decode c.code pc = .ok (.anewarray index, 3)) (hn : ¬ n < 0) (cap : Nat) (hcap : n.toNatClampNeg ≤ cap) (hb : cap * 8 ≤ 536870912) (hc : cells + 1 ≤ R.cells) (hl : slots + cap ≤ R.slots) (hq : pc + 3 = q)
    (k : ∀ T' h' b kA, b = h.size → Stand p l e R s m args below meth c T' locs (cells + 1) (slots + cap) → T'.heap = h' → Ext h h' → Arv Z h' b kA (.object C) n [] .null → Ovr Z kA C → Go p e below Fn Q T' (mkF m q Ls (.ref b :: S))) : Go p e below Fn Q T (mkF m pc Ls (.int n :: S)) := by
  obtain ⟨T', h', cA, X', e', E', A', O', st⟩ := newR X hx hZ hown w1 w2 eT (g := mkF m pc Ls (.int n :: S)) rfl hd rfl hn hcap hb hc hl
  subst hq; exact (k T' h' _ cA rfl X' e' E' (Arv.new A' hn) O').st st
theorem g_iaload (X : Stand p l e R s m args below meth c T locs cells slots) (hx : p.tables.exec = Jvm.exec) (q : Nat) (hZ : Z.Warmed39 s.vm) (eT : T.heap = h) {a : Addr} {kA : ClassId} {n j : Int32} {vs : List Value} {dv v : Value} (V : Arv Z h a kA .int n vs dv) (hj : ¬ j < 0 ∧ j < n) (hv : vs.getD j.toNatClampNeg dv = v) (hd : decode c.code pc = .ok (.iaload, 1)) (hq : pc + 1 = q) (k : Go p e below Fn Q T (mkF m q Ls (v :: S))) : Go p e below Fn Q T (mkF m pc Ls (.int j :: .ref a :: S)) := by
  obtain ⟨cl, A, -, S', -, H', -⟩ := V
  subst hq
  exact k.st fun _ z => X.iaload hx (by rw [eT]; exact A.1) (State.isArrayOf_alike hZ.alike A.2.1) A.2.2 (inb_of S' hj) (H'.at (inb_of S' hj) hv) (g := mkF m pc Ls (.int j :: .ref a :: S)) rfl rfl hd _ z
theorem g_caload (X : Stand p l e R s m args below meth c T locs cells slots) (hx : p.tables.exec = Jvm.exec) (q : Nat) (hZ : Z.Warmed39 s.vm) (eT : T.heap = h) {a : Addr} {kA : ClassId} {n j : Int32} {vs : List Value} {dv v : Value} (V : Arv Z h a kA .char n vs dv) (hj : ¬ j < 0 ∧ j < n) (hv : vs.getD j.toNatClampNeg dv = v) (hd : decode c.code pc = .ok (.caload, 1)) (hq : pc + 1 = q) (k : Go p e below Fn Q T (mkF m q Ls (v :: S))) : Go p e below Fn Q T (mkF m pc Ls (.int j :: .ref a :: S)) := by
  obtain ⟨cl, A, -, S', -, H', -⟩ := V
  subst hq
  exact k.st fun _ z => X.caload hx (by rw [eT]; exact A.1) (State.isArrayOf_alike hZ.alike A.2.1) A.2.2 (inb_of S' hj) (H'.at (inb_of S' hj) hv) (g := mkF m pc Ls (.int j :: .ref a :: S)) rfl rfl hd _ z
theorem g_laload (X : Stand p l e R s m args below meth c T locs cells slots) (hx : p.tables.exec = Jvm.exec) (q : Nat) (hZ : Z.Warmed39 s.vm) (eT : T.heap = h) {a : Addr} {kA : ClassId} {n j : Int32} {vs : List Value} {dv v : Value} (V : Arv Z h a kA .long n vs dv) (hj : ¬ j < 0 ∧ j < n) (hv : vs.getD j.toNatClampNeg dv = v) (hd : decode c.code pc = .ok (.laload, 1)) (hq : pc + 1 = q) (k : Go p e below Fn Q T (mkF m q Ls (v :: S))) : Go p e below Fn Q T (mkF m pc Ls (.int j :: .ref a :: S)) := by
  obtain ⟨cl, A, -, S', -, H', -⟩ := V
  subst hq
  exact k.st fun _ z => X.laload hx (by rw [eT]; exact A.1) (State.isArrayOf_alike hZ.alike A.2.1) A.2.2 (inb_of S' hj) (H'.at (inb_of S' hj) hv) (g := mkF m pc Ls (.int j :: .ref a :: S)) rfl rfl hd _ z
theorem g_baload (X : Stand p l e R s m args below meth c T locs cells slots) (hx : p.tables.exec = Jvm.exec) (q : Nat) (hZ : Z.Warmed39 s.vm) (eT : T.heap = h) {a : Addr} {kA : ClassId} {n j : Int32} {vs : List Value} {dv v : Value} (V : Arv Z h a kA .byte n vs dv) (hj : ¬ j < 0 ∧ j < n) (hv : vs.getD j.toNatClampNeg dv = v) (hd : decode c.code pc = .ok (.baload, 1)) (hq : pc + 1 = q) (k : Go p e below Fn Q T (mkF m q Ls (v :: S))) : Go p e below Fn Q T (mkF m pc Ls (.int j :: .ref a :: S)) := by
  obtain ⟨cl, A, -, S', -, H', -⟩ := V
  subst hq
  exact k.st fun _ z => X.baloadBytes hx (by rw [eT]; exact A.1) (State.isArrayOf_alike hZ.alike A.2.1) A.2.2 (inb_of S' hj) (H'.at (inb_of S' hj) hv) (g := mkF m pc Ls (.int j :: .ref a :: S)) rfl rfl hd _ z
theorem g_aaload (X : Stand p l e R s m args below meth c T locs cells slots) (hx : p.tables.exec = Jvm.exec) (q : Nat) (hZ : Z.Warmed39 s.vm) (eT : T.heap = h) {a : Addr} {kA : ClassId} {C : String} {n j : Int32} {vs : List Value} {dv v : Value} (V : Arv Z h a kA (.object C) n vs dv) (hj : ¬ j < 0 ∧ j < n) (hv : vs.getD j.toNatClampNeg dv = v) (hd : decode c.code pc = .ok (.aaload, 1)) (hq : pc + 1 = q) (k : Go p e below Fn Q T (mkF m q Ls (v :: S))) : Go p e below Fn Q T (mkF m pc Ls (.int j :: .ref a :: S)) := by
  obtain ⟨cl, A, -, S', -, H', -⟩ := V
  subst hq
  exact k.st fun _ z => X.aaload hx (by rw [eT]; exact A.1) (State.isArrayOf_alike hZ.alike A.2.1) rfl A.2.2 (inb_of S' hj) (H'.at (inb_of S' hj) hv) (g := mkF m pc Ls (.int j :: .ref a :: S)) rfl rfl hd _ z
theorem g_arraylength (X : Stand p l e R s m args below meth c T locs cells slots) (hx : p.tables.exec = Jvm.exec) (q : Nat) (hZ : Z.Warmed39 s.vm) (eT : T.heap = h) {a : Addr} {kA : ClassId} {ty : FieldType} {n : Int32} {vs : List Value} {dv : Value} (V : Arv Z h a kA ty n vs dv) (hd : decode c.code pc = .ok (.arraylength, 1)) (hq : pc + 1 = q) (k : Go p e below Fn Q T (mkF m q Ls (.int n :: S))) : Go p e below Fn Q T (mkF m pc Ls (.ref a :: S)) := by
  obtain ⟨cl, A, -, S', N', -, -⟩ := V
  subst hq
  exact k.st fun _ z => X.arraylength hx (by rw [eT]; exact A.1) (State.isArrayOf_alike hZ.alike A.2.1) (g := mkF m pc Ls (.ref a :: S)) rfl rfl hd _ (by rw [len_of S' N']; exact z)
theorem g_aastore (X : Stand p l e R s m args below meth c T locs cells slots) (hx : p.tables.exec = Jvm.exec) (q : Nat) (hZ : Z.Warmed39 s.vm) (eT : T.heap = h) {a b : Addr} {kA : ClassId} {C : String} {n j : Int32} {vs : List Value} {dv : Value} (V : Arv Z h a kA (.object C) n vs dv) (O : Ovr Z kA C) (I : Ins Z h b C true) (i : Nat) (hi : j.toNatClampNeg = i) (hj : ¬ j < 0 ∧ j < n) (hl : i < vs.length) (hd : decode c.code pc = .ok (.aastore, 1)) (hq : pc + 1 = q)
    (k : ∀ T' h', Stand p l e R s m args below meth c T' (locs ++ [⟨a, j.toNatClampNeg⟩]) cells slots → T'.heap = h' → Wr h h' a j.toNatClampNeg (.ref b) → Arv Z h' a kA (.object C) n (vs.set i (.ref b)) dv → Go p e below Fn Q T' (mkF m q Ls S)) : Go p e below Fn Q T (mkF m pc Ls (.ref b :: .int j :: .ref a :: S)) := by
  obtain ⟨cl, A, q1, S', N', H', G'⟩ := V
  subst hq
  obtain ⟨T', h', X', e', W', st⟩ := stR X hx hZ eT A (j := j) (inb_of S' hj) rfl (Sto.ofV A q1 O I) (g := mkF m pc Ls (.ref b :: .int j :: .ref a :: S)) rfl rfl hd
  exact (k T' h' X' e' W' (Arv.set A q1 S' N' H' G' rfl W' i hi hl)).st st
theorem g_iastore (X : Stand p l e R s m args below meth c T locs cells slots) (hx : p.tables.exec = Jvm.exec) (q : Nat) (hZ : Z.Warmed39 s.vm) (eT : T.heap = h) {a : Addr} {kA : ClassId} {n j x : Int32} {vs : List Value} {dv : Value} (V : Arv Z h a kA .int n vs dv) (i : Nat) (hi : j.toNatClampNeg = i) (hj : ¬ j < 0 ∧ j < n) (hl : i < vs.length) (hd : decode c.code pc = .ok (.iastore, 1)) (hq : pc + 1 = q)
    (k : ∀ T' h', Stand p l e R s m args below meth c T' (locs ++ [⟨a, j.toNatClampNeg⟩]) cells slots → T'.heap = h' → Wr h h' a j.toNatClampNeg (.int x) → Arv Z h' a kA .int n (vs.set i (.int x)) dv → Go p e below Fn Q T' (mkF m q Ls S)) : Go p e below Fn Q T (mkF m pc Ls (.int x :: .int j :: .ref a :: S)) := by
  obtain ⟨cl, A, q1, S', N', H', G'⟩ := V
  subst hq
  obtain ⟨T', h', X', e', W', st⟩ := stI X hx hZ eT A (j := j) (inb_of S' hj) (g := mkF m pc Ls (.int x :: .int j :: .ref a :: S)) rfl rfl hd
  exact (k T' h' X' e' W' (Arv.set A q1 S' N' H' G' rfl W' i hi hl)).st st
theorem g_castore (X : Stand p l e R s m args below meth c T locs cells slots) (hx : p.tables.exec = Jvm.exec) (q : Nat) (hZ : Z.Warmed39 s.vm) (eT : T.heap = h) {a : Addr} {kA : ClassId} {n j x : Int32} {vs : List Value} {dv : Value} (V : Arv Z h a kA .char n vs dv) (i : Nat) (hi : j.toNatClampNeg = i) (hj : ¬ j < 0 ∧ j < n) (hl : i < vs.length) (hd : decode c.code pc = .ok (.castore, 1)) (hq : pc + 1 = q)
    (k : ∀ T' h', Stand p l e R s m args below meth c T' (locs ++ [⟨a, j.toNatClampNeg⟩]) cells slots → T'.heap = h' → Wr h h' a j.toNatClampNeg (.int (nar .char x)) → Arv Z h' a kA .char n (vs.set i (.int (nar .char x))) dv → Go p e below Fn Q T' (mkF m q Ls S)) : Go p e below Fn Q T (mkF m pc Ls (.int x :: .int j :: .ref a :: S)) := by
  obtain ⟨cl, A, q1, S', N', H', G'⟩ := V
  subst hq
  obtain ⟨T', h', X', e', W', st⟩ := stC X hx hZ eT A (j := j) (inb_of S' hj) (g := mkF m pc Ls (.int x :: .int j :: .ref a :: S)) rfl rfl hd
  exact (k T' h' X' e' W' (Arv.set A q1 S' N' H' G' (fits_nar_char _) W' i hi hl)).st st
theorem g_bastore (X : Stand p l e R s m args below meth c T locs cells slots) (hx : p.tables.exec = Jvm.exec) (q : Nat) (hZ : Z.Warmed39 s.vm) (eT : T.heap = h) {a : Addr} {kA : ClassId} {n j x : Int32} {vs : List Value} {dv : Value} (V : Arv Z h a kA .byte n vs dv) (i : Nat) (hi : j.toNatClampNeg = i) (hj : ¬ j < 0 ∧ j < n) (hl : i < vs.length) (hd : decode c.code pc = .ok (.bastore, 1)) (hq : pc + 1 = q)
    (k : ∀ T' h', Stand p l e R s m args below meth c T' (locs ++ [⟨a, j.toNatClampNeg⟩]) cells slots → T'.heap = h' → Wr h h' a j.toNatClampNeg (.int (nar .byte x)) → Arv Z h' a kA .byte n (vs.set i (.int (nar .byte x))) dv → Go p e below Fn Q T' (mkF m q Ls S)) : Go p e below Fn Q T (mkF m pc Ls (.int x :: .int j :: .ref a :: S)) := by
  obtain ⟨cl, A, q1, S', N', H', G'⟩ := V
  subst hq
  obtain ⟨T', h', X', e', W', st⟩ := stB X hx hZ eT A (j := j) (inb_of S' hj) (g := mkF m pc Ls (.int x :: .int j :: .ref a :: S)) rfl rfl hd
  exact (k T' h' X' e' W' (Arv.set A q1 S' N' H' G' (fits_nar_byte _) W' i hi hl)).st st
theorem g_callS (X : Stand p l e R s m args below meth c T locs cells slots) (hx : p.tables.exec = Jvm.exec) (q : Nat) (hZ : Z.Warmed39 s.vm) {own : String} {index : Nat} {y : MethodName} {bytes : ByteArray} {maxL : Nat} {ret : Option FieldType} {rm : Room} {Qc : Option Value → Heap → List Loc → Prop} (hown : s.vm.findClass own = some m.cls) (w1 : (Jvm.Cond.methodLink own index y).before a0 Z = true) (w2 : (Jvm.Cond.static y).before a0 Z = true) (w3 : (Jvm.Cond.initialized y.cls).before a0 Z = true) (w4 : (Jvm.Cond.code y bytes maxL ret).before a0 Z = true) (hy : y.cls ≠ "java/lang/invoke/MethodHandle" ∧ y.cls ≠ "java/lang/invoke/VarHandle") (argsL rest : List Value) (hM : OwnMet l Z y bytes maxL ret [] rm argsL h Qc)
    (eT : T.heap = h) (W : Nat) (hf : rm.frames + 1 ≤ R.frames) (hl : W + (maxL + 11) + rm.locals ≤ R.locals) (hc : cells + rm.cells ≤ R.cells) (hs : slots + rm.slots ≤ R.slots) (hml : Ls.size = c.maxLocals) (hlen : ∀ sig, parseMethodDescriptor y.desc = some sig → argsL.length = sig.parameters.length) (hd : decode c.code pc = .ok (.invokestatic index, 3)) (hst : S = argsL.reverse ++ rest) (hW : (rest.map fun v => v.category).sum ≤ W) (hq : pc + 3 = q) (k : ∀ v T' L', Stand p l e R s m args below meth c T' (locs ++ L') (cells + rm.cells) (slots + rm.slots) → Qc v T'.heap L' → Go p e below Fn Q T' (mkF m q Ls (v.toList ++ rest))) : Go p e below Fn Q T (mkF m pc Ls S) := by
  subst hst
  obtain ⟨v, _, ⟨T', L', k', n'⟩, -, X', ⟨Lc, hQ, l', y', z'⟩, st⟩ := Jvm.LawKit.callS X hx (y := y) hown (mvT hZ w1) (mvT hZ w2) (mvT hZ w3) (mvT hZ w4) hy (backOf (W := W) hM hZ w4 w3 hf hl) (g := mkF m pc Ls (argsL.reverse ++ rest)) rfl hml (argsL := argsL) (rest := rest) hlen rfl (by show 2 * 0 + _ ≤ _; omega) hd (fun _ _ => ⟨rfl, eT, hc, hs⟩)
  dsimp only [Pt.U, Pt.locs, Pt.cells, Pt.slots] at X' l' y' z' st hQ
  subst l' y' z' hq
  exact (k v T' Lc X' hQ).st st
theorem g_callI (X : Stand p l e R s m args below meth c T locs cells slots) (hx : p.tables.exec = Jvm.exec) (q : Nat) (hZ : Z.Warmed39 s.vm) {own : String} {index : Nat} {y : MethodName} {bytes : ByteArray} {maxL : Nat} {rm : Room} {Qc : Option Value → Heap → List Loc → Prop} (hy1 : y.name = "<init>") (hown : s.vm.findClass own = some m.cls) (w1 : (Jvm.Cond.methodLink own index y).before a0 Z = true) (w2 : (Jvm.Cond.instanceMethod y).before a0 Z = true) (w3 : (Jvm.Cond.initialized y.cls).before a0 Z = true) (w4 : (Jvm.Cond.code y bytes maxL none).before a0 Z = true) (hy : y.cls ≠ "java/lang/invoke/MethodHandle" ∧ y.cls ≠ "java/lang/invoke/VarHandle") (a : Addr) (argsL rest : List Value) (hM : OwnMet l Z y bytes maxL none [] rm (.ref a :: argsL) h Qc)
    (eT : T.heap = h) (W : Nat) (hf : rm.frames + 1 ≤ R.frames) (hl : W + (maxL + 11) + rm.locals ≤ R.locals) (hc : cells + rm.cells ≤ R.cells) (hs : slots + rm.slots ≤ R.slots) (hml : Ls.size = c.maxLocals) (hlen : ∀ sig, parseMethodDescriptor y.desc = some sig → argsL.length = sig.parameters.length) (hd : decode c.code pc = .ok (.invokespecial index, 3)) (hst : S = argsL.reverse ++ .ref a :: rest) (hW : (rest.map fun v => v.category).sum ≤ W) (hq : pc + 3 = q) (k : ∀ v T' L', Stand p l e R s m args below meth c T' (locs ++ L') (cells + rm.cells) (slots + rm.slots) → Qc v T'.heap L' → Go p e below Fn Q T' (mkF m q Ls (v.toList ++ rest))) : Go p e below Fn Q T (mkF m pc Ls S) := by
  subst hst
  obtain ⟨v, _, ⟨T', L', k', n'⟩, -, X', ⟨Lc, hQ, l', y', z'⟩, st⟩ := X.specialBack hx (y := y) hy1 hown (mvT hZ w1) (mvT hZ w2) (mvT hZ w4) hy (backOf (W := W) hM hZ w4 w3 hf hl) (g := mkF m pc Ls (argsL.reverse ++ .ref a :: rest)) rfl hml (Steps.refl _) (a := a) (argsL := argsL) (rest := rest) hlen rfl (by show 2 * 0 + _ ≤ _; omega) hd (fun _ _ => ⟨rfl, eT, hc, hs⟩)
  dsimp only [Pt.U, Pt.locs, Pt.cells, Pt.slots] at X' l' y' z' st hQ
  subst l' y' z' hq
  exact (k v T' Lc X' hQ).st fun _ z => st.trans z
theorem g_callV (X : Stand p l e R s m args below meth c T locs cells slots) (hx : p.tables.exec = Jvm.exec) (q : Nat) (hZ : Z.Warmed39 s.vm) {own C : String} {index : Nat} {y : MethodName} {bytes : ByteArray} {maxL : Nat} {ret : Option FieldType} {rm : Room} {Qc : Option Value → Heap → List Loc → Prop} (hown : s.vm.findClass own = some m.cls) (w1 : (Jvm.Cond.methodLink own index y).before a0 Z = true) (w2 : (Jvm.Cond.declares y).before a0 Z = true) (w5 : (Jvm.Cond.selects C y y).before a0 Z = true) (w6 : (Jvm.Cond.instanceMethod y).before a0 Z = true) (w3 : (Jvm.Cond.initialized y.cls).before a0 Z = true) (w4 : (Jvm.Cond.code y bytes maxL ret).before a0 Z = true) (hy : y.cls ≠ "java/lang/invoke/MethodHandle" ∧ y.cls ≠ "java/lang/invoke/VarHandle") (a : Addr) (E : Exa Z h a C) (argsL rest : List Value) (hM : OwnMet l Z y bytes maxL ret [] rm (.ref a :: argsL) h Qc)
    (eT : T.heap = h) (W : Nat) (hf : rm.frames + 1 ≤ R.frames) (hl : W + (maxL + 11) + rm.locals ≤ R.locals) (hc : cells + rm.cells ≤ R.cells) (hs : slots + rm.slots ≤ R.slots) (hml : Ls.size = c.maxLocals) (hlen : ∀ sig, parseMethodDescriptor y.desc = some sig → argsL.length = sig.parameters.length) (hd : decode c.code pc = .ok (.invokevirtual index, 3)) (hst : S = argsL.reverse ++ .ref a :: rest) (hW : (rest.map fun v => v.category).sum ≤ W) (hq : pc + 3 = q) (k : ∀ v T' L', Stand p l e R s m args below meth c T' (locs ++ L') (cells + rm.cells) (slots + rm.slots) → Qc v T'.heap L' → Go p e below Fn Q T' (mkF m q Ls (v.toList ++ rest))) : Go p e below Fn Q T (mkF m pc Ls S) := by
  subst hst
  obtain ⟨cq, kq, qa, qb, qc⟩ := isOf (T := T) hZ eT E
  obtain ⟨v, _, ⟨T', L', k', n'⟩, -, X', ⟨Lc, hQ, l', y', z'⟩, st⟩ := X.virtualBack hx (y := y) (z := y) hown (mvT hZ w1) (mvT hZ w2) (notFace_of_selects (args := #[]) (mvT hZ w5)) (mvT hZ w5) (mvT hZ w6) hy (backOf (W := W) hM hZ w4 w3 hf hl) qa qc (g := mkF m pc Ls (argsL.reverse ++ .ref a :: rest)) rfl hml (Steps.refl _) (argsL := argsL) (rest := rest) hlen rfl (by show 2 * 0 + _ ≤ _; omega) hd (fun _ _ => ⟨rfl, eT, hc, hs⟩)
  dsimp only [Pt.U, Pt.locs, Pt.cells, Pt.slots] at X' l' y' z' st hQ
  subst l' y' z' hq
  exact (k v T' Lc X' hQ).st fun _ z => st.trans z
theorem g_newPE (X : Stand p l e R s m args below meth c T locs cells slots) (hx : p.tables.exec = Jvm.exec) (q : Nat) (hZ : Z.Warmed39 s.vm) {aty : ArrayType} (w1 : (Jvm.Cond.arrayClass (newarray.typeOf aty)).before a0 Z = true) (eT : T.heap = h) {n : Int32} (hd : decode c.code pc = .ok (.newarray aty, 2)) (hn : ¬ n < 0) (cap : Nat) (hcap : n.toNatClampNeg ≤ cap) (hb : cap * 8 ≤ 536870912) (hc : cells + 1 ≤ R.cells) (hl : slots + cap ≤ R.slots) (ad : String) (had : "[" ++ (newarray.typeOf aty).toString = ad) (hq : pc + 2 = q)
    (k : ∀ T' h' b kA, b = h.size → Stand p l e R s m args below meth c T' locs (cells + 1) (slots + cap) → T'.heap = h' → Ext h h' → Arv Z h' b kA (newarray.typeOf aty) n [] (defaultValue (newarray.typeOf aty)) → Exa Z h' b ad → Go p e below Fn Q T' (mkF m q Ls (.ref b :: S))) : Go p e below Fn Q T (mkF m pc Ls (.int n :: S)) := by
  obtain ⟨T', h', cA, X', e', E', A', I', st⟩ := newPE X hx hZ w1 eT (g := mkF m pc Ls (.int n :: S)) rfl hd rfl hn hcap hb hc hl had
  subst hq; exact (k T' h' _ cA rfl X' e' E' (Arv.new A' hn) I').st st
theorem g_clone (X : Stand p l e R s m args below meth c T locs cells slots) (hx : p.tables.exec = Jvm.exec) (q : Nat) (hZ : Z.Warmed39 s.vm) {own ad : String} {index : Nat} (hown : s.vm.findClass own = some m.cls) (w1 : (Jvm.Cond.methodLink own index ⟨ad, "clone", "()Ljava/lang/Object;"⟩).before a0 Z = true) (w2 : (Jvm.Cond.sameMethod ad "java/lang/Object" "clone" "()Ljava/lang/Object;").before a0 Z = true) (w3 : (Jvm.Cond.native ⟨"java/lang/Object", "clone", "()Ljava/lang/Object;"⟩).before a0 Z = true) (w4 : (Jvm.Cond.instanceMethod ⟨"java/lang/Object", "clone", "()Ljava/lang/Object;"⟩).before a0 Z = true) (w5 : (Jvm.Cond.selects ad ⟨ad, "clone", "()Ljava/lang/Object;"⟩ ⟨"java/lang/Object", "clone", "()Ljava/lang/Object;"⟩).before a0 Z = true) (w6 : (Jvm.Cond.castable ad "java/lang/Cloneable").before a0 Z = true)
    (eT : T.heap = h) {a : Addr} {kA : ClassId} {ty : FieldType} {n : Int32} {vs : List Value} {dv : Value} (V : Arv Z h a kA ty n vs dv) (E : Exa Z h a ad) (hml : Ls.size = c.maxLocals) (hd : decode c.code pc = .ok (.invokevirtual index, 3)) (hf : 1 ≤ R.frames) (W cap : Nat) (hW : (S.map fun v => v.category).sum ≤ W) (hl : W + 14 ≤ R.locals) (hcap : n.toNatClampNeg ≤ cap) (hc : cells + 1 ≤ R.cells) (hsl : slots + cap ≤ R.slots) (hq : pc + 3 = q)
    (k : ∀ T' h' b, b = h.size → Stand p l e R s m args below meth c T' locs (cells + 1) (slots + cap) → T'.heap = h' → Ext h h' → Arv Z h' b kA ty n vs dv → Exa Z h' b ad → Go p e below Fn Q T' (mkF m q Ls (.ref b :: S))) : Go p e below Fn Q T (mkF m pc Ls (.ref a :: S)) := by
  obtain ⟨T', h', X', e', E', V', I', st⟩ := cloneH X hx hZ hown w1 w2 w3 w4 w5 w6 eT V.arh E (g := mkF m pc Ls (.ref a :: S)) rfl hml rfl hd hf (W := W) (by show 2 * 0 + _ ≤ _; omega) hl hcap hc hsl
  subst hq; exact (k T' h' _ rfl X' e' E' V' I').st st
theorem g_cast (X : Stand p l e R s m args below meth c T locs cells slots) (hx : p.tables.exec = Jvm.exec) (q : Nat) (hZ : Z.Warmed39 s.vm) {own C : String} {index : Nat} (hown : s.vm.findClass own = some m.cls) (w1 : (Jvm.Cond.classLink own index C).before a0 Z = true) (eT : T.heap = h) {a : Addr} (I : Ins Z h a C true) (hd : decode c.code pc = .ok (.checkcast index, 3)) (hq : pc + 3 = q)
    (k : ∀ T', Stand p l e R s m args below meth c T' locs cells slots → T'.heap = h → Go p e below Fn Q T' (mkF m q Ls (.ref a :: S))) : Go p e below Fn Q T (mkF m pc Ls (.ref a :: S)) := by
  obtain ⟨T', X', e', st⟩ := castY X hx hZ hown w1 eT I (g := mkF m pc Ls (.ref a :: S)) rfl rfl hd
  subst hq; exact (k T' X' e').st st
theorem g_callU (X : Stand p l e R s m args below meth c T locs cells slots) (hx : p.tables.exec = Jvm.exec) (q : Nat) (hZ : Z.Warmed39 s.vm) {own C owner : String} {index : Nat} {x y : MethodName} {bytes : ByteArray} {maxL : Nat} {ret : Option FieldType} {rm : Room} {Qc : Option Value → Heap → List Loc → Prop} (hown : s.vm.findClass own = some m.cls) (w1 : (Jvm.Cond.methodLink own index x).before a0 Z = true) (w2 : (Jvm.Cond.sameMethod x.cls owner x.name x.desc).before a0 Z = true) (w7 : (Jvm.Cond.declares ⟨owner, x.name, x.desc⟩).before a0 Z = true) (hy : owner ≠ "java/lang/invoke/MethodHandle" ∧ owner ≠ "java/lang/invoke/VarHandle") (w5 : (Jvm.Cond.selects C x y).before a0 Z = true) (w6 : (Jvm.Cond.instanceMethod y).before a0 Z = true) (w3 : (Jvm.Cond.initialized y.cls).before a0 Z = true) (w4 : (Jvm.Cond.code y bytes maxL ret).before a0 Z = true) (a : Addr) (E : Exa Z h a C) (argsL rest : List Value) (hM : OwnMet l Z y bytes maxL ret [] rm (.ref a :: argsL) h Qc)
    (eT : T.heap = h) (W : Nat) (hf : rm.frames + 1 ≤ R.frames) (hl : W + (maxL + 11) + rm.locals ≤ R.locals) (hc : cells + rm.cells ≤ R.cells) (hs : slots + rm.slots ≤ R.slots) (hml : Ls.size = c.maxLocals) (hlen : ∀ sig, parseMethodDescriptor x.desc = some sig → argsL.length = sig.parameters.length) (hd : decode c.code pc = .ok (.invokevirtual index, 3)) (hst : S = argsL.reverse ++ .ref a :: rest) (hW : (rest.map fun v => v.category).sum ≤ W) (hq : pc + 3 = q) (k : ∀ v T' L', Stand p l e R s m args below meth c T' (locs ++ L') (cells + rm.cells) (slots + rm.slots) → Qc v T'.heap L' → Go p e below Fn Q T' (mkF m q Ls (v.toList ++ rest))) : Go p e below Fn Q T (mkF m pc Ls S) := by
  subst hst
  obtain ⟨cq, kq, qa, qb, qc⟩ := isOf (T := T) hZ eT E
  obtain ⟨v, _, ⟨T', L', k', n'⟩, -, X', ⟨Lc, hQ, l', y', z'⟩, st⟩ := X.virtualBackUp hx (x := x) (y := y) hown (mvT hZ w1) (mvT hZ w2) (mvT hZ w7) hy (mvT hZ w5) (mvT hZ w6) (backOf (W := W) hM hZ w4 w3 hf hl) qa qc (g := mkF m pc Ls (argsL.reverse ++ .ref a :: rest)) rfl hml (Steps.refl _) (argsL := argsL) (rest := rest) hlen rfl (by show 2 * 0 + _ ≤ _; omega) hd (fun _ _ => ⟨rfl, eT, hc, hs⟩)
  dsimp only [Pt.U, Pt.locs, Pt.cells, Pt.slots] at X' l' y' z' st hQ
  subst l' y' z' hq
  exact (k v T' Lc X' hQ).st fun _ z => st.trans z
theorem g_callP (X : Stand p l e R s m args below meth c T locs cells slots) (hx : p.tables.exec = Jvm.exec) (q : Nat) (hZ : Z.Warmed39 s.vm) {own C0 : String} {index : Nat} {y y0 : MethodName} {bytes : ByteArray} {maxL : Nat} {ret : Option FieldType} {rm : Room} {Qc : Option Value → Heap → List Loc → Prop} (hown : s.vm.findClass own = some m.cls) (w1 : (Jvm.Cond.methodLink own index y).before a0 Z = true) (w6 : (Jvm.Cond.instanceMethod y).before a0 Z = true) (w8 : (Jvm.Cond.privateMethod y).before a0 Z = true) (w5 : (Jvm.Cond.selects C0 y0 y0).before a0 Z = true) (hc0 : y0.cls = y.cls) (w3 : (Jvm.Cond.initialized y.cls).before a0 Z = true) (w4 : (Jvm.Cond.code y bytes maxL ret).before a0 Z = true) (hy : y.cls ≠ "java/lang/invoke/MethodHandle" ∧ y.cls ≠ "java/lang/invoke/VarHandle") {C : String} (a : Addr) (E : Exa Z h a C) (argsL rest : List Value) (hM : OwnMet l Z y bytes maxL ret [] rm (.ref a :: argsL) h Qc)
    (eT : T.heap = h) (W : Nat) (hf : rm.frames + 1 ≤ R.frames) (hl : W + (maxL + 11) + rm.locals ≤ R.locals) (hc : cells + rm.cells ≤ R.cells) (hs : slots + rm.slots ≤ R.slots) (hml : Ls.size = c.maxLocals) (hlen : ∀ sig, parseMethodDescriptor y.desc = some sig → argsL.length = sig.parameters.length) (hd : decode c.code pc = .ok (.invokevirtual index, 3)) (hst : S = argsL.reverse ++ .ref a :: rest) (hW : (rest.map fun v => v.category).sum ≤ W) (hq : pc + 3 = q) (k : ∀ v T' L', Stand p l e R s m args below meth c T' (locs ++ L') (cells + rm.cells) (slots + rm.slots) → Qc v T'.heap L' → Go p e below Fn Q T' (mkF m q Ls (v.toList ++ rest))) : Go p e below Fn Q T (mkF m pc Ls S) := by
  subst hst
  have hpriv : s.PrivateAt y := Cond.privateMethod_at (mvP hZ w8 (args := #[]))
  have hsel : (Jvm.Cond.selects y.cls y y).before args s = true := by
    obtain ⟨c2, r2, m2, -, -, q3, -, kP, hkP, hkPi⟩ := Cond.selects_spec (mvT hZ w5 : (Jvm.Cond.selects C0 y0 y0).before args s = true)
    exact selects_self_of_private (hc0 ▸ findClass_of_methodNamed q3) hkP hkPi hpriv (mvT hZ w6) hy
  obtain ⟨cq, qa, qb⟩ := E.cell
  obtain ⟨v, _, ⟨T', L', k', n'⟩, -, X', ⟨Lc, hQ, l', y', z'⟩, st⟩ := X.privateBack hx (y := y) hown (mvT hZ w1) (mvT hZ w6) hsel hpriv (mvT hZ w4) hy (backOf (W := W) hM hZ w4 w3 hf hl) (g := mkF m pc Ls (argsL.reverse ++ .ref a :: rest)) rfl hml (Steps.refl _) (a := a) (by rw [eT]; exact qa) qb (argsL := argsL) (rest := rest) hlen rfl (by show 2 * 0 + _ ≤ _; omega) hd (fun _ _ => ⟨rfl, eT, hc, hs⟩)
  dsimp only [Pt.U, Pt.locs, Pt.cells, Pt.slots] at X' l' y' z' st hQ
  subst l' y' z' hq
  exact (k v T' Lc X' hQ).st fun _ z => st.trans z
theorem own_sta_keep {h' : Heap} {C n d : String} {v : Value} (F : Sta Z h C n d v) (Kp : Keep h h' []) : Sta Z h' C n d v := by
  obtain ⟨cf, i, k, f, st, cell, h1, h2, h3, h4, h5, r⟩ := F
  exact ⟨cf, i, k, f, st, cell, h1, h2, h3, h4, Kp.2.1 _ _ h5 nin0, r⟩
theorem own_plain {C : String} {x : Addr} (F : Exa Z h x C) : ∃ cl : Cell, h[x]? = some cl ∧ cl.vm.isStatics = false := by
  obtain ⟨c, _, h1, -, -, h4, -⟩ := F; exact ⟨c, h1, h4⟩
theorem own_sta_keep' {h' : Heap} {C n d : String} {v : Value} {x : Addr} (F : Sta Z h C n d v) (Kp : Keep h h' [x]) (hp : ∃ cl : Cell, h[x]? = some cl ∧ cl.vm.isStatics = false) : Sta Z h' C n d v := by
  obtain ⟨cf, i, k, f, st, cell, h1, h2, h3, h4, h5, h6, r⟩ := F
  obtain ⟨cl, q1, q2⟩ := hp
  have ne : st ≠ x := fun q => by rw [q] at h5; rw [q1] at h5; cases h5; rw [q2] at h6; cases h6
  exact ⟨cf, i, k, f, st, cell, h1, h2, h3, h4, Kp.2.1 _ _ h5 (ninS ne nin0), h6, r⟩
end OwnKit
theorem own_nn (a : Int32) : ¬ (a &&& (2147483647 : Int32)) < 0 := by
  rw [Int32.lt_iff_toInt_lt]
  show ¬ (a &&& 2147483647).toBitVec.toInt < 0
  rw [Int32.toBitVec_and, BitVec.toInt_neg_iff]
  rw [Nat.not_le, BitVec.toNat_and]
  have : a.toBitVec.toNat &&& (2147483647 : Int32).toBitVec.toNat ≤ (2147483647 : Int32).toBitVec.toNat := Nat.and_le_right
  have e : (2147483647 : Int32).toBitVec.toNat = 2147483647 := by decide
  omega
theorem own_nnL (a : Int64) : ¬ (a &&& (9223372036854775807 : Int64)) < 0 := by
  rw [Int64.lt_iff_toInt_lt]
  show ¬ (a &&& 9223372036854775807).toBitVec.toInt < 0
  rw [Int64.toBitVec_and, BitVec.toInt_neg_iff]
  rw [Nat.not_le, BitVec.toNat_and]
  have : a.toBitVec.toNat &&& (9223372036854775807 : Int64).toBitVec.toNat ≤ (9223372036854775807 : Int64).toBitVec.toNat := Nat.and_le_right
  have e : (9223372036854775807 : Int64).toBitVec.toNat = 9223372036854775807 := by decide
  omega
theorem own_modb (a n : Int32) (ha : ¬ a < 0) (hn : 0 < n) : ¬ a % n < 0 ∧ a % n < n := by
  rw [Int32.lt_iff_toInt_lt] at *
  rw [Int32.lt_iff_toInt_lt] at *
  rw [Int32.toInt_mod]
  have z : (0 : Int32).toInt = 0 := rfl
  rw [z] at *
  have h1 := Int.tmod_nonneg n.toInt (Int.not_lt.mp ha)
  have h2 := Int.tmod_lt_of_pos a.toInt hn
  omega
def own_max (a b : Int32) : Int32 := if a < b then b else a
def own_adm (lo up c : Int32) : Int32 := if c < lo then 0 else if up = -1 then 1 else if up < c then 0 else 1
theorem own_s (x y : Int32) : (x.toInt64 - y.toInt64).toInt = x.toInt - y.toInt := by
  rw [Int64.toInt_sub, Int32.toInt_toInt64, Int32.toInt_toInt64]
  have := x.le_toInt; have := x.toInt_lt; have := y.le_toInt; have := y.toInt_lt
  rw [Int.bmod_eq_of_le] <;> omega
theorem own_ltz (x y : Int32) : (x.toInt64 - y.toInt64 < 0) ↔ x < y := by
  rw [Int64.lt_iff_toInt_lt, own_s, Int32.lt_iff_toInt_lt]
  show _ < (0:Int) ↔ _
  omega
theorem own_top (c : Int32) : ¬ ((2147483648 : Int64) - c.toInt64 < 0) := by
  rw [Int64.lt_iff_toInt_lt, Int64.toInt_sub, Int32.toInt_toInt64]
  have := c.le_toInt; have := c.toInt_lt
  show ¬ _ < (0:Int)
  rw [show (2147483648 : Int64).toInt = 2147483648 from by decide, Int.bmod_eq_of_le] <;> omega
theorem own_up (lo b : Int32) : ¬ own_max (own_max lo 1) b < 1 ∧ ¬ own_max (own_max lo 1) b < lo := by
  have z1 : (1 : Int32).toInt = 1 := rfl
  unfold own_max
  repeat' split
  all_goals (simp only [Int32.lt_iff_toInt_lt, z1] at *; omega)
theorem own_upne (lo b : Int32) : ¬ own_max (own_max lo 1) b = -1 := fun q => (own_up lo b).1 (by rw [q]; decide)
theorem d4_0 : decode jdk_29_method_65_code 0 = .ok (.iload_n 0, 1) := by decide +kernel
theorem d4_1 : decode jdk_29_method_65_code 1 = .ok (.iload_n 1, 1) := by decide +kernel
theorem d4_2 : decode jdk_29_method_65_code 2 = .ok (.if_icmp .lt 7, 3) := by decide +kernel
theorem d4_9 : decode jdk_29_method_65_code 9 = .ok (.iload_n 1, 1) := by decide +kernel
theorem d4_10 : decode jdk_29_method_65_code 10 = .ok (.ireturn, 1) := by decide +kernel
theorem d4_5 : decode jdk_29_method_65_code 5 = .ok (.iload_n 0, 1) := by decide +kernel
theorem d4_6 : decode jdk_29_method_65_code 6 = .ok (.goto 4, 3) := by decide +kernel
set_option maxRecDepth 65536 in
set_option maxHeartbeats 40000000 in
theorem rm4 (l : Launch) (Z : State) (a0 : Array Value) (hw : ∀ d ∈ tables_1, d.before a0 Z = true) (a b : Int32) (h0 : Heap) (n0 : Nat) (Z0 : n0 ≤ h0.size)  :
    OwnMet l Z (⟨"java/lang/Math", "max", "(II)I"⟩ : MethodName) jdk_29_method_65_code 2 (some .int) [] ({ frames := 0, cells := 0, slots := 0, locals := 0 } : Room) [(.int a), (.int b)] h0 (fun v h L => v = some (.int (own_max a b)) ∧ Fr n0 L ∧ h = h0) := by
  refine own_body (Ls := #[.val (.int a), .val (.int b)]) (Jvm.Free.JP.mathPlain rfl (by decide +kernel)) (fun m => by first | (simp [entryFrame, mkF, argsToLocals, Value.category]; done) | rfl) (fun p e s m below meth cO T0 hx hby hml hown hnm hret hlk hZ X0 e0 => ?_)
  have hown : s.vm.findClass "java/lang/Math" = some m.cls := hown
  have N0 := Fr.nil n0
  refine g_iloadN X0 hx 1 (hb hby d4_0) rfl rfl ?_
  refine g_iloadN X0 hx 2 (hb hby d4_1) rfl rfl ?_
  by_cases hc1 : a < b
  · refine g_icT X0 hx 9 (hb hby d4_2) (tlt hc1).1 (by decide) (by decide) ?_
    refine g_iloadN X0 hx 10 (hb hby d4_9) rfl rfl ?_
    exact g_retI X0 hx hret hlk (hb hby d4_10) (by decide) (by decide) ⟨by simp [own_max, hc1], N0, e0⟩
  · refine g_icF X0 hx 5 (hb hby d4_2) (flt hc1).1 rfl ?_
    refine g_iloadN X0 hx 6 (hb hby d4_5) rfl rfl ?_
    refine g_goto X0 hx 10 (hb hby d4_6) (by decide) (by decide) ?_
    exact g_retI X0 hx hret hlk (hb hby d4_10) (by decide) (by decide) ⟨by simp [own_max, hc1], N0, e0⟩
theorem own_pn0 : plainName "com/example/oriel/oriel/ocl/Multiplicity" = true := by first | (simp [plainName, overriddenIn]; done) | decide +kernel
theorem d1_0 : decode prog_88_method_1_code 0 = .ok (.aload_n 0, 1) := by decide +kernel
theorem d1_1 : decode prog_88_method_1_code 1 = .ok (.invokespecial 1, 3) := by decide +kernel
theorem d1_4 : decode prog_88_method_1_code 4 = .ok (.iload_n 1, 1) := by decide +kernel
theorem d1_5 : decode prog_88_method_1_code 5 = .ok (.ifCond .ge 17, 3) := by decide +kernel
theorem d1_22 : decode prog_88_method_1_code 22 = .ok (.iload_n 2, 1) := by decide +kernel
theorem d1_23 : decode prog_88_method_1_code 23 = .ok (.iconst (-1), 1) := by decide +kernel
theorem d1_24 : decode prog_88_method_1_code 24 = .ok (.if_icmp .eq 28, 3) := by decide +kernel
theorem d1_52 : decode prog_88_method_1_code 52 = .ok (.aload_n 0, 1) := by decide +kernel
theorem d1_53 : decode prog_88_method_1_code 53 = .ok (.iload_n 1, 1) := by decide +kernel
theorem d1_54 : decode prog_88_method_1_code 54 = .ok (.putfield 21, 3) := by decide +kernel
theorem d1_57 : decode prog_88_method_1_code 57 = .ok (.aload_n 0, 1) := by decide +kernel
theorem d1_58 : decode prog_88_method_1_code 58 = .ok (.iload_n 2, 1) := by decide +kernel
theorem d1_59 : decode prog_88_method_1_code 59 = .ok (.putfield 25, 3) := by decide +kernel
theorem d1_62 : decode prog_88_method_1_code 62 = .ok (.return_, 1) := by decide +kernel
theorem d1_27 : decode prog_88_method_1_code 27 = .ok (.iload_n 2, 1) := by decide +kernel
theorem d1_28 : decode prog_88_method_1_code 28 = .ok (.iconst 1, 1) := by decide +kernel
theorem d1_29 : decode prog_88_method_1_code 29 = .ok (.if_icmp .lt 8, 3) := by decide +kernel
theorem d1_32 : decode prog_88_method_1_code 32 = .ok (.iload_n 2, 1) := by decide +kernel
theorem d1_33 : decode prog_88_method_1_code 33 = .ok (.iload_n 1, 1) := by decide +kernel
theorem d1_34 : decode prog_88_method_1_code 34 = .ok (.if_icmp .ge 18, 3) := by decide +kernel
set_option maxRecDepth 65536 in
set_option maxHeartbeats 40000000 in
theorem rm1 (l : Launch) (Z : State) (a0 : Array Value) (hw : ∀ d ∈ tables_1, d.before a0 Z = true) (a : Addr) (lo up : Int32) (u1 u2 : Value) (h0 : Heap) (n0 : Nat) (Z0 : n0 ≤ h0.size) (g_a : n0 ≤ a) (E_a : Exa Z h0 a "com/example/oriel/oriel/ocl/Multiplicity") (F_1 : Fld Z h0 a "com/example/oriel/oriel/ocl/Multiplicity" "lower" "I" u1) (F_2 : Fld Z h0 a "com/example/oriel/oriel/ocl/Multiplicity" "upper" "I" u2) (hlo : ¬ lo < 0) (hup : up = -1 ∨ (¬ up < 1 ∧ ¬ up < lo)) :
    OwnMet l Z (⟨"com/example/oriel/oriel/ocl/Multiplicity", "<init>", "(II)V"⟩ : MethodName) prog_88_method_1_code 3 none [] ({ frames := 1, cells := 0, slots := 0, locals := 12 } : Room) [(.ref a), (.int lo), (.int up)] h0 (fun v h L => v = none ∧ Fr n0 L ∧ Keep h0 h [a] ∧ Exa Z h a "com/example/oriel/oriel/ocl/Multiplicity" ∧ Fld Z h a "com/example/oriel/oriel/ocl/Multiplicity" "lower" "I" (.int lo) ∧ Fld Z h a "com/example/oriel/oriel/ocl/Multiplicity" "upper" "I" (.int up)) := by
  refine own_body (Ls := #[.val (.ref a), .val (.int lo), .val (.int up)]) (plainFor_of_name own_pn0) (fun m => by first | (simp [entryFrame, mkF, argsToLocals, Value.category]; done) | rfl) (fun p e s m below meth cO T0 hx hby hml hown hnm hret hlk hZ X0 e0 => ?_)
  have hown : s.vm.findClass "com/example/oriel/oriel/ocl/Multiplicity" = some m.cls := hown
  have N0 := Fr.nil n0
  have K0 := Keep.refl h0 [a]
  refine g_aloadN X0 hx 1 (hb hby d1_0) rfl rfl rfl ?_
  refine g_initO X0 hx 4 hZ hown (own_w hw 7 rfl) (own_w hw 8 rfl) (own_w hw 9 rfl) e0 (by rw [hml]; rfl) (hb hby d1_1) (by decide) 0 (Nat.le_of_eq rfl) (by decide) rfl (fun T1 X1 e1 => ?_)
  refine g_iloadN X1 hx 5 (hb hby d1_4) rfl rfl ?_
  have hk2 : ¬ (lo < (0 : Int32)) := hlo
  refine g_ifT X1 hx 22 (hb hby d1_5) ((if0 _ _).trans (flt hk2).2.1) (by decide) (by decide) ?_
  refine g_iloadN X1 hx 23 (hb hby d1_22) rfl rfl ?_
  refine g_iconst X1 hx 24 (-1 : Int32) (hb hby d1_23) (by decide) rfl ?_
  by_cases hc3 : up = (-1 : Int32)
  · refine g_icT X1 hx 52 (hb hby d1_24) (teq hc3).1 (by decide) (by decide) ?_
    refine g_aloadN X1 hx 53 (hb hby d1_52) rfl rfl rfl ?_
    refine g_iloadN X1 hx 54 (hb hby d1_53) rfl rfl ?_
    refine g_putF X1 hx 57 hZ hown (host := "") (Or.inl (own_w hw 10 rfl)) Via.refl e1 F_1 E_a (Or.inr ⟨(own_w hw 11 rfl), rfl, hnm⟩) (own_w hw 2 rfl) (ty := .int) (by decide) rfl rfl (hb hby d1_54) rfl (fun T4 h4 X4 e4 W4 => ?_)
    have E_a := E_a.wr W4
    have F_1 := F_1.same W4
    have F_2 := F_2.other W4 (Or.inr (slot_ne (Or.inr (own_w hw 13 rfl)) (Or.inr (own_w hw 11 rfl)) (by decide) (t := .int) (t' := .int) (by decide) (by decide)))
    have N4 := Fr.snoc X4 N0 g_a
    have Z4 : n0 ≤ h4.size := by rw [W4.size]; exact Z0
    have K4 := K0.wr W4 (Or.inl (List.mem_of_getElem? (i := 0) rfl))
    refine g_aloadN X4 hx 58 (hb hby d1_57) rfl rfl rfl ?_
    refine g_iloadN X4 hx 59 (hb hby d1_58) rfl rfl ?_
    refine g_putF X4 hx 62 hZ hown (host := "") (Or.inl (own_w hw 12 rfl)) Via.refl e4 F_2 E_a (Or.inr ⟨(own_w hw 13 rfl), rfl, hnm⟩) (own_w hw 2 rfl) (ty := .int) (by decide) rfl rfl (hb hby d1_59) rfl (fun T5 h5 X5 e5 W5 => ?_)
    have E_a := E_a.wr W5
    have F_1 := F_1.other W5 (Or.inr (slot_ne (Or.inr (own_w hw 11 rfl)) (Or.inr (own_w hw 13 rfl)) (by decide) (t := .int) (t' := .int) (by decide) (by decide)))
    have F_2 := F_2.same W5
    have N5 := Fr.snoc X5 N4 g_a
    have Z5 : n0 ≤ h5.size := by rw [W5.size]; exact Z4
    have K5 := K4.wr W5 (Or.inl (List.mem_of_getElem? (i := 0) rfl))
    exact g_retV X5 hx hret hlk (hb hby d1_62) (by decide) (by decide) (by rw [e5]; exact ⟨rfl, N5, K5, E_a, F_1, F_2⟩)
  · refine g_icF X1 hx 27 (hb hby d1_24) (feq hc3).1 rfl ?_
    refine g_iloadN X1 hx 28 (hb hby d1_27) rfl rfl ?_
    refine g_iconst X1 hx 29 (1 : Int32) (hb hby d1_28) (by decide) rfl ?_
    have hk6 : ¬ (up < (1 : Int32)) := (hup.resolve_left hc3).1
    refine g_icF X1 hx 32 (hb hby d1_29) (flt hk6).1 rfl ?_
    refine g_iloadN X1 hx 33 (hb hby d1_32) rfl rfl ?_
    refine g_iloadN X1 hx 34 (hb hby d1_33) rfl rfl ?_
    have hk7 : ¬ (up < lo) := (hup.resolve_left hc3).2
    refine g_icT X1 hx 52 (hb hby d1_34) (flt hk7).2.1 (by decide) (by decide) ?_
    refine g_aloadN X1 hx 53 (hb hby d1_52) rfl rfl rfl ?_
    refine g_iloadN X1 hx 54 (hb hby d1_53) rfl rfl ?_
    refine g_putF X1 hx 57 hZ hown (host := "") (Or.inl (own_w hw 10 rfl)) Via.refl e1 F_1 E_a (Or.inr ⟨(own_w hw 11 rfl), rfl, hnm⟩) (own_w hw 2 rfl) (ty := .int) (by decide) rfl rfl (hb hby d1_54) rfl (fun T8 h8 X8 e8 W8 => ?_)
    have E_a := E_a.wr W8
    have F_1 := F_1.same W8
    have F_2 := F_2.other W8 (Or.inr (slot_ne (Or.inr (own_w hw 13 rfl)) (Or.inr (own_w hw 11 rfl)) (by decide) (t := .int) (t' := .int) (by decide) (by decide)))
    have N8 := Fr.snoc X8 N0 g_a
    have Z8 : n0 ≤ h8.size := by rw [W8.size]; exact Z0
    have K8 := K0.wr W8 (Or.inl (List.mem_of_getElem? (i := 0) rfl))
    refine g_aloadN X8 hx 58 (hb hby d1_57) rfl rfl rfl ?_
    refine g_iloadN X8 hx 59 (hb hby d1_58) rfl rfl ?_
    refine g_putF X8 hx 62 hZ hown (host := "") (Or.inl (own_w hw 12 rfl)) Via.refl e8 F_2 E_a (Or.inr ⟨(own_w hw 13 rfl), rfl, hnm⟩) (own_w hw 2 rfl) (ty := .int) (by decide) rfl rfl (hb hby d1_59) rfl (fun T9 h9 X9 e9 W9 => ?_)
    have E_a := E_a.wr W9
    have F_1 := F_1.other W9 (Or.inr (slot_ne (Or.inr (own_w hw 11 rfl)) (Or.inr (own_w hw 13 rfl)) (by decide) (t := .int) (t' := .int) (by decide) (by decide)))
    have F_2 := F_2.same W9
    have N9 := Fr.snoc X9 N8 g_a
    have Z9 : n0 ≤ h9.size := by rw [W9.size]; exact Z8
    have K9 := K8.wr W9 (Or.inl (List.mem_of_getElem? (i := 0) rfl))
    exact g_retV X9 hx hret hlk (hb hby d1_62) (by decide) (by decide) (by rw [e9]; exact ⟨rfl, N9, K9, E_a, F_1, F_2⟩)
theorem d3_0 : decode prog_88_method_4_code 0 = .ok (.iload_n 1, 1) := by decide +kernel
theorem d3_1 : decode prog_88_method_4_code 1 = .ok (.aload_n 0, 1) := by decide +kernel
theorem d3_2 : decode prog_88_method_4_code 2 = .ok (.getfield 21, 3) := by decide +kernel
theorem d3_5 : decode prog_88_method_4_code 5 = .ok (.if_icmp .lt 23, 3) := by decide +kernel
theorem d3_28 : decode prog_88_method_4_code 28 = .ok (.iconst 0, 1) := by decide +kernel
theorem d3_29 : decode prog_88_method_4_code 29 = .ok (.ireturn, 1) := by decide +kernel
theorem d3_8 : decode prog_88_method_4_code 8 = .ok (.aload_n 0, 1) := by decide +kernel
theorem d3_9 : decode prog_88_method_4_code 9 = .ok (.getfield 25, 3) := by decide +kernel
theorem d3_12 : decode prog_88_method_4_code 12 = .ok (.iconst (-1), 1) := by decide +kernel
theorem d3_13 : decode prog_88_method_4_code 13 = .ok (.if_icmp .eq 11, 3) := by decide +kernel
theorem d3_24 : decode prog_88_method_4_code 24 = .ok (.iconst 1, 1) := by decide +kernel
theorem d3_25 : decode prog_88_method_4_code 25 = .ok (.goto 4, 3) := by decide +kernel
theorem d3_16 : decode prog_88_method_4_code 16 = .ok (.iload_n 1, 1) := by decide +kernel
theorem d3_17 : decode prog_88_method_4_code 17 = .ok (.aload_n 0, 1) := by decide +kernel
theorem d3_18 : decode prog_88_method_4_code 18 = .ok (.getfield 25, 3) := by decide +kernel
theorem d3_21 : decode prog_88_method_4_code 21 = .ok (.if_icmp .gt 7, 3) := by decide +kernel
set_option maxRecDepth 65536 in
set_option maxHeartbeats 40000000 in
theorem rm3 (l : Launch) (Z : State) (a0 : Array Value) (hw : ∀ d ∈ tables_1, d.before a0 Z = true) (a : Addr) (c lo up : Int32) (h0 : Heap) (n0 : Nat) (Z0 : n0 ≤ h0.size) (F_1 : Fld Z h0 a "com/example/oriel/oriel/ocl/Multiplicity" "lower" "I" (.int lo)) (F_2 : Fld Z h0 a "com/example/oriel/oriel/ocl/Multiplicity" "upper" "I" (.int up)) :
    OwnMet l Z (⟨"com/example/oriel/oriel/ocl/Multiplicity", "admits", "(I)Z"⟩ : MethodName) prog_88_method_4_code 2 (some .boolean) [] ({ frames := 0, cells := 0, slots := 0, locals := 0 } : Room) [(.ref a), (.int c)] h0 (fun v h L => v = some (.int (own_adm lo up c)) ∧ Fr n0 L ∧ h = h0) := by
  refine own_body (Ls := #[.val (.ref a), .val (.int c)]) (plainFor_of_name own_pn0) (fun m => by first | (simp [entryFrame, mkF, argsToLocals, Value.category]; done) | rfl) (fun p e s m below meth cO T0 hx hby hml hown hnm hret hlk hZ X0 e0 => ?_)
  have hown : s.vm.findClass "com/example/oriel/oriel/ocl/Multiplicity" = some m.cls := hown
  have N0 := Fr.nil n0
  refine g_iloadN X0 hx 1 (hb hby d3_0) rfl rfl ?_
  refine g_aloadN X0 hx 2 (hb hby d3_1) rfl rfl rfl ?_
  refine g_getF X0 hx 5 hZ hown (host := "") (Or.inl (own_w hw 10 rfl)) Via.refl e0 F_1 (hb hby d3_2) rfl (fun T1 X1 e1 => ?_)
  by_cases hc2 : c < lo
  · refine g_icT X1 hx 28 (hb hby d3_5) (tlt hc2).1 (by decide) (by decide) ?_
    refine g_iconst X1 hx 29 (0 : Int32) (hb hby d3_28) (by decide) rfl ?_
    exact g_retZ X1 hx hret hlk rfl (hb hby d3_29) (by decide) (by decide) ⟨by simp [own_adm, hc2], N0, e1⟩
  · refine g_icF X1 hx 8 (hb hby d3_5) (flt hc2).1 rfl ?_
    refine g_aloadN X1 hx 9 (hb hby d3_8) rfl rfl rfl ?_
    refine g_getF X1 hx 12 hZ hown (host := "") (Or.inl (own_w hw 12 rfl)) Via.refl e1 F_2 (hb hby d3_9) rfl (fun T3 X3 e3 => ?_)
    refine g_iconst X3 hx 13 (-1 : Int32) (hb hby d3_12) (by decide) rfl ?_
    by_cases hc4 : up = (-1 : Int32)
    · refine g_icT X3 hx 24 (hb hby d3_13) (teq hc4).1 (by decide) (by decide) ?_
      refine g_iconst X3 hx 25 (1 : Int32) (hb hby d3_24) (by decide) rfl ?_
      refine g_goto X3 hx 29 (hb hby d3_25) (by decide) (by decide) ?_
      exact g_retZ X3 hx hret hlk rfl (hb hby d3_29) (by decide) (by decide) ⟨by simp [own_adm, hc2, hc4], N0, e3⟩
    · refine g_icF X3 hx 16 (hb hby d3_13) (feq hc4).1 rfl ?_
      refine g_iloadN X3 hx 17 (hb hby d3_16) rfl rfl ?_
      refine g_aloadN X3 hx 18 (hb hby d3_17) rfl rfl rfl ?_
      refine g_getF X3 hx 21 hZ hown (host := "") (Or.inl (own_w hw 12 rfl)) Via.refl e3 F_2 (hb hby d3_18) rfl (fun T5 X5 e5 => ?_)
      by_cases hc6 : up < c
      · refine g_icT X5 hx 28 (hb hby d3_21) (tlt hc6).2.2.1 (by decide) (by decide) ?_
        refine g_iconst X5 hx 29 (0 : Int32) (hb hby d3_28) (by decide) rfl ?_
        exact g_retZ X5 hx hret hlk rfl (hb hby d3_29) (by decide) (by decide) ⟨by simp [own_adm, hc2, hc4, hc6], N0, e5⟩
      · refine g_icF X5 hx 24 (hb hby d3_21) (flt hc6).2.2.1 rfl ?_
        refine g_iconst X5 hx 25 (1 : Int32) (hb hby d3_24) (by decide) rfl ?_
        refine g_goto X5 hx 29 (hb hby d3_25) (by decide) (by decide) ?_
        exact g_retZ X5 hx hret hlk rfl (hb hby d3_29) (by decide) (by decide) ⟨by simp [own_adm, hc2, hc4, hc6], N0, e5⟩
theorem own_pn1 : plainName "com/example/oriel/oriel/ocl/MultiplicityAdmitsPinLaw" = true := by first | (simp [plainName, overriddenIn]; done) | decide +kernel
theorem own_pd0 : parseMethodDescriptor "(II)I" = some ⟨[.int, .int], some .int⟩ := by decide +kernel
theorem own_pd1 : parseMethodDescriptor "(II)V" = some ⟨[.int, .int], none⟩ := by decide +kernel
theorem own_pd2 : parseMethodDescriptor "(I)Z" = some ⟨[.int], some .boolean⟩ := by decide +kernel
set_option maxRecDepth 65536 in
set_option maxHeartbeats 40000000 in
theorem rm0 (l : Launch) (Z : State) (a0 : Array Value) (hw : ∀ d ∈ tables_1, d.before a0 Z = true) (a b cc fl : Int32) (h0 : Heap) (n0 : Nat) (Z0 : n0 ≤ h0.size)  :
    OwnMet l Z Jvm.Pilot.@@N@@.x code maxLocals ret tables_1 room_1 [(.int a), (.int b), (.int cc), (.int fl)] h0 (fun v h L => v = some (.int 1) ∧ Fr n0 L) := by
  refine own_body (Ls := #[.val (.int a), .val (.int b), .val (.int cc), .val (.int fl), .unset, .unset, .unset, .unset, .unset, .unset, .unset, .unset, .unset]) (plainFor_of_name own_pn1) (fun m => by first | (simp [entryFrame, mkF, argsToLocals, Value.category, maxLocals]; done) | rfl) (fun p e s m below meth cO T0 hx hby hml hown hnm hret hlk hZ X0 e0 => ?_)
  have hml : cO.maxLocals = 13 := hml
  have hown : s.vm.findClass "com/example/oriel/oriel/ocl/MultiplicityAdmitsPinLaw" = some m.cls := hown
  have N0 := Fr.nil n0
  refine g_iloadN X0 hx 1 (hb hby at_0) rfl rfl ?_
  refine g_ldcI X0 hx 3 hZ hown (own_w hw 0 rfl) (hb hby at_1) rfl ?_
  refine g_iand X0 hx 4 (a &&& (2147483647 : Int32)) (hb hby at_3) rfl rfl ?_
  refine g_istore X0 hx 6 #[.val (.int a), .val (.int b), .val (.int cc), .val (.int fl), .val (.int (a &&& (2147483647 : Int32))), .unset, .unset, .unset, .unset, .unset, .unset, .unset, .unset] (hb hby at_4) rfl rfl ?_
  refine g_iloadN X0 hx 7 (hb hby at_6) rfl rfl ?_
  refine g_iconst X0 hx 8 (1 : Int32) (hb hby at_7) (by decide) rfl ?_
  refine g_iand X0 hx 9 (fl &&& (1 : Int32)) (hb hby at_8) rfl rfl ?_
  by_cases hc1 : (fl &&& (1 : Int32)) = (0 : Int32)
  · refine g_ifT X0 hx 16 (hb hby at_9) ((if0 _ _).trans (teq hc1).1) (by decide) (by decide) ?_
    refine g_iconst X0 hx 17 (0 : Int32) (hb hby at_16) (by decide) rfl ?_
    refine g_istore X0 hx 19 #[.val (.int a), .val (.int b), .val (.int cc), .val (.int fl), .val (.int (a &&& (2147483647 : Int32))), .val (.int (0 : Int32)), .unset, .unset, .unset, .unset, .unset, .unset, .unset] (hb hby at_17) rfl rfl ?_
    refine g_iload X0 hx 21 (hb hby at_19) rfl rfl ?_
    refine g_ifT X0 hx 28 (hb hby at_21) (by decide) (by decide) (by decide) ?_
    refine g_iload X0 hx 30 (hb hby at_28) rfl rfl ?_
    refine g_iconst X0 hx 31 (1 : Int32) (hb hby at_30) (by decide) rfl ?_
    refine g_callS X0 hx 34 hZ hown (own_w hw 20 rfl) (own_w hw 21 rfl) (own_w hw 22 rfl) (own_w hw 23 rfl) (by decide) [(.int (a &&& (2147483647 : Int32))), (.int (1 : Int32))] [] (rm4 l Z a0 hw (a &&& (2147483647 : Int32)) (1 : Int32) h0 n0 Z0) e0 0 (by decide) (by decide) (by decide) (by decide) (by rw [hml]; rfl) (lenOf own_pd0 rfl) (hb hby at_31) rfl (Nat.le_of_eq rfl) rfl (fun v2 T2 L2 X2 hQ2 => ?_)
    obtain ⟨rfl, N2q, e2⟩ := hQ2
    have N2 := Fr.app N0 N2q
    show Go p e below _ _ T2 (mkF m 34 #[.val (.int a), .val (.int b), .val (.int cc), .val (.int fl), .val (.int (a &&& (2147483647 : Int32))), .val (.int (0 : Int32)), .unset, .unset, .unset, .unset, .unset, .unset, .unset] [(.int (own_max (a &&& (2147483647 : Int32)) (1 : Int32)))])
    refine g_iloadN X2 hx 35 (hb hby at_34) rfl rfl ?_
    refine g_ldcI X2 hx 37 hZ hown (own_w hw 0 rfl) (hb hby at_35) rfl ?_
    refine g_iand X2 hx 38 (b &&& (2147483647 : Int32)) (hb hby at_37) rfl rfl ?_
    refine g_callS X2 hx 41 hZ hown (own_w hw 20 rfl) (own_w hw 21 rfl) (own_w hw 22 rfl) (own_w hw 23 rfl) (by decide) [(.int (own_max (a &&& (2147483647 : Int32)) (1 : Int32))), (.int (b &&& (2147483647 : Int32)))] [] (rm4 l Z a0 hw (own_max (a &&& (2147483647 : Int32)) (1 : Int32)) (b &&& (2147483647 : Int32)) h0 n0 Z0) e2 0 (by decide) (by decide) (by decide) (by decide) (by rw [hml]; rfl) (lenOf own_pd0 rfl) (hb hby at_38) rfl (Nat.le_of_eq rfl) rfl (fun v3 T3 L3 X3 hQ3 => ?_)
    obtain ⟨rfl, N3q, e3⟩ := hQ3
    have N3 := Fr.app N2 N3q
    show Go p e below _ _ T3 (mkF m 41 #[.val (.int a), .val (.int b), .val (.int cc), .val (.int fl), .val (.int (a &&& (2147483647 : Int32))), .val (.int (0 : Int32)), .unset, .unset, .unset, .unset, .unset, .unset, .unset] [(.int (own_max (own_max (a &&& (2147483647 : Int32)) (1 : Int32)) (b &&& (2147483647 : Int32))))])
    refine g_istore X3 hx 43 #[.val (.int a), .val (.int b), .val (.int cc), .val (.int fl), .val (.int (a &&& (2147483647 : Int32))), .val (.int (0 : Int32)), .val (.int (own_max (own_max (a &&& (2147483647 : Int32)) (1 : Int32)) (b &&& (2147483647 : Int32)))), .unset, .unset, .unset, .unset, .unset, .unset] (hb hby at_41) rfl rfl ?_
    refine g_new X3 hx 46 hZ hown (own_w hw 1 rfl) (own_w hw 2 rfl) (own_w hw 3 rfl) e3 (hb hby at_43) (by decide) (by decide) rfl (fun T4 h4 b4 g4 X4 e4 E4 A4 D4 => ?_)
    have G_b4 : n0 ≤ b4 := Nat.le_trans Z0 (Nat.le_of_eq g4.symm)
    have Z4 : n0 ≤ h4.size := Nat.le_trans Z0 E4.1
    have E_b4 : Exa Z h4 b4 "com/example/oriel/oriel/ocl/Multiplicity" := A4
    have F_b4_lower : Fld Z h4 b4 "com/example/oriel/oriel/ocl/Multiplicity" "lower" "I" (.int (0 : Int32)) := D4 (Or.inr (own_w hw 11 rfl)) (ty := .int) (by decide)
    have F_b4_upper : Fld Z h4 b4 "com/example/oriel/oriel/ocl/Multiplicity" "upper" "I" (.int (0 : Int32)) := D4 (Or.inr (own_w hw 13 rfl)) (ty := .int) (by decide)
    refine g_dup X4 hx 47 (hb hby at_46) rfl rfl ?_
    refine g_iload X4 hx 49 (hb hby at_47) rfl rfl ?_
    refine g_iload X4 hx 51 (hb hby at_49) rfl rfl ?_
    refine g_callI X4 hx 54 hZ rfl hown (own_w hw 4 rfl) (own_w hw 5 rfl) (own_w hw 3 rfl) (own_w hw 6 rfl) (by decide) b4 [(.int (a &&& (2147483647 : Int32))), (.int (own_max (own_max (a &&& (2147483647 : Int32)) (1 : Int32)) (b &&& (2147483647 : Int32))))] [(.ref b4)] (rm1 l Z a0 hw b4 (a &&& (2147483647 : Int32)) (own_max (own_max (a &&& (2147483647 : Int32)) (1 : Int32)) (b &&& (2147483647 : Int32))) _ _ h4 n0 Z4 G_b4 E_b4 F_b4_lower F_b4_upper (own_nn a) (Or.inr (own_up _ _))) e4 1 (by decide) (by decide) (by decide) (by decide) (by rw [hml]; rfl) (lenOf own_pd1 rfl) (hb hby at_51) rfl (Nat.le_of_eq rfl) rfl (fun v5 T5 L5 X5 hQ5 => ?_)
    obtain ⟨rfl, N5q, K5, E5x, F1_b4, F2_b4⟩ := hQ5
    have N5 := Fr.app N3 N5q
    have E_b4 := E_b4.keep K5
    have Z5 := Nat.le_trans Z4 K5.1
    show Go p e below _ _ T5 (mkF m 54 #[.val (.int a), .val (.int b), .val (.int cc), .val (.int fl), .val (.int (a &&& (2147483647 : Int32))), .val (.int (0 : Int32)), .val (.int (own_max (own_max (a &&& (2147483647 : Int32)) (1 : Int32)) (b &&& (2147483647 : Int32)))), .unset, .unset, .unset, .unset, .unset, .unset] [(.ref b4)])
    refine g_astore X5 hx 56 #[.val (.int a), .val (.int b), .val (.int cc), .val (.int fl), .val (.int (a &&& (2147483647 : Int32))), .val (.int (0 : Int32)), .val (.int (own_max (own_max (a &&& (2147483647 : Int32)) (1 : Int32)) (b &&& (2147483647 : Int32)))), .val (.ref b4), .unset, .unset, .unset, .unset, .unset] (hb hby at_54) rfl rfl rfl ?_
    refine g_iload X5 hx 58 (hb hby at_56) rfl rfl ?_
    refine g_ifT X5 hx 67 (hb hby at_58) (by decide) (by decide) (by decide) ?_
    refine g_iload X5 hx 69 (hb hby at_67) rfl rfl ?_
    refine g_i2l X5 hx 70 ((own_max (own_max (a &&& (2147483647 : Int32)) (1 : Int32)) (b &&& (2147483647 : Int32))).toInt64) (hb hby at_69) rfl rfl ?_
    refine g_lstore X5 hx 72 #[.val (.int a), .val (.int b), .val (.int cc), .val (.int fl), .val (.int (a &&& (2147483647 : Int32))), .val (.int (0 : Int32)), .val (.int (own_max (own_max (a &&& (2147483647 : Int32)) (1 : Int32)) (b &&& (2147483647 : Int32)))), .val (.ref b4), .val (.long ((own_max (own_max (a &&& (2147483647 : Int32)) (1 : Int32)) (b &&& (2147483647 : Int32))).toInt64)), .second, .unset, .unset, .unset] (hb hby at_70) rfl rfl ?_
    refine g_iloadN X5 hx 73 (hb hby at_72) rfl rfl ?_
    refine g_i2l X5 hx 74 (cc.toInt64) (hb hby at_73) rfl rfl ?_
    refine g_lstore X5 hx 76 #[.val (.int a), .val (.int b), .val (.int cc), .val (.int fl), .val (.int (a &&& (2147483647 : Int32))), .val (.int (0 : Int32)), .val (.int (own_max (own_max (a &&& (2147483647 : Int32)) (1 : Int32)) (b &&& (2147483647 : Int32)))), .val (.ref b4), .val (.long ((own_max (own_max (a &&& (2147483647 : Int32)) (1 : Int32)) (b &&& (2147483647 : Int32))).toInt64)), .second, .val (.long (cc.toInt64)), .second, .unset] (hb hby at_74) rfl rfl ?_
    refine g_lload X5 hx 78 (hb hby at_76) rfl rfl ?_
    refine g_iload X5 hx 80 (hb hby at_78) rfl rfl ?_
    refine g_i2l X5 hx 81 ((a &&& (2147483647 : Int32)).toInt64) (hb hby at_80) rfl rfl ?_
    refine g_lsub X5 hx 82 ((cc.toInt64) - ((a &&& (2147483647 : Int32)).toInt64)) (hb hby at_81) rfl rfl ?_
    refine g_lconst X5 hx 83 (0 : Int64) (hb hby at_82) (by decide) rfl ?_
    refine g_lcmp X5 hx 84 (hb hby at_83) rfl ?_
    by_cases hc6 : ((cc.toInt64) - ((a &&& (2147483647 : Int32)).toInt64)) < (0 : Int64)
    · refine g_ifT X5 hx 101 (hb hby at_84) (own_ltL hc6).1 (by decide) (by decide) ?_
      refine g_iconst X5 hx 102 (0 : Int32) (hb hby at_101) (by decide) rfl ?_
      refine g_istore X5 hx 104 #[.val (.int a), .val (.int b), .val (.int cc), .val (.int fl), .val (.int (a &&& (2147483647 : Int32))), .val (.int (0 : Int32)), .val (.int (own_max (own_max (a &&& (2147483647 : Int32)) (1 : Int32)) (b &&& (2147483647 : Int32)))), .val (.ref b4), .val (.long ((own_max (own_max (a &&& (2147483647 : Int32)) (1 : Int32)) (b &&& (2147483647 : Int32))).toInt64)), .second, .val (.long (cc.toInt64)), .second, .val (.int (0 : Int32))] (hb hby at_102) rfl rfl ?_
      refine g_aload X5 hx 106 (hb hby at_104) rfl rfl rfl ?_
      refine g_iloadN X5 hx 107 (hb hby at_106) rfl rfl ?_
      refine g_callV X5 hx 110 hZ hown (own_w hw 15 rfl) (own_w hw 16 rfl) (own_w hw 18 rfl) (own_w hw 17 rfl) (own_w hw 3 rfl) (own_w hw 19 rfl) (by decide) b4 E_b4 [(.int cc)] [] (rm3 l Z a0 hw b4 cc (a &&& (2147483647 : Int32)) (own_max (own_max (a &&& (2147483647 : Int32)) (1 : Int32)) (b &&& (2147483647 : Int32))) T5.heap n0 Z5 F1_b4 F2_b4) rfl 0 (by decide) (by decide) (by decide) (by decide) (by rw [hml]; rfl) (lenOf own_pd2 rfl) (hb hby at_107) rfl (Nat.le_of_eq rfl) rfl (fun v7 T7 L7 X7 hQ7 => ?_)
      obtain ⟨rfl, N7q, e7⟩ := hQ7
      have N7 := Fr.app N5 N7q
      show Go p e below _ _ T7 (mkF m 110 #[.val (.int a), .val (.int b), .val (.int cc), .val (.int fl), .val (.int (a &&& (2147483647 : Int32))), .val (.int (0 : Int32)), .val (.int (own_max (own_max (a &&& (2147483647 : Int32)) (1 : Int32)) (b &&& (2147483647 : Int32)))), .val (.ref b4), .val (.long ((own_max (own_max (a &&& (2147483647 : Int32)) (1 : Int32)) (b &&& (2147483647 : Int32))).toInt64)), .second, .val (.long (cc.toInt64)), .second, .val (.int (0 : Int32))] [(.int (own_adm (a &&& (2147483647 : Int32)) (own_max (own_max (a &&& (2147483647 : Int32)) (1 : Int32)) (b &&& (2147483647 : Int32))) cc))])
      refine g_iload X7 hx 112 (hb hby at_110) rfl rfl ?_
      have r1 : cc < (a &&& (2147483647 : Int32)) := (own_ltz _ _).mp hc6
      have r3 := own_upne (a &&& (2147483647 : Int32)) (b &&& (2147483647 : Int32))
      have hk8 : (own_adm (a &&& (2147483647 : Int32)) (own_max (own_max (a &&& (2147483647 : Int32)) (1 : Int32)) (b &&& (2147483647 : Int32))) cc) = (0 : Int32) := by simp [own_adm, r1, r3]
      refine g_icF X7 hx 115 (hb hby at_112) (teq hk8).2 rfl ?_
      refine g_iconst X7 hx 116 (1 : Int32) (hb hby at_115) (by decide) rfl ?_
      refine g_goto X7 hx 120 (hb hby at_116) (by decide) (by decide) ?_
      exact g_retZ X7 hx hret hlk rfl (hb hby at_120) (by decide) (by decide) ⟨rfl, N7⟩
    · refine g_ifF X5 hx 87 (hb hby at_84) (own_nltL hc6).1 rfl ?_
      refine g_lload X5 hx 89 (hb hby at_87) rfl rfl ?_
      refine g_lload X5 hx 91 (hb hby at_89) rfl rfl ?_
      refine g_lsub X5 hx 92 (((own_max (own_max (a &&& (2147483647 : Int32)) (1 : Int32)) (b &&& (2147483647 : Int32))).toInt64) - (cc.toInt64)) (hb hby at_91) rfl rfl ?_
      refine g_lconst X5 hx 93 (0 : Int64) (hb hby at_92) (by decide) rfl ?_
      refine g_lcmp X5 hx 94 (hb hby at_93) rfl ?_
      by_cases hc9 : (((own_max (own_max (a &&& (2147483647 : Int32)) (1 : Int32)) (b &&& (2147483647 : Int32))).toInt64) - (cc.toInt64)) < (0 : Int64)
      · refine g_ifT X5 hx 101 (hb hby at_94) (own_ltL hc9).1 (by decide) (by decide) ?_
        refine g_iconst X5 hx 102 (0 : Int32) (hb hby at_101) (by decide) rfl ?_
        refine g_istore X5 hx 104 #[.val (.int a), .val (.int b), .val (.int cc), .val (.int fl), .val (.int (a &&& (2147483647 : Int32))), .val (.int (0 : Int32)), .val (.int (own_max (own_max (a &&& (2147483647 : Int32)) (1 : Int32)) (b &&& (2147483647 : Int32)))), .val (.ref b4), .val (.long ((own_max (own_max (a &&& (2147483647 : Int32)) (1 : Int32)) (b &&& (2147483647 : Int32))).toInt64)), .second, .val (.long (cc.toInt64)), .second, .val (.int (0 : Int32))] (hb hby at_102) rfl rfl ?_
        refine g_aload X5 hx 106 (hb hby at_104) rfl rfl rfl ?_
        refine g_iloadN X5 hx 107 (hb hby at_106) rfl rfl ?_
        refine g_callV X5 hx 110 hZ hown (own_w hw 15 rfl) (own_w hw 16 rfl) (own_w hw 18 rfl) (own_w hw 17 rfl) (own_w hw 3 rfl) (own_w hw 19 rfl) (by decide) b4 E_b4 [(.int cc)] [] (rm3 l Z a0 hw b4 cc (a &&& (2147483647 : Int32)) (own_max (own_max (a &&& (2147483647 : Int32)) (1 : Int32)) (b &&& (2147483647 : Int32))) T5.heap n0 Z5 F1_b4 F2_b4) rfl 0 (by decide) (by decide) (by decide) (by decide) (by rw [hml]; rfl) (lenOf own_pd2 rfl) (hb hby at_107) rfl (Nat.le_of_eq rfl) rfl (fun v10 T10 L10 X10 hQ10 => ?_)
        obtain ⟨rfl, N10q, e10⟩ := hQ10
        have N10 := Fr.app N5 N10q
        show Go p e below _ _ T10 (mkF m 110 #[.val (.int a), .val (.int b), .val (.int cc), .val (.int fl), .val (.int (a &&& (2147483647 : Int32))), .val (.int (0 : Int32)), .val (.int (own_max (own_max (a &&& (2147483647 : Int32)) (1 : Int32)) (b &&& (2147483647 : Int32)))), .val (.ref b4), .val (.long ((own_max (own_max (a &&& (2147483647 : Int32)) (1 : Int32)) (b &&& (2147483647 : Int32))).toInt64)), .second, .val (.long (cc.toInt64)), .second, .val (.int (0 : Int32))] [(.int (own_adm (a &&& (2147483647 : Int32)) (own_max (own_max (a &&& (2147483647 : Int32)) (1 : Int32)) (b &&& (2147483647 : Int32))) cc))])
        refine g_iload X10 hx 112 (hb hby at_110) rfl rfl ?_
        have r1 : ¬ cc < (a &&& (2147483647 : Int32)) := fun q => hc6 ((own_ltz _ _).mpr q)
        have r2 : (own_max (own_max (a &&& (2147483647 : Int32)) (1 : Int32)) (b &&& (2147483647 : Int32))) < cc := (own_ltz _ _).mp hc9
        have r3 := own_upne (a &&& (2147483647 : Int32)) (b &&& (2147483647 : Int32))
        have hk11 : (own_adm (a &&& (2147483647 : Int32)) (own_max (own_max (a &&& (2147483647 : Int32)) (1 : Int32)) (b &&& (2147483647 : Int32))) cc) = (0 : Int32) := by simp [own_adm, r1, r2, r3]
        refine g_icF X10 hx 115 (hb hby at_112) (teq hk11).2 rfl ?_
        refine g_iconst X10 hx 116 (1 : Int32) (hb hby at_115) (by decide) rfl ?_
        refine g_goto X10 hx 120 (hb hby at_116) (by decide) (by decide) ?_
        exact g_retZ X10 hx hret hlk rfl (hb hby at_120) (by decide) (by decide) ⟨rfl, N10⟩
      · refine g_ifF X5 hx 97 (hb hby at_94) (own_nltL hc9).1 rfl ?_
        refine g_iconst X5 hx 98 (1 : Int32) (hb hby at_97) (by decide) rfl ?_
        refine g_goto X5 hx 102 (hb hby at_98) (by decide) (by decide) ?_
        refine g_istore X5 hx 104 #[.val (.int a), .val (.int b), .val (.int cc), .val (.int fl), .val (.int (a &&& (2147483647 : Int32))), .val (.int (0 : Int32)), .val (.int (own_max (own_max (a &&& (2147483647 : Int32)) (1 : Int32)) (b &&& (2147483647 : Int32)))), .val (.ref b4), .val (.long ((own_max (own_max (a &&& (2147483647 : Int32)) (1 : Int32)) (b &&& (2147483647 : Int32))).toInt64)), .second, .val (.long (cc.toInt64)), .second, .val (.int (1 : Int32))] (hb hby at_102) rfl rfl ?_
        refine g_aload X5 hx 106 (hb hby at_104) rfl rfl rfl ?_
        refine g_iloadN X5 hx 107 (hb hby at_106) rfl rfl ?_
        refine g_callV X5 hx 110 hZ hown (own_w hw 15 rfl) (own_w hw 16 rfl) (own_w hw 18 rfl) (own_w hw 17 rfl) (own_w hw 3 rfl) (own_w hw 19 rfl) (by decide) b4 E_b4 [(.int cc)] [] (rm3 l Z a0 hw b4 cc (a &&& (2147483647 : Int32)) (own_max (own_max (a &&& (2147483647 : Int32)) (1 : Int32)) (b &&& (2147483647 : Int32))) T5.heap n0 Z5 F1_b4 F2_b4) rfl 0 (by decide) (by decide) (by decide) (by decide) (by rw [hml]; rfl) (lenOf own_pd2 rfl) (hb hby at_107) rfl (Nat.le_of_eq rfl) rfl (fun v12 T12 L12 X12 hQ12 => ?_)
        obtain ⟨rfl, N12q, e12⟩ := hQ12
        have N12 := Fr.app N5 N12q
        show Go p e below _ _ T12 (mkF m 110 #[.val (.int a), .val (.int b), .val (.int cc), .val (.int fl), .val (.int (a &&& (2147483647 : Int32))), .val (.int (0 : Int32)), .val (.int (own_max (own_max (a &&& (2147483647 : Int32)) (1 : Int32)) (b &&& (2147483647 : Int32)))), .val (.ref b4), .val (.long ((own_max (own_max (a &&& (2147483647 : Int32)) (1 : Int32)) (b &&& (2147483647 : Int32))).toInt64)), .second, .val (.long (cc.toInt64)), .second, .val (.int (1 : Int32))] [(.int (own_adm (a &&& (2147483647 : Int32)) (own_max (own_max (a &&& (2147483647 : Int32)) (1 : Int32)) (b &&& (2147483647 : Int32))) cc))])
        refine g_iload X12 hx 112 (hb hby at_110) rfl rfl ?_
        have r1 : ¬ cc < (a &&& (2147483647 : Int32)) := fun q => hc6 ((own_ltz _ _).mpr q)
        have r2 : ¬ (own_max (own_max (a &&& (2147483647 : Int32)) (1 : Int32)) (b &&& (2147483647 : Int32))) < cc := fun q => hc9 ((own_ltz _ _).mpr q)
        have r3 := own_upne (a &&& (2147483647 : Int32)) (b &&& (2147483647 : Int32))
        have hk13 : (own_adm (a &&& (2147483647 : Int32)) (own_max (own_max (a &&& (2147483647 : Int32)) (1 : Int32)) (b &&& (2147483647 : Int32))) cc) = (1 : Int32) := by simp [own_adm, r1, r2, r3]
        refine g_icF X12 hx 115 (hb hby at_112) (teq hk13).2 rfl ?_
        refine g_iconst X12 hx 116 (1 : Int32) (hb hby at_115) (by decide) rfl ?_
        refine g_goto X12 hx 120 (hb hby at_116) (by decide) (by decide) ?_
        exact g_retZ X12 hx hret hlk rfl (hb hby at_120) (by decide) (by decide) ⟨rfl, N12⟩
  · refine g_ifF X0 hx 12 (hb hby at_9) ((if0 _ _).trans (feq hc1).1) rfl ?_
    refine g_iconst X0 hx 13 (1 : Int32) (hb hby at_12) (by decide) rfl ?_
    refine g_goto X0 hx 17 (hb hby at_13) (by decide) (by decide) ?_
    refine g_istore X0 hx 19 #[.val (.int a), .val (.int b), .val (.int cc), .val (.int fl), .val (.int (a &&& (2147483647 : Int32))), .val (.int (1 : Int32)), .unset, .unset, .unset, .unset, .unset, .unset, .unset] (hb hby at_17) rfl rfl ?_
    refine g_iload X0 hx 21 (hb hby at_19) rfl rfl ?_
    refine g_ifF X0 hx 24 (hb hby at_21) (by decide) rfl ?_
    refine g_iconst X0 hx 25 (-1 : Int32) (hb hby at_24) (by decide) rfl ?_
    refine g_goto X0 hx 41 (hb hby at_25) (by decide) (by decide) ?_
    refine g_istore X0 hx 43 #[.val (.int a), .val (.int b), .val (.int cc), .val (.int fl), .val (.int (a &&& (2147483647 : Int32))), .val (.int (1 : Int32)), .val (.int (-1 : Int32)), .unset, .unset, .unset, .unset, .unset, .unset] (hb hby at_41) rfl rfl ?_
    refine g_new X0 hx 46 hZ hown (own_w hw 1 rfl) (own_w hw 2 rfl) (own_w hw 3 rfl) e0 (hb hby at_43) (by decide) (by decide) rfl (fun T14 h14 b14 g14 X14 e14 E14 A14 D14 => ?_)
    have G_b14 : n0 ≤ b14 := Nat.le_trans Z0 (Nat.le_of_eq g14.symm)
    have Z14 : n0 ≤ h14.size := Nat.le_trans Z0 E14.1
    have E_b14 : Exa Z h14 b14 "com/example/oriel/oriel/ocl/Multiplicity" := A14
    have F_b14_lower : Fld Z h14 b14 "com/example/oriel/oriel/ocl/Multiplicity" "lower" "I" (.int (0 : Int32)) := D14 (Or.inr (own_w hw 11 rfl)) (ty := .int) (by decide)
    have F_b14_upper : Fld Z h14 b14 "com/example/oriel/oriel/ocl/Multiplicity" "upper" "I" (.int (0 : Int32)) := D14 (Or.inr (own_w hw 13 rfl)) (ty := .int) (by decide)
    refine g_dup X14 hx 47 (hb hby at_46) rfl rfl ?_
    refine g_iload X14 hx 49 (hb hby at_47) rfl rfl ?_
    refine g_iload X14 hx 51 (hb hby at_49) rfl rfl ?_
    refine g_callI X14 hx 54 hZ rfl hown (own_w hw 4 rfl) (own_w hw 5 rfl) (own_w hw 3 rfl) (own_w hw 6 rfl) (by decide) b14 [(.int (a &&& (2147483647 : Int32))), (.int (-1 : Int32))] [(.ref b14)] (rm1 l Z a0 hw b14 (a &&& (2147483647 : Int32)) (-1 : Int32) _ _ h14 n0 Z14 G_b14 E_b14 F_b14_lower F_b14_upper (own_nn a) (Or.inl rfl)) e14 1 (by decide) (by decide) (by decide) (by decide) (by rw [hml]; rfl) (lenOf own_pd1 rfl) (hb hby at_51) rfl (Nat.le_of_eq rfl) rfl (fun v15 T15 L15 X15 hQ15 => ?_)
    obtain ⟨rfl, N15q, K15, E15x, F1_b14, F2_b14⟩ := hQ15
    have N15 := Fr.app N0 N15q
    have E_b14 := E_b14.keep K15
    have Z15 := Nat.le_trans Z14 K15.1
    show Go p e below _ _ T15 (mkF m 54 #[.val (.int a), .val (.int b), .val (.int cc), .val (.int fl), .val (.int (a &&& (2147483647 : Int32))), .val (.int (1 : Int32)), .val (.int (-1 : Int32)), .unset, .unset, .unset, .unset, .unset, .unset] [(.ref b14)])
    refine g_astore X15 hx 56 #[.val (.int a), .val (.int b), .val (.int cc), .val (.int fl), .val (.int (a &&& (2147483647 : Int32))), .val (.int (1 : Int32)), .val (.int (-1 : Int32)), .val (.ref b14), .unset, .unset, .unset, .unset, .unset] (hb hby at_54) rfl rfl rfl ?_
    refine g_iload X15 hx 58 (hb hby at_56) rfl rfl ?_
    refine g_ifF X15 hx 61 (hb hby at_58) (by decide) rfl ?_
    refine g_ldc2J X15 hx 64 hZ hown (own_w hw 14 rfl) (hb hby at_61) rfl ?_
    refine g_goto X15 hx 70 (hb hby at_64) (by decide) (by decide) ?_
    refine g_lstore X15 hx 72 #[.val (.int a), .val (.int b), .val (.int cc), .val (.int fl), .val (.int (a &&& (2147483647 : Int32))), .val (.int (1 : Int32)), .val (.int (-1 : Int32)), .val (.ref b14), .val (.long (2147483648 : Int64)), .second, .unset, .unset, .unset] (hb hby at_70) rfl rfl ?_
    refine g_iloadN X15 hx 73 (hb hby at_72) rfl rfl ?_
    refine g_i2l X15 hx 74 (cc.toInt64) (hb hby at_73) rfl rfl ?_
    refine g_lstore X15 hx 76 #[.val (.int a), .val (.int b), .val (.int cc), .val (.int fl), .val (.int (a &&& (2147483647 : Int32))), .val (.int (1 : Int32)), .val (.int (-1 : Int32)), .val (.ref b14), .val (.long (2147483648 : Int64)), .second, .val (.long (cc.toInt64)), .second, .unset] (hb hby at_74) rfl rfl ?_
    refine g_lload X15 hx 78 (hb hby at_76) rfl rfl ?_
    refine g_iload X15 hx 80 (hb hby at_78) rfl rfl ?_
    refine g_i2l X15 hx 81 ((a &&& (2147483647 : Int32)).toInt64) (hb hby at_80) rfl rfl ?_
    refine g_lsub X15 hx 82 ((cc.toInt64) - ((a &&& (2147483647 : Int32)).toInt64)) (hb hby at_81) rfl rfl ?_
    refine g_lconst X15 hx 83 (0 : Int64) (hb hby at_82) (by decide) rfl ?_
    refine g_lcmp X15 hx 84 (hb hby at_83) rfl ?_
    by_cases hc16 : ((cc.toInt64) - ((a &&& (2147483647 : Int32)).toInt64)) < (0 : Int64)
    · refine g_ifT X15 hx 101 (hb hby at_84) (own_ltL hc16).1 (by decide) (by decide) ?_
      refine g_iconst X15 hx 102 (0 : Int32) (hb hby at_101) (by decide) rfl ?_
      refine g_istore X15 hx 104 #[.val (.int a), .val (.int b), .val (.int cc), .val (.int fl), .val (.int (a &&& (2147483647 : Int32))), .val (.int (1 : Int32)), .val (.int (-1 : Int32)), .val (.ref b14), .val (.long (2147483648 : Int64)), .second, .val (.long (cc.toInt64)), .second, .val (.int (0 : Int32))] (hb hby at_102) rfl rfl ?_
      refine g_aload X15 hx 106 (hb hby at_104) rfl rfl rfl ?_
      refine g_iloadN X15 hx 107 (hb hby at_106) rfl rfl ?_
      refine g_callV X15 hx 110 hZ hown (own_w hw 15 rfl) (own_w hw 16 rfl) (own_w hw 18 rfl) (own_w hw 17 rfl) (own_w hw 3 rfl) (own_w hw 19 rfl) (by decide) b14 E_b14 [(.int cc)] [] (rm3 l Z a0 hw b14 cc (a &&& (2147483647 : Int32)) (-1 : Int32) T15.heap n0 Z15 F1_b14 F2_b14) rfl 0 (by decide) (by decide) (by decide) (by decide) (by rw [hml]; rfl) (lenOf own_pd2 rfl) (hb hby at_107) rfl (Nat.le_of_eq rfl) rfl (fun v17 T17 L17 X17 hQ17 => ?_)
      obtain ⟨rfl, N17q, e17⟩ := hQ17
      have N17 := Fr.app N15 N17q
      show Go p e below _ _ T17 (mkF m 110 #[.val (.int a), .val (.int b), .val (.int cc), .val (.int fl), .val (.int (a &&& (2147483647 : Int32))), .val (.int (1 : Int32)), .val (.int (-1 : Int32)), .val (.ref b14), .val (.long (2147483648 : Int64)), .second, .val (.long (cc.toInt64)), .second, .val (.int (0 : Int32))] [(.int (own_adm (a &&& (2147483647 : Int32)) (-1 : Int32) cc))])
      refine g_iload X17 hx 112 (hb hby at_110) rfl rfl ?_
      have r1 : cc < (a &&& (2147483647 : Int32)) := (own_ltz _ _).mp hc16
      have hk18 : (own_adm (a &&& (2147483647 : Int32)) (-1 : Int32) cc) = (0 : Int32) := by simp [own_adm, r1]
      refine g_icF X17 hx 115 (hb hby at_112) (teq hk18).2 rfl ?_
      refine g_iconst X17 hx 116 (1 : Int32) (hb hby at_115) (by decide) rfl ?_
      refine g_goto X17 hx 120 (hb hby at_116) (by decide) (by decide) ?_
      exact g_retZ X17 hx hret hlk rfl (hb hby at_120) (by decide) (by decide) ⟨rfl, N17⟩
    · refine g_ifF X15 hx 87 (hb hby at_84) (own_nltL hc16).1 rfl ?_
      refine g_lload X15 hx 89 (hb hby at_87) rfl rfl ?_
      refine g_lload X15 hx 91 (hb hby at_89) rfl rfl ?_
      refine g_lsub X15 hx 92 ((2147483648 : Int64) - (cc.toInt64)) (hb hby at_91) rfl rfl ?_
      refine g_lconst X15 hx 93 (0 : Int64) (hb hby at_92) (by decide) rfl ?_
      refine g_lcmp X15 hx 94 (hb hby at_93) rfl ?_
      have hk19 : ¬ (((2147483648 : Int64) - (cc.toInt64)) < (0 : Int64)) := own_top cc
      refine g_ifF X15 hx 97 (hb hby at_94) (own_nltL hk19).1 rfl ?_
      refine g_iconst X15 hx 98 (1 : Int32) (hb hby at_97) (by decide) rfl ?_
      refine g_goto X15 hx 102 (hb hby at_98) (by decide) (by decide) ?_
      refine g_istore X15 hx 104 #[.val (.int a), .val (.int b), .val (.int cc), .val (.int fl), .val (.int (a &&& (2147483647 : Int32))), .val (.int (1 : Int32)), .val (.int (-1 : Int32)), .val (.ref b14), .val (.long (2147483648 : Int64)), .second, .val (.long (cc.toInt64)), .second, .val (.int (1 : Int32))] (hb hby at_102) rfl rfl ?_
      refine g_aload X15 hx 106 (hb hby at_104) rfl rfl rfl ?_
      refine g_iloadN X15 hx 107 (hb hby at_106) rfl rfl ?_
      refine g_callV X15 hx 110 hZ hown (own_w hw 15 rfl) (own_w hw 16 rfl) (own_w hw 18 rfl) (own_w hw 17 rfl) (own_w hw 3 rfl) (own_w hw 19 rfl) (by decide) b14 E_b14 [(.int cc)] [] (rm3 l Z a0 hw b14 cc (a &&& (2147483647 : Int32)) (-1 : Int32) T15.heap n0 Z15 F1_b14 F2_b14) rfl 0 (by decide) (by decide) (by decide) (by decide) (by rw [hml]; rfl) (lenOf own_pd2 rfl) (hb hby at_107) rfl (Nat.le_of_eq rfl) rfl (fun v20 T20 L20 X20 hQ20 => ?_)
      obtain ⟨rfl, N20q, e20⟩ := hQ20
      have N20 := Fr.app N15 N20q
      show Go p e below _ _ T20 (mkF m 110 #[.val (.int a), .val (.int b), .val (.int cc), .val (.int fl), .val (.int (a &&& (2147483647 : Int32))), .val (.int (1 : Int32)), .val (.int (-1 : Int32)), .val (.ref b14), .val (.long (2147483648 : Int64)), .second, .val (.long (cc.toInt64)), .second, .val (.int (1 : Int32))] [(.int (own_adm (a &&& (2147483647 : Int32)) (-1 : Int32) cc))])
      refine g_iload X20 hx 112 (hb hby at_110) rfl rfl ?_
      have r1 : ¬ cc < (a &&& (2147483647 : Int32)) := fun q => hc16 ((own_ltz _ _).mpr q)
      have hk21 : (own_adm (a &&& (2147483647 : Int32)) (-1 : Int32) cc) = (1 : Int32) := by simp [own_adm, r1]
      refine g_icF X20 hx 115 (hb hby at_112) (teq hk21).2 rfl ?_
      refine g_iconst X20 hx 116 (1 : Int32) (hb hby at_115) (by decide) rfl ?_
      refine g_goto X20 hx 120 (hb hby at_116) (by decide) (by decide) ?_
      exact g_retZ X20 hx hret hlk rfl (hb hby at_120) (by decide) (by decide) ⟨rfl, N20⟩
set_option maxRecDepth 65536 in
set_option maxHeartbeats 40000000 in
theorem comes_1 {Post : Tables → Env → Array Value → State → Outcome → State → Prop} (hpost : ∀ tb e args s v u, (limb_1_1.after args s (.returned v) u = true ∧ limb_1_2.after args s (.returned v) u = true ∧ True) → FrameEnd s (.returned v) u (Jvm.fieldLocs frame_1_writes args s ++ Jvm.arrayLocs frame_1_arrays args s ++ Jvm.staticLocs frame_1_statics s) 16 128 → Post tb e args s (.returned v) u) :
    ArmFor flags0 classFile x code maxLocals ret World_1 tables_1 room_1 Calls_1 rest_1 Pre_1 Post := by
  intro l hfl _ _ p e ha hc hk s m args below hf hA hF happ hP
  obtain ⟨hcalls, hrest, hpre⟩ := hP
  obtain ⟨-, -, -, hnamed, -, -, -, hat⟩ := (Spec.applies_iff hf).mp happ
  obtain ⟨hg, hn⟩ := and_e (Cond.before_iff.mp (show (Jvm.Cond.and given_1 narrow_1).before args s = true from hpre))
  obtain ⟨ga1, gb1⟩ := and_e hg
  obtain ⟨ga2, gb2⟩ := and_e gb1
  obtain ⟨ga3, gb3⟩ := and_e gb2
  obtain ⟨ga4, gb4⟩ := and_e gb3
  obtain ⟨w0, w1, w2, w3, rfl⟩ : ∃ w0 w1 w2 w3 : Value, args = #[w0, w1, w2, w3] := by
    have hs : args.size = 4 := by simpa [Cond.value, given_1] using ga1
    obtain ⟨L⟩ := args
    match L, hs with
    | [w0, w1, w2, w3], _ => exact ⟨w0, w1, w2, w3, rfl⟩
  have hw := fun d (hd : d ∈ tables_1) => atoms_spec (ws := Jvm.Cond.code x code maxLocals ret :: tables_1) hat d (List.mem_cons_of_mem _ hd)
  have hfit : Fit s := fun {y c} hc i hi => by
    obtain ⟨ha, rfl⟩ := Array.getElem?_eq_some_iff.mp hc
    have q := List.all_eq_true.mp ((Array.all_eq_true_iff_forall_mem.mp hF) _ (Array.getElem_mem ha)) i (List.mem_range.mpr hi)
    simpa [Array.getElem?_eq_getElem hi] using q
  obtain ⟨i0, ei0⟩ := is_v ga2
  obtain rfl : w0 = (.int i0) := Option.some.inj ei0
  obtain ⟨i1, ei1⟩ := is_v ga3
  obtain rfl : w1 = (.int i1) := Option.some.inj ei1
  obtain ⟨i2, ei2⟩ := is_v ga4
  obtain rfl : w2 = (.int i2) := Option.some.inj ei2
  obtain ⟨i3, ei3⟩ := is_v gb4
  obtain rfl : w3 = (.int i3) := Option.some.inj ei3
  obtain ⟨n, o, h1, h2, h3, _, L, rfl, ⟨rfl, N⟩, hq⟩ := rm0 l s _ hw i0 i1 i2 i3  s.heap s.heap.size (Nat.le_refl _)  p e ha hc hk s m _ below hf ((Spec.applies_iff_loose hf).mp happ).1 ⟨rfl, State.Warmed39.refl s, rfl⟩ trivial
  refine ⟨n, _, h1, h2, h3, hpost _ _ _ _ _ _ ⟨Cond.after_iff.mpr rfl, Cond.after_iff.mpr (eq_i res_at (Term.int_eval (1)) rfl), trivial⟩ ⟨hq.1, hq.2.1, (hq.2.2.sift fun y hy => Or.inr (N y hy)).mono (by decide) (by decide)⟩⟩
theorem main_1_1 : Claimed_1_1 := comes_1 fun _ _ _ _ _ _ h hF => ⟨h.1, hF⟩
theorem main_1_2 : Claimed_1_2 := comes_1 fun _ _ _ _ _ _ h hF => ⟨h.2.1, hF⟩
end Jvm.Pilot.@@N@@
namespace Jvm.Pilot.@@N@@
open Jvm Jvm.ClassFile Sem Op Lib Jvm.Free Jvm.Stand Jvm.Pilot.@@N@@.Jvm.D
/-! MADE BY PROGRAM (witnessworld.py) out of the Statement's table words and the real class files: 10 classes; the members and pool entries that the words name. The judged class is class 1, her method 1. -/
namespace start1
open Jvm.ClassFile
def u (s : String) : CpInfo := .utf8 (stringToUtf16 s)
/-- a pool by its gaps: so many unusable entries, then the entry; so many at the end -/
def gap : Nat → List CpInfo → List CpInfo
  | 0, r => r
  | n + 1, r => .unusable :: gap n r
def poolList (es : List (Nat × CpInfo)) (last : Nat) : List CpInfo := es.foldr (fun e r => gap e.1 (e.2 :: r)) (gap last [])
def pool (es : List (Nat × CpInfo)) (last : Nat) : Array CpInfo := ⟨poolList es last⟩
def fileOf (pool : Array CpInfo) (this : Nat) (attrs : Array Attribute := #[]) (ms : Array MethodInfo := #[]) (fl : Nat := 33) (sup : Nat := 0) (ifs : Array Nat := #[]) (fds : Array FieldInfo := #[]) : ClassFile where
  minorVersion := 0
  majorVersion := 65
  constantPool := pool
  accessFlags := fl
  thisClass := this
  superClass := sup
  interfaces := ifs
  fields := fds
  methods := ms
  attributes := attrs
def plain (name : String) (sup : Option ClassId) : Class where
  name := name
  kind := .ordinary
  loader := none
  accessFlags := 33
  super := sup
  interfaces := #[]
  cf := none
  fields := #[]
  methods := #[]
  instanceTypes := #[]
  staticTypes := #[]
  resolved := #[]
  callSites := []
  init := .initialized
  statics := none
  mirror := none

def pool0 : Array CpInfo := pool [(5, u "<init>"), (0, u "()V"), (1, .class_ 10), (1, u "java/lang/Object")] 113

def k0c0 : Code := { maxStack := 0, maxLocals := 1, code := object_method_1_code, exceptionTable := #[], attributes := #[] }
def k0m0 : Method := { name := "<init>", desc := "()V", sig := { parameters := [], returnType := none }, accessFlags := 1, code := some k0c0 }
/-- java/lang/Object -/
def k0 : Class := { plain "java/lang/Object" none with
  accessFlags := 33
  interfaces := #[]
  cf := some (fileOf pool0 8 #[] #[{ accessFlags := 1, nameIndex := 5, descriptorIndex := 6, attributes := #[] }] 33 0 #[] #[])
  fields := #[]
  methods := #[k0m0]
  instanceTypes := #[]
  staticTypes := #[]
  resolved := Array.replicate 124 none
  statics := none }

def pool1 : Array CpInfo := pool [(2, .class_ 4), (1, u "java/lang/Object"), (0, u "<init>"), (0, u "()V"), (0, .integer 2147483647), (0, .class_ 9), (0, u "com/example/oriel/oriel/ocl/Multiplicity"), (0, .methodref 11 12), (0, .class_ 13), (0, .nameAndType 14 15), (0, u "java/lang/Math"), (0, u "max"), (0, u "(II)I"), (0, .methodref 8 17), (0, .nameAndType 5 18), (0, u "(II)V"), (0, .long 2147483648), (1, .methodref 8 22), (0, .nameAndType 23 24), (0, u "admits"), (0, u "(I)Z"), (0, .class_ 26), (0, u "com/example/oriel/oriel/ocl/MultiplicityAdmitsPinLaw"), (2, u "law"), (0, u "(IIII)Z")] 3

def k1m0 : Method := { name := "<init>", desc := "()V", sig := { parameters := [], returnType := none }, accessFlags := 1, code := none }
def k1c1 : Code := { maxStack := 4, maxLocals := 13, code := code, exceptionTable := #[], attributes := #[] }
def k1m1 : Method := { name := "law", desc := "(IIII)Z", sig := { parameters := [.int, .int, .int, .int], returnType := some .boolean }, accessFlags := 9, code := some k1c1 }
/-- com/example/oriel/oriel/ocl/MultiplicityAdmitsPinLaw -/
def k1 : Class := { plain "com/example/oriel/oriel/ocl/MultiplicityAdmitsPinLaw" (some 0) with
  accessFlags := 49
  interfaces := #[]
  cf := some (fileOf pool1 25 #[] #[{ accessFlags := 1, nameIndex := 5, descriptorIndex := 6, attributes := #[] }, { accessFlags := 9, nameIndex := 29, descriptorIndex := 30, attributes := #[] }] 49 2 #[] #[])
  fields := #[]
  methods := #[k1m0, k1m1]
  instanceTypes := #[]
  staticTypes := #[]
  resolved := Array.replicate 34 none
  statics := none }

def pool2 : Array CpInfo := pool [(1, .methodref 2 3), (0, .class_ 4), (0, .nameAndType 5 6), (0, u "java/lang/Object"), (0, u "<init>"), (0, u "()V"), (9, .class_ 17), (0, u "com/example/oriel/oriel/ocl/Multiplicity"), (3, .fieldref 16 22), (0, .nameAndType 23 24), (0, u "lower"), (0, u "I"), (0, .fieldref 16 26), (0, .nameAndType 27 24), (0, u "upper"), (11, u "UNBOUNDED"), (2, u "(II)V"), (4, u "admits"), (0, u "(I)Z")] 28

def k2c0 : Code := { maxStack := 4, maxLocals := 3, code := prog_88_method_1_code, exceptionTable := #[], attributes := #[] }
def k2m0 : Method := { name := "<init>", desc := "(II)V", sig := { parameters := [.int, .int], returnType := none }, accessFlags := 1, code := some k2c0 }
def k2c1 : Code := { maxStack := 2, maxLocals := 2, code := prog_88_method_4_code, exceptionTable := #[], attributes := #[] }
def k2m1 : Method := { name := "admits", desc := "(I)Z", sig := { parameters := [.int], returnType := some .boolean }, accessFlags := 1, code := some k2c1 }
/-- com/example/oriel/oriel/ocl/Multiplicity -/
def k2 : Class := { plain "com/example/oriel/oriel/ocl/Multiplicity" (some 0) with
  accessFlags := 49
  interfaces := #[]
  cf := some (fileOf pool2 16 #[] #[{ accessFlags := 1, nameIndex := 5, descriptorIndex := 42, attributes := #[] }, { accessFlags := 1, nameIndex := 47, descriptorIndex := 48, attributes := #[] }] 49 2 #[] #[{ accessFlags := 25, nameIndex := 39, descriptorIndex := 24, attributes := #[] }, { accessFlags := 18, nameIndex := 23, descriptorIndex := 24, attributes := #[] }, { accessFlags := 18, nameIndex := 27, descriptorIndex := 24, attributes := #[] }])
  fields := #[{ name := "UNBOUNDED", type := .int, accessFlags := 25, slot := 0, constantValue := 0 }, { name := "lower", type := .int, accessFlags := 18, slot := 0, constantValue := 0 }, { name := "upper", type := .int, accessFlags := 18, slot := 1, constantValue := 0 }]
  methods := #[k2m0, k2m1]
  instanceTypes := #[.int, .int]
  staticTypes := #[.int]
  resolved := Array.replicate 77 none
  statics := none }

def pool3 : Array CpInfo := pool [(1, .class_ 2), (0, u "java/lang/Math"), (1, .class_ 6), (1, u "java/lang/Object"), (0, u "<init>"), (0, u "()V"), (89, .class_ 100), (1, u "java/lang/Math$RandomNumberGeneratorHolder"), (71, u "negativeZeroFloatBits"), (0, u "J"), (2, u "negativeZeroDoubleBits"), (21, u "max"), (46, u "$assertionsDisabled"), (0, u "Z"), (88, u "(II)I"), (2, u "twoToTheDoubleScaleDown"), (0, u "D"), (4, u "twoToTheDoubleScaleUp"), (9, u "E"), (3, u "PI"), (2, u "TAU"), (2, u "DEGREES_TO_RADIANS"), (0, u "RADIANS_TO_DEGREES")] 94

def k3m0 : Method := { name := "<init>", desc := "()V", sig := { parameters := [], returnType := none }, accessFlags := 2, code := none }
def k3c1 : Code := { maxStack := 2, maxLocals := 2, code := jdk_29_method_65_code, exceptionTable := #[], attributes := #[] }
def k3m1 : Method := { name := "max", desc := "(II)I", sig := { parameters := [.int, .int], returnType := some .int }, accessFlags := 9, code := some k3c1 }
/-- java/lang/Math -/
def k3 : Class := { plain "java/lang/Math" (some 0) with
  accessFlags := 49
  interfaces := #[]
  cf := some (fileOf pool3 1 #[.nestMembers #[98]] #[{ accessFlags := 2, nameIndex := 7, descriptorIndex := 8, attributes := #[] }, { accessFlags := 9, nameIndex := 198, descriptorIndex := 335, attributes := #[] }] 49 4 #[] #[{ accessFlags := 25, nameIndex := 354, descriptorIndex := 339, attributes := #[] }, { accessFlags := 25, nameIndex := 358, descriptorIndex := 339, attributes := #[] }, { accessFlags := 25, nameIndex := 361, descriptorIndex := 339, attributes := #[] }, { accessFlags := 26, nameIndex := 364, descriptorIndex := 339, attributes := #[] }, { accessFlags := 26, nameIndex := 365, descriptorIndex := 339, attributes := #[] }, { accessFlags := 26, nameIndex := 172, descriptorIndex := 173, attributes := #[] }, { accessFlags := 26, nameIndex := 176, descriptorIndex := 173, attributes := #[] }, { accessFlags := 8, nameIndex := 344, descriptorIndex := 339, attributes := #[] }, { accessFlags := 8, nameIndex := 338, descriptorIndex := 339, attributes := #[] }, { accessFlags := 4120, nameIndex := 245, descriptorIndex := 246, attributes := #[] }])
  fields := #[{ name := "E", type := .double, accessFlags := 25, slot := 0, constantValue := 0 }, { name := "PI", type := .double, accessFlags := 25, slot := 1, constantValue := 0 }, { name := "TAU", type := .double, accessFlags := 25, slot := 2, constantValue := 0 }, { name := "DEGREES_TO_RADIANS", type := .double, accessFlags := 26, slot := 3, constantValue := 0 }, { name := "RADIANS_TO_DEGREES", type := .double, accessFlags := 26, slot := 4, constantValue := 0 }, { name := "negativeZeroFloatBits", type := .long, accessFlags := 26, slot := 5, constantValue := 0 }, { name := "negativeZeroDoubleBits", type := .long, accessFlags := 26, slot := 6, constantValue := 0 }, { name := "twoToTheDoubleScaleUp", type := .double, accessFlags := 8, slot := 7, constantValue := 0 }, { name := "twoToTheDoubleScaleDown", type := .double, accessFlags := 8, slot := 8, constantValue := 0 }, { name := "$assertionsDisabled", type := .boolean, accessFlags := 4120, slot := 9, constantValue := 0 }]
  methods := #[k3m0, k3m1]
  instanceTypes := #[]
  staticTypes := #[.double, .double, .double, .double, .double, .long, .long, .double, .double, .boolean]
  resolved := Array.replicate 460 none
  statics := none }

def pool4 : Array CpInfo := pool [(1, u "java/lang/Cloneable"), (0, .class_ 1), (0, u "java/lang/Object"), (0, .class_ 3)] 3

/-- java/lang/Cloneable -/
def k4 : Class := { plain "java/lang/Cloneable" (some 0) with
  accessFlags := 1537
  interfaces := #[]
  cf := some (fileOf pool4 2 #[] #[] 1537 4 #[] #[])
  fields := #[]
  methods := #[]
  instanceTypes := #[]
  staticTypes := #[]
  resolved := Array.replicate 8 none
  statics := none }

def pool5 : Array CpInfo := pool [(1, u "java/io/Serializable"), (0, .class_ 1), (0, u "java/lang/Object"), (0, .class_ 3)] 3

/-- java/io/Serializable -/
def k5 : Class := { plain "java/io/Serializable" (some 0) with
  accessFlags := 1537
  interfaces := #[]
  cf := some (fileOf pool5 2 #[] #[] 1537 4 #[] #[])
  fields := #[]
  methods := #[]
  instanceTypes := #[]
  staticTypes := #[]
  resolved := Array.replicate 8 none
  statics := none }

/-- the primitive byte -/
def k6 : Class := { plain "byte" none with kind := .primitive 'B', accessFlags := 0x411 }
/-- [B -/
def k7 : Class := { plain "[B" (some 0) with kind := .array 6 .byte, interfaces := #[4, 5], accessFlags := 1041 }

/-- the primitive int -/
def k8 : Class := { plain "int" none with kind := .primitive 'I', accessFlags := 0x411 }
/-- [I -/
def k9 : Class := { plain "[I" (some 0) with kind := .array 8 .int, interfaces := #[4, 5], accessFlags := 1041 }

def heap : Heap := #[]
def classes : Array Class := #[k0, k1, k2, k3, k4, k5, k6, k7, k8, k9]
def interned : List (Array UInt16 × Addr) := []
def slotsUsed : Nat := 0
def theMethod : MethodId := ⟨1, 1⟩
def args0 : Array Value := #[.int 5, .int 9, .int 3, .int 2]
def aboutOver (below : List Frame) : State where
  vm := { classes := classes, interned := interned.toArray }
  heap := heap
  slotsUsed := slotsUsed
  threads := #[{ frames := .invoking theMethod args0 :: below }]
def below0 : List Frame := [.native { method := ⟨0, 0⟩, args := #[] }]
def about1 : State := aboutOver below0
def p0 : Program := .bare "" "" ""
def e0 : Env := launch0.env 0 0 0
theorem w_frames : about1.frames = Frame.invoking theMethod args0 :: below0 := rfl
set_option maxRecDepth 65536 in
theorem w_args : argsFit about1.vm theMethod args0 = true := by decide +kernel
set_option maxRecDepth 65536 in
theorem w_heap : heapFits about1 = true := by decide +kernel
set_option maxRecDepth 65536 in
theorem w_runnable : about1.curStatus? = some .runnable := by decide +kernel
set_option maxRecDepth 65536 in
theorem w_alone : about1.alone = true := by decide +kernel
set_option maxRecDepth 65536 in
theorem w_named : about1.methodNamed? x = some theMethod := by decide +kernel
set_option maxRecDepth 65536 in
theorem w_hears : about1.hears theMethod below0 = true := by decide +kernel
set_option maxRecDepth 65536 in
theorem w_ripe : about1.ripe theMethod args0 below0 = true := by decide +kernel
theorem w_running : about1.status = .running := rfl
set_option maxRecDepth 65536 in
theorem w_room : about1.hasRoom e0.platform room_1 = true :=
  launch0.hasRoom_least _ room_1 (by decide +kernel) (by decide +kernel) (by decide +kernel) (by decide +kernel) (by decide +kernel) (by decide +kernel)
theorem allAtoms_all (ts : List Jvm.Cond) (a : Array Jvm.Value) (st : Jvm.State) : (allAtoms ts).before a st = ts.all (fun c => c.before a st) := by
  induction ts with
  | nil => rfl
  | cons c t ih =>
    show (Jvm.Cond.and c (allAtoms t)).before a st = _
    rw [Jvm.Cond.before_and, ih, List.all_cons]
def words1 : List Jvm.Cond := Jvm.Cond.code x code maxLocals ret :: tables_1
/-- a 'code' word, met by the world's own term for the bytes: nothing is compared byte by byte -/
theorem code_word {y : MethodName} {bytes : ByteArray} {mx : Nat} {rt : Option FieldType} {a : Array Value} {s : State} {m : MethodId} {meth : Method} {c : Code} (h1 : s.methodNamed? y = some m) (h2 : s.vm.method? m = some meth) (h3 : meth.code = some c) (h4 : c.code = bytes)
    (h5 : (c.maxLocals == mx && c.exceptionTable.isEmpty && decide (c.maxStack ≤ mostOperands) && decide (meth.sig.returnType = rt) && !meth.locks && decide (parseMethodDescriptor y.desc = some meth.sig)) = true) : (Jvm.Cond.code y bytes mx rt).before a s = true := by
  simp only [Bool.and_eq_true, beq_iff_eq, Bool.not_eq_true', decide_eq_true_eq] at h5
  obtain ⟨⟨⟨⟨⟨g1, g2⟩, g3⟩, g4⟩, g5⟩, g6⟩ := h5
  simp [Cond.before, Cond.holds, Cond.value, h1, h2, h3, h4, g1, g2, g3, g4, g5, g6]
def isCode : Jvm.Cond → Bool
  | .code _ _ _ _ => true
  | _ => false
theorem all_split {L : List Jvm.Cond} {P : Jvm.Cond → Bool} (h1 : L.all (fun c => isCode c || P c) = true) (h2 : ∀ c ∈ L.filter isCode, P c = true) : L.all P = true := by
  refine List.all_eq_true.mpr fun c hc => ?_
  have h := List.all_eq_true.mp h1 c hc
  rcases Bool.eq_false_or_eq_true (isCode c) with hi | hi
  · exact h2 c (List.mem_filter.mpr ⟨hc, hi⟩)
  · simpa [hi] using h
set_option maxRecDepth 65536 in
theorem w_c0 : (Jvm.Cond.code x code maxLocals ret).before args0 about1 = true := code_word (m := ⟨1, 1⟩) (meth := k1m1) (c := k1c1) (by decide +kernel) rfl rfl rfl (by decide +kernel)
set_option maxRecDepth 65536 in
theorem w_c1 : (Jvm.Cond.code ({ cls := "com/example/oriel/oriel/ocl/Multiplicity", name := "<init>", desc := "(II)V" } : Jvm.MethodName) prog_88_method_1_code (3 : Nat) (Option.none : Option Jvm.ClassFile.FieldType)).before args0 about1 = true := code_word (m := ⟨2, 0⟩) (meth := k2m0) (c := k2c0) (by decide +kernel) rfl rfl rfl (by decide +kernel)
set_option maxRecDepth 65536 in
theorem w_c2 : (Jvm.Cond.code ({ cls := "java/lang/Object", name := "<init>", desc := "()V" } : Jvm.MethodName) object_method_1_code (1 : Nat) (Option.none : Option Jvm.ClassFile.FieldType)).before args0 about1 = true := code_word (m := ⟨0, 0⟩) (meth := k0m0) (c := k0c0) (by decide +kernel) rfl rfl rfl (by decide +kernel)
set_option maxRecDepth 65536 in
theorem w_c3 : (Jvm.Cond.code ({ cls := "com/example/oriel/oriel/ocl/Multiplicity", name := "admits", desc := "(I)Z" } : Jvm.MethodName) prog_88_method_4_code (2 : Nat) (Option.some Jvm.ClassFile.FieldType.boolean)).before args0 about1 = true := code_word (m := ⟨2, 1⟩) (meth := k2m1) (c := k2c1) (by decide +kernel) rfl rfl rfl (by decide +kernel)
set_option maxRecDepth 65536 in
theorem w_c4 : (Jvm.Cond.code ({ cls := "java/lang/Math", name := "max", desc := "(II)I" } : Jvm.MethodName) jdk_29_method_65_code (2 : Nat) (Option.some Jvm.ClassFile.FieldType.int)).before args0 about1 = true := code_word (m := ⟨3, 1⟩) (meth := k3m1) (c := k3c1) (by decide +kernel) rfl rfl rfl (by decide +kernel)
def codes1 : List Jvm.Cond := [Jvm.Cond.code x code maxLocals ret, Jvm.Cond.code ({ cls := "com/example/oriel/oriel/ocl/Multiplicity", name := "<init>", desc := "(II)V" } : Jvm.MethodName) prog_88_method_1_code (3 : Nat) (Option.none : Option Jvm.ClassFile.FieldType), Jvm.Cond.code ({ cls := "java/lang/Object", name := "<init>", desc := "()V" } : Jvm.MethodName) object_method_1_code (1 : Nat) (Option.none : Option Jvm.ClassFile.FieldType), Jvm.Cond.code ({ cls := "com/example/oriel/oriel/ocl/Multiplicity", name := "admits", desc := "(I)Z" } : Jvm.MethodName) prog_88_method_4_code (2 : Nat) (Option.some Jvm.ClassFile.FieldType.boolean), Jvm.Cond.code ({ cls := "java/lang/Math", name := "max", desc := "(II)I" } : Jvm.MethodName) jdk_29_method_65_code (2 : Nat) (Option.some Jvm.ClassFile.FieldType.int)]
set_option maxRecDepth 65536 in
theorem codes_eq : words1.filter isCode = codes1 := rfl
theorem w_codes : ∀ c ∈ words1.filter isCode, c.before args0 about1 = true := by
  rw [codes_eq]
  intro c hc
  simp only [codes1, List.mem_cons, List.not_mem_nil, or_false] at hc
  rcases hc with rfl | rfl | rfl | rfl | rfl
  · exact w_c0
  · exact w_c1
  · exact w_c2
  · exact w_c3
  · exact w_c4
set_option maxRecDepth 65536 in
theorem w_t1 : (words1.take 24).all (fun c => isCode c || c.before args0 about1) = true := by decide +kernel
set_option maxRecDepth 65536 in
theorem w_t2 : (words1.drop 24).all (fun c => isCode c || c.before args0 about1) = true := by decide +kernel
theorem w_tables : (allAtoms (Jvm.Cond.code x code maxLocals ret :: tables_1)).before args0 about1 = true := by
  rw [allAtoms_all]
  show words1.all (fun c => c.before args0 about1) = true
  refine all_split ?_ w_codes
  rw [← List.take_append_drop 24 words1, List.all_append, w_t1, w_t2]
  rfl
set_option maxRecDepth 65536 in
theorem w_case : (Jvm.Cond.and given_1 narrow_1).before args0 about1 = true := by decide +kernel
theorem w_applies : (headSpec (Jvm.Cond.code x code maxLocals ret :: tables_1) room_1).applies x e0.platform about1 = true :=
  (Spec.applies_iff w_frames).mpr ⟨w_running, w_runnable, w_alone, w_named, w_hears, w_ripe, w_room, w_tables⟩
theorem atStart : AtStart classFile x code maxLocals ret World_1 tables_1 room_1 Calls_1 rest_1 Pre_1 launch0 p0 e0 about1 theMethod args0 below0 :=
  ⟨lists_1, trivial, launch0.admits_env _ _ _, launch0.least_env, fairChoices_fair.cas, fairChoices_fair.clock, w_frames, w_args, w_heap, w_applies, trivial, trivial, w_case⟩
end start1
theorem witness_1 : WitnessClaimed_1 := ⟨start1.p0, start1.e0, start1.about1, start1.theMethod, start1.args0, start1.below0, start1.atStart⟩
end Jvm.Pilot.@@N@@
