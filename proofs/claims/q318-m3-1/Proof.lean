import JvmDerived
import JvmDerived.Pilot.@@N@@Statement
import JvmDerived.Pilot.@@N@@Code
set_option linter.unusedVariables false
set_option linter.unusedSimpArgs false
namespace Jvm.Pilot.@@N@@
open Jvm Jvm.ClassFile Sem Op Lib Jvm.Free Jvm.Stand Jvm.LawKit Jvm.RoadKit Bundle Jvm.Pilot.@@N@@.Jvm.D
section OwnKit
variable {p : Program} {l : Launch} {e : Env} {R : Room} {s : State} {m : MethodId} {args : Array Value} {below : List Frame} {meth : Method} {c : Code} {T : State} {locs : List Loc} {cells slots : Nat} {Z : State} {a0 : Array Value} {h : Heap} {pc : Nat} {Ls : Array Slot} {S : List Value} {Q : Option Value → Heap → List Loc → Prop} {K J : Nat} {Fn : Outcome → State → List Loc → Prop}
/-- from here the body comes to its return, and then Q holds -/
def Go (p : Program) (e : Env) (below : List Frame) (Fn : Outcome → State → List Loc → Prop) (Q : Option Value → Heap → List Loc → Prop) (T : State) (g : JFrame) : Prop :=
  ∃ s₂ o, Steps p.tables e below (T.setTop g) s₂ ∧ s₂.status = .running ∧ Ended s₂ below o ∧ ∃ v L, o = .returned v ∧ Q v s₂.heap L ∧ Fn o s₂ L
theorem Go.st {T' : State} {g g' : JFrame} (st : ∀ t, Steps p.tables e below (T'.setTop g') t → Steps p.tables e below (T.setTop g) t) (k : Go p e below Fn Q T' g') : Go p e below Fn Q T g := by
  obtain ⟨s2, o, h1, h2⟩ := k
  exact ⟨s2, o, st _ h1, h2⟩
theorem own_w {d : Jvm.Cond} (hw : ∀ d ∈ tables_1, d.before a0 Z = true) (i : Nat) (h : tables_1[i]? = some d) : d.before a0 Z = true := hw _ (List.mem_of_getElem? h)
/-- a body's contract, at the heap h0 -/
def OwnMet (l : Launch) (Z : State) (y : MethodName) (bytes : ByteArray) (maxL : Nat) (ret : Option FieldType) (ws : List Jvm.Cond) (rm : Room) (as' : List Value) (h0 : Heap) (Qc : Option Value → Heap → List Loc → Prop) : Prop :=
  MetFree l y (head1 (Jvm.Cond.code y bytes maxL ret :: ws) rm) (fun a U => a = as'.toArray ∧ Z.Warmed39 U.vm ∧ U.heap = h0) (fun _ _ _ _ _ => True) (fun _ U o U' => ∃ v L, o = .returned v ∧ Qc v U'.heap L ∧ FrameEnd U o U' L rm.cells rm.slots)
theorem own_body {y : MethodName} {bytes : ByteArray} {maxL : Nat} {ret : Option FieldType} {ws : List Jvm.Cond} {rm : Room} {as' : List Value} {h0 : Heap} {Qc : Option Value → Heap → List Loc → Prop} {Ls : Array Slot} (hpl : plainFor y = true) (hef : ∀ m, entryFrame m as'.toArray maxL = mkF m 0 Ls [])
    (k : ∀ (p : Program) (e : Env) (s : State) (m : MethodId) (below : List Frame) (meth : Method) (c : Code) (T : State), p.tables.exec = Jvm.exec → c.code = bytes → c.maxLocals = maxL → s.vm.findClass y.cls = some m.cls → meth.name = y.name → meth.sig.returnType = ret → meth.locks = false → Z.Warmed39 s.vm → Stand p l e rm s m as'.toArray below meth c T [] 0 0 → T.heap = h0 → Go p e below (fun o t L => FrameEnd s o t L rm.cells rm.slots) Qc T (mkF m 0 Ls [])) : OwnMet l Z y bytes maxL ret ws rm as' h0 Qc := by
  refine MetFree.of_bodySF hpl hisR ?_
  intro p e s m args below meth c s₁ Bd hml0 hP hK
  obtain ⟨rfl, hZ, hh⟩ := hP
  have e0 : s₁.heap = h0 := by rw [← hh, Bd.state]; rfl
  have g := k p e s m below meth c s₁ Bd.exec Bd.bytes hml0 (findClass_of_methodNamed Bd.named) (name_of_methodNamed Bd.named Bd.method).1 Bd.returns (BodyLoose.notSynchronized Bd) hZ (Stand.of_body Bd) e0
  rw [hef]
  exact g
theorem Go.mono {Q' : Option Value → Heap → List Loc → Prop} {g : JFrame} (k : Go p e below Fn Q' T g) (hq : ∀ v h L, Q' v h L → Q v h L) : Go p e below Fn Q T g := by
  obtain ⟨s2, o, h1, h2, h3, v, L, h4, h5, h6⟩ := k
  exact ⟨s2, o, h1, h2, h3, v, L, h4, hq _ _ _ h5, h6⟩

theorem g_iloadN (X : Stand p l e R s m args below meth c T locs cells slots) (hx : p.tables.exec = Jvm.exec) (q : Nat) {k : Fin 4} {v : Int32} (hd : decode c.code pc = .ok (.iload_n k, 1)) (hl : Ls[k.val]? = some (.val (.int v))) (hq : pc + 1 = q) (k : Go p e below Fn Q T (mkF m q Ls (.int v :: S))) : Go p e below Fn Q T (mkF m pc Ls (S)) := by
  subst hq; exact k.st fun _ z => XS.iloadN X.here hx rfl hd hl z
theorem g_iload (X : Stand p l e R s m args below meth c T locs cells slots) (hx : p.tables.exec = Jvm.exec) (q : Nat) {k : Nat} {v : Int32} (hd : decode c.code pc = .ok (.iload k, 2)) (hl : Ls[k]? = some (.val (.int v))) (hq : pc + 2 = q) (k : Go p e below Fn Q T (mkF m q Ls (.int v :: S))) : Go p e below Fn Q T (mkF m pc Ls (S)) := by
  subst hq; exact k.st fun _ z => XS.iload X.here hx rfl hd hl z
theorem g_istoreN (X : Stand p l e R s m args below meth c T locs cells slots) (hx : p.tables.exec = Jvm.exec) (q : Nat) {k : Fin 4} {v : Int32} (l' : Array Slot) (hd : decode c.code pc = .ok (.istore_n k, 1)) (hl : storeLocals Ls k.val (.int v) = some l') (hq : pc + 1 = q) (k : Go p e below Fn Q T (mkF m q l' (S))) : Go p e below Fn Q T (mkF m pc Ls (.int v :: S)) := by
  subst hq; exact k.st fun _ z => XS.istoreN X.here hx rfl hd rfl hl z
theorem g_istore (X : Stand p l e R s m args below meth c T locs cells slots) (hx : p.tables.exec = Jvm.exec) (q : Nat) {k : Nat} {v : Int32} (l' : Array Slot) (hd : decode c.code pc = .ok (.istore k, 2)) (hl : storeLocals Ls k (.int v) = some l') (hq : pc + 2 = q) (k : Go p e below Fn Q T (mkF m q l' (S))) : Go p e below Fn Q T (mkF m pc Ls (.int v :: S)) := by
  subst hq; exact k.st fun _ z => XS.istore X.here hx rfl hd rfl hl z
theorem g_lloadN (X : Stand p l e R s m args below meth c T locs cells slots) (hx : p.tables.exec = Jvm.exec) (q : Nat) {k : Fin 4} {v : Int64} (hd : decode c.code pc = .ok (.lload_n k, 1)) (hl : Ls[k.val]? = some (.val (.long v))) (hq : pc + 1 = q) (k : Go p e below Fn Q T (mkF m q Ls (.long v :: S))) : Go p e below Fn Q T (mkF m pc Ls (S)) := by
  subst hq; exact k.st fun _ z => XS.lloadN X.here hx rfl hd hl z
theorem g_lload (X : Stand p l e R s m args below meth c T locs cells slots) (hx : p.tables.exec = Jvm.exec) (q : Nat) {k : Nat} {v : Int64} (hd : decode c.code pc = .ok (.lload k, 2)) (hl : Ls[k]? = some (.val (.long v))) (hq : pc + 2 = q) (k : Go p e below Fn Q T (mkF m q Ls (.long v :: S))) : Go p e below Fn Q T (mkF m pc Ls (S)) := by
  subst hq; exact k.st fun _ z => XS.lload X.here hx rfl hd hl z
theorem g_lstoreN (X : Stand p l e R s m args below meth c T locs cells slots) (hx : p.tables.exec = Jvm.exec) (q : Nat) {k : Fin 4} {v : Int64} (l' : Array Slot) (hd : decode c.code pc = .ok (.lstore_n k, 1)) (hl : storeLocals Ls k.val (.long v) = some l') (hq : pc + 1 = q) (k : Go p e below Fn Q T (mkF m q l' (S))) : Go p e below Fn Q T (mkF m pc Ls (.long v :: S)) := by
  subst hq; exact k.st fun _ z => XS.lstoreN X.here hx rfl hd rfl hl z
theorem g_lstore (X : Stand p l e R s m args below meth c T locs cells slots) (hx : p.tables.exec = Jvm.exec) (q : Nat) {k : Nat} {v : Int64} (l' : Array Slot) (hd : decode c.code pc = .ok (.lstore k, 2)) (hl : storeLocals Ls k (.long v) = some l') (hq : pc + 2 = q) (k : Go p e below Fn Q T (mkF m q l' (S))) : Go p e below Fn Q T (mkF m pc Ls (.long v :: S)) := by
  subst hq; exact k.st fun _ z => XS.lstore X.here hx rfl hd rfl hl z
theorem g_aloadN (X : Stand p l e R s m args below meth c T locs cells slots) (hx : p.tables.exec = Jvm.exec) (q : Nat) {k : Fin 4} {v : Value} (hd : decode c.code pc = .ok (.aload_n k, 1)) (hl : Ls[k.val]? = some (.val v)) (hv : v.isRef = true) (hq : pc + 1 = q) (k : Go p e below Fn Q T (mkF m q Ls (v :: S))) : Go p e below Fn Q T (mkF m pc Ls (S)) := by
  subst hq; exact k.st fun _ z => XS.aloadN X.here hx rfl hd hl hv z
theorem g_aload (X : Stand p l e R s m args below meth c T locs cells slots) (hx : p.tables.exec = Jvm.exec) (q : Nat) {k : Nat} {v : Value} (hd : decode c.code pc = .ok (.aload k, 2)) (hl : Ls[k]? = some (.val v)) (hv : v.isRef = true) (hq : pc + 2 = q) (k : Go p e below Fn Q T (mkF m q Ls (v :: S))) : Go p e below Fn Q T (mkF m pc Ls (S)) := by
  subst hq; exact k.st fun _ z => XS.aload X.here hx rfl hd hl hv z
theorem g_astoreN (X : Stand p l e R s m args below meth c T locs cells slots) (hx : p.tables.exec = Jvm.exec) (q : Nat) {k : Fin 4} {v : Value} (l' : Array Slot) (hd : decode c.code pc = .ok (.astore_n k, 1)) (hv : v.isRef = true) (hl : storeLocals Ls k.val v = some l') (hq : pc + 1 = q) (k : Go p e below Fn Q T (mkF m q l' (S))) : Go p e below Fn Q T (mkF m pc Ls (v :: S)) := by
  subst hq; exact k.st fun _ z => XS.astoreN X.here hx rfl hd rfl hv hl z
theorem g_astore (X : Stand p l e R s m args below meth c T locs cells slots) (hx : p.tables.exec = Jvm.exec) (q : Nat) {k : Nat} {v : Value} (l' : Array Slot) (hd : decode c.code pc = .ok (.astore k, 2)) (hv : v.isRef = true) (hl : storeLocals Ls k v = some l') (hq : pc + 2 = q) (k : Go p e below Fn Q T (mkF m q l' (S))) : Go p e below Fn Q T (mkF m pc Ls (v :: S)) := by
  subst hq; exact k.st fun _ z => XS.astore X.here hx rfl hd rfl hv hl z
theorem g_iconst (X : Stand p l e R s m args below meth c T locs cells slots) (hx : p.tables.exec = Jvm.exec) (q : Nat) {i : Int} (v : Int32) (hd : decode c.code pc = .ok (.iconst i, 1)) (hv : Int32.ofInt i = v) (hq : pc + 1 = q) (k : Go p e below Fn Q T (mkF m q Ls (.int v :: S))) : Go p e below Fn Q T (mkF m pc Ls (S)) := by
  subst hq; exact k.st fun _ z => XS.iconst X.here hx rfl hd (hv ▸ z)
theorem g_bipush (X : Stand p l e R s m args below meth c T locs cells slots) (hx : p.tables.exec = Jvm.exec) (q : Nat) {i : Int} (v : Int32) (hd : decode c.code pc = .ok (.bipush i, 2)) (hv : (Int8.ofInt i).toInt32 = v) (hq : pc + 2 = q) (k : Go p e below Fn Q T (mkF m q Ls (.int v :: S))) : Go p e below Fn Q T (mkF m pc Ls (S)) := by
  subst hq; exact k.st fun _ z => XS.bipush X.here hx rfl hd (hv ▸ z)
theorem g_sipush (X : Stand p l e R s m args below meth c T locs cells slots) (hx : p.tables.exec = Jvm.exec) (q : Nat) {i : Int} (v : Int32) (hd : decode c.code pc = .ok (.sipush i, 3)) (hv : (Int16.ofInt i).toInt32 = v) (hq : pc + 3 = q) (k : Go p e below Fn Q T (mkF m q Ls (.int v :: S))) : Go p e below Fn Q T (mkF m pc Ls (S)) := by
  subst hq; exact k.st fun _ z => XS.sipush X.here hx rfl hd (hv ▸ z)
theorem g_lconst (X : Stand p l e R s m args below meth c T locs cells slots) (hx : p.tables.exec = Jvm.exec) (q : Nat) {k : Fin 2} (v : Int64) (hd : decode c.code pc = .ok (.lconst k, 1)) (hv : Int64.ofNat k = v) (hq : pc + 1 = q) (k : Go p e below Fn Q T (mkF m q Ls (.long v :: S))) : Go p e below Fn Q T (mkF m pc Ls (S)) := by
  subst hq; exact k.st fun _ z => XS.lconst X.here hx rfl hd (hv ▸ z)
theorem g_aconst_null (X : Stand p l e R s m args below meth c T locs cells slots) (hx : p.tables.exec = Jvm.exec) (q : Nat)  (hd : decode c.code pc = .ok (.aconst_null, 1))  (hq : pc + 1 = q) (k : Go p e below Fn Q T (mkF m q Ls (.null :: S))) : Go p e below Fn Q T (mkF m pc Ls (S)) := by
  subst hq; exact k.st fun _ z => XS.aconstNull X.here hx rfl hd z
theorem g_iadd (X : Stand p l e R s m args below meth c T locs cells slots) (hx : p.tables.exec = Jvm.exec) (q : Nat) {x y : Int32} (w : Int32) (hd : decode c.code pc = .ok (.iadd, 1)) (hv : x + y = w) (hq : pc + 1 = q) (k : Go p e below Fn Q T (mkF m q Ls (.int w :: S))) : Go p e below Fn Q T (mkF m pc Ls (.int y :: .int x :: S)) := by
  subst hq; exact k.st fun _ z => XS.iadd X.here hx rfl hd rfl (hv ▸ z)
theorem g_isub (X : Stand p l e R s m args below meth c T locs cells slots) (hx : p.tables.exec = Jvm.exec) (q : Nat) {x y : Int32} (w : Int32) (hd : decode c.code pc = .ok (.isub, 1)) (hv : x - y = w) (hq : pc + 1 = q) (k : Go p e below Fn Q T (mkF m q Ls (.int w :: S))) : Go p e below Fn Q T (mkF m pc Ls (.int y :: .int x :: S)) := by
  subst hq; exact k.st fun _ z => XS.isub X.here hx rfl hd rfl (hv ▸ z)
theorem g_imul (X : Stand p l e R s m args below meth c T locs cells slots) (hx : p.tables.exec = Jvm.exec) (q : Nat) {x y : Int32} (w : Int32) (hd : decode c.code pc = .ok (.imul, 1)) (hv : x * y = w) (hq : pc + 1 = q) (k : Go p e below Fn Q T (mkF m q Ls (.int w :: S))) : Go p e below Fn Q T (mkF m pc Ls (.int y :: .int x :: S)) := by
  subst hq; exact k.st fun _ z => XS.imul X.here hx rfl hd rfl (hv ▸ z)
theorem g_iand (X : Stand p l e R s m args below meth c T locs cells slots) (hx : p.tables.exec = Jvm.exec) (q : Nat) {x y : Int32} (w : Int32) (hd : decode c.code pc = .ok (.iand, 1)) (hv : x &&& y = w) (hq : pc + 1 = q) (k : Go p e below Fn Q T (mkF m q Ls (.int w :: S))) : Go p e below Fn Q T (mkF m pc Ls (.int y :: .int x :: S)) := by
  subst hq; exact k.st fun _ z => XS.iand X.here hx rfl hd rfl (hv ▸ z)
theorem g_ior (X : Stand p l e R s m args below meth c T locs cells slots) (hx : p.tables.exec = Jvm.exec) (q : Nat) {x y : Int32} (w : Int32) (hd : decode c.code pc = .ok (.ior, 1)) (hv : x ||| y = w) (hq : pc + 1 = q) (k : Go p e below Fn Q T (mkF m q Ls (.int w :: S))) : Go p e below Fn Q T (mkF m pc Ls (.int y :: .int x :: S)) := by
  subst hq; exact k.st fun _ z => XS.ior X.here hx rfl hd rfl (hv ▸ z)
theorem g_ixor (X : Stand p l e R s m args below meth c T locs cells slots) (hx : p.tables.exec = Jvm.exec) (q : Nat) {x y : Int32} (w : Int32) (hd : decode c.code pc = .ok (.ixor, 1)) (hv : x ^^^ y = w) (hq : pc + 1 = q) (k : Go p e below Fn Q T (mkF m q Ls (.int w :: S))) : Go p e below Fn Q T (mkF m pc Ls (.int y :: .int x :: S)) := by
  subst hq; exact k.st fun _ z => XS.ixor X.here hx rfl hd rfl (hv ▸ z)
theorem g_ishl (X : Stand p l e R s m args below meth c T locs cells slots) (hx : p.tables.exec = Jvm.exec) (q : Nat) {x y : Int32} (w : Int32) (hd : decode c.code pc = .ok (.ishl, 1)) (hv : x <<< (y &&& 31) = w) (hq : pc + 1 = q) (k : Go p e below Fn Q T (mkF m q Ls (.int w :: S))) : Go p e below Fn Q T (mkF m pc Ls (.int y :: .int x :: S)) := by
  subst hq; exact k.st fun _ z => XS.ishl X.here hx rfl hd rfl (hv ▸ z)
theorem g_ishr (X : Stand p l e R s m args below meth c T locs cells slots) (hx : p.tables.exec = Jvm.exec) (q : Nat) {x y : Int32} (w : Int32) (hd : decode c.code pc = .ok (.ishr, 1)) (hv : x >>> (y &&& 31) = w) (hq : pc + 1 = q) (k : Go p e below Fn Q T (mkF m q Ls (.int w :: S))) : Go p e below Fn Q T (mkF m pc Ls (.int y :: .int x :: S)) := by
  subst hq; exact k.st fun _ z => XS.ishr X.here hx rfl hd rfl (hv ▸ z)
theorem g_iushr (X : Stand p l e R s m args below meth c T locs cells slots) (hx : p.tables.exec = Jvm.exec) (q : Nat) {x y : Int32} (w : Int32) (hd : decode c.code pc = .ok (.iushr, 1)) (hv : (x.toUInt32 >>> (y &&& 31).toUInt32).toInt32 = w) (hq : pc + 1 = q) (k : Go p e below Fn Q T (mkF m q Ls (.int w :: S))) : Go p e below Fn Q T (mkF m pc Ls (.int y :: .int x :: S)) := by
  subst hq; exact k.st fun _ z => XS.iushr X.here hx rfl hd rfl (hv ▸ z)
theorem g_ladd (X : Stand p l e R s m args below meth c T locs cells slots) (hx : p.tables.exec = Jvm.exec) (q : Nat) {x y : Int64} (w : Int64) (hd : decode c.code pc = .ok (.ladd, 1)) (hv : x + y = w) (hq : pc + 1 = q) (k : Go p e below Fn Q T (mkF m q Ls (.long w :: S))) : Go p e below Fn Q T (mkF m pc Ls (.long y :: .long x :: S)) := by
  subst hq; exact k.st fun _ z => XS.ladd X.here hx rfl hd rfl (hv ▸ z)
theorem g_lsub (X : Stand p l e R s m args below meth c T locs cells slots) (hx : p.tables.exec = Jvm.exec) (q : Nat) {x y : Int64} (w : Int64) (hd : decode c.code pc = .ok (.lsub, 1)) (hv : x - y = w) (hq : pc + 1 = q) (k : Go p e below Fn Q T (mkF m q Ls (.long w :: S))) : Go p e below Fn Q T (mkF m pc Ls (.long y :: .long x :: S)) := by
  subst hq; exact k.st fun _ z => XS.lsub X.here hx rfl hd rfl (hv ▸ z)
theorem g_lmul (X : Stand p l e R s m args below meth c T locs cells slots) (hx : p.tables.exec = Jvm.exec) (q : Nat) {x y : Int64} (w : Int64) (hd : decode c.code pc = .ok (.lmul, 1)) (hv : x * y = w) (hq : pc + 1 = q) (k : Go p e below Fn Q T (mkF m q Ls (.long w :: S))) : Go p e below Fn Q T (mkF m pc Ls (.long y :: .long x :: S)) := by
  subst hq; exact k.st fun _ z => XS.lmul X.here hx rfl hd rfl (hv ▸ z)
theorem g_land (X : Stand p l e R s m args below meth c T locs cells slots) (hx : p.tables.exec = Jvm.exec) (q : Nat) {x y : Int64} (w : Int64) (hd : decode c.code pc = .ok (.land, 1)) (hv : x &&& y = w) (hq : pc + 1 = q) (k : Go p e below Fn Q T (mkF m q Ls (.long w :: S))) : Go p e below Fn Q T (mkF m pc Ls (.long y :: .long x :: S)) := by
  subst hq; exact k.st fun _ z => XS.land X.here hx rfl hd rfl (hv ▸ z)
theorem g_lor (X : Stand p l e R s m args below meth c T locs cells slots) (hx : p.tables.exec = Jvm.exec) (q : Nat) {x y : Int64} (w : Int64) (hd : decode c.code pc = .ok (.lor, 1)) (hv : x ||| y = w) (hq : pc + 1 = q) (k : Go p e below Fn Q T (mkF m q Ls (.long w :: S))) : Go p e below Fn Q T (mkF m pc Ls (.long y :: .long x :: S)) := by
  subst hq; exact k.st fun _ z => XS.lor X.here hx rfl hd rfl (hv ▸ z)
theorem g_lxor (X : Stand p l e R s m args below meth c T locs cells slots) (hx : p.tables.exec = Jvm.exec) (q : Nat) {x y : Int64} (w : Int64) (hd : decode c.code pc = .ok (.lxor, 1)) (hv : x ^^^ y = w) (hq : pc + 1 = q) (k : Go p e below Fn Q T (mkF m q Ls (.long w :: S))) : Go p e below Fn Q T (mkF m pc Ls (.long y :: .long x :: S)) := by
  subst hq; exact k.st fun _ z => XS.lxor X.here hx rfl hd rfl (hv ▸ z)
theorem g_lshl (X : Stand p l e R s m args below meth c T locs cells slots) (hx : p.tables.exec = Jvm.exec) (q : Nat) {x : Int64} {y : Int32} (w : Int64) (hd : decode c.code pc = .ok (.lshl, 1)) (hv : x <<< (y &&& 0x3f).toInt64 = w) (hq : pc + 1 = q) (k : Go p e below Fn Q T (mkF m q Ls (.long w :: S))) : Go p e below Fn Q T (mkF m pc Ls (.int y :: .long x :: S)) := by
  subst hq; exact k.st fun _ z => XS.lshl X.here hx rfl hd rfl (hv ▸ z)
theorem g_lshr (X : Stand p l e R s m args below meth c T locs cells slots) (hx : p.tables.exec = Jvm.exec) (q : Nat) {x : Int64} {y : Int32} (w : Int64) (hd : decode c.code pc = .ok (.lshr, 1)) (hv : x >>> (y &&& 0x3f).toInt64 = w) (hq : pc + 1 = q) (k : Go p e below Fn Q T (mkF m q Ls (.long w :: S))) : Go p e below Fn Q T (mkF m pc Ls (.int y :: .long x :: S)) := by
  subst hq; exact k.st fun _ z => XS.lshr X.here hx rfl hd rfl (hv ▸ z)
theorem g_lushr (X : Stand p l e R s m args below meth c T locs cells slots) (hx : p.tables.exec = Jvm.exec) (q : Nat) {x : Int64} {y : Int32} (w : Int64) (hd : decode c.code pc = .ok (.lushr, 1)) (hv : (x.toUInt64 >>> (y &&& 0x3f).toInt64.toUInt64).toInt64 = w) (hq : pc + 1 = q) (k : Go p e below Fn Q T (mkF m q Ls (.long w :: S))) : Go p e below Fn Q T (mkF m pc Ls (.int y :: .long x :: S)) := by
  subst hq; exact k.st fun _ z => XS.lushr X.here hx rfl hd rfl (hv ▸ z)
theorem g_lcmp (X : Stand p l e R s m args below meth c T locs cells slots) (hx : p.tables.exec = Jvm.exec) (q : Nat) {x y : Int64} (hd : decode c.code pc = .ok (.lcmp, 1))  (hq : pc + 1 = q) (k : Go p e below Fn Q T (mkF m q Ls (.int (lcmpW x y) :: S))) : Go p e below Fn Q T (mkF m pc Ls (.long y :: .long x :: S)) := by
  subst hq; exact k.st fun _ z => XS.lcmp X.here hx rfl hd rfl z
theorem g_idiv (X : Stand p l e R s m args below meth c T locs cells slots) (hx : p.tables.exec = Jvm.exec) (q : Nat) {x y : Int32} (w : Int32) (hd : decode c.code pc = .ok (.idiv, 1)) (hy : y ≠ 0) (hv : x / y = w) (hq : pc + 1 = q) (k : Go p e below Fn Q T (mkF m q Ls (.int w :: S))) : Go p e below Fn Q T (mkF m pc Ls (.int y :: .int x :: S)) := by
  subst hq; exact k.st fun _ z => XS.idiv X.here hx rfl hd rfl hy (hv ▸ z)
theorem g_irem (X : Stand p l e R s m args below meth c T locs cells slots) (hx : p.tables.exec = Jvm.exec) (q : Nat) {x y : Int32} (w : Int32) (hd : decode c.code pc = .ok (.irem, 1)) (hy : y ≠ 0) (hv : x % y = w) (hq : pc + 1 = q) (k : Go p e below Fn Q T (mkF m q Ls (.int w :: S))) : Go p e below Fn Q T (mkF m pc Ls (.int y :: .int x :: S)) := by
  subst hq; exact k.st fun _ z => iremM X hx rfl hd rfl hy (hv ▸ z)
theorem g_ldiv (X : Stand p l e R s m args below meth c T locs cells slots) (hx : p.tables.exec = Jvm.exec) (q : Nat) {x y : Int64} (w : Int64) (hd : decode c.code pc = .ok (.ldiv, 1)) (hy : y ≠ 0) (hv : x / y = w) (hq : pc + 1 = q) (k : Go p e below Fn Q T (mkF m q Ls (.long w :: S))) : Go p e below Fn Q T (mkF m pc Ls (.long y :: .long x :: S)) := by
  subst hq; exact k.st fun _ z => XS.ldiv X.here hx rfl hd rfl hy (hv ▸ z)
theorem g_ineg (X : Stand p l e R s m args below meth c T locs cells slots) (hx : p.tables.exec = Jvm.exec) (q : Nat) {x : Int32} (w : Int32) (hd : decode c.code pc = .ok (.ineg, 1)) (hv : -x = w) (hq : pc + 1 = q) (k : Go p e below Fn Q T (mkF m q Ls (.int w :: S))) : Go p e below Fn Q T (mkF m pc Ls (.int x :: S)) := by
  subst hq; exact k.st fun _ z => XS.ineg X.here hx rfl hd rfl (hv ▸ z)
theorem g_lneg (X : Stand p l e R s m args below meth c T locs cells slots) (hx : p.tables.exec = Jvm.exec) (q : Nat) {x : Int64} (w : Int64) (hd : decode c.code pc = .ok (.lneg, 1)) (hv : -x = w) (hq : pc + 1 = q) (k : Go p e below Fn Q T (mkF m q Ls (.long w :: S))) : Go p e below Fn Q T (mkF m pc Ls (.long x :: S)) := by
  subst hq; exact k.st fun _ z => XS.lneg X.here hx rfl hd rfl (hv ▸ z)
theorem g_i2l (X : Stand p l e R s m args below meth c T locs cells slots) (hx : p.tables.exec = Jvm.exec) (q : Nat) {x : Int32} (w : Int64) (hd : decode c.code pc = .ok (.i2l, 1)) (hv : x.toInt64 = w) (hq : pc + 1 = q) (k : Go p e below Fn Q T (mkF m q Ls (.long w :: S))) : Go p e below Fn Q T (mkF m pc Ls (.int x :: S)) := by
  subst hq; exact k.st fun _ z => XS.i2l X.here hx rfl hd rfl (hv ▸ z)
theorem g_l2i (X : Stand p l e R s m args below meth c T locs cells slots) (hx : p.tables.exec = Jvm.exec) (q : Nat) {x : Int64} (w : Int32) (hd : decode c.code pc = .ok (.l2i, 1)) (hv : x.toInt32 = w) (hq : pc + 1 = q) (k : Go p e below Fn Q T (mkF m q Ls (.int w :: S))) : Go p e below Fn Q T (mkF m pc Ls (.long x :: S)) := by
  subst hq; exact k.st fun _ z => XS.l2i X.here hx rfl hd rfl (hv ▸ z)
theorem g_i2c (X : Stand p l e R s m args below meth c T locs cells slots) (hx : p.tables.exec = Jvm.exec) (q : Nat) {x : Int32} (w : Int32) (hd : decode c.code pc = .ok (.i2c, 1)) (hv : x.toUInt32.toUInt16.toUInt32.toInt32 = w) (hq : pc + 1 = q) (k : Go p e below Fn Q T (mkF m q Ls (.int w :: S))) : Go p e below Fn Q T (mkF m pc Ls (.int x :: S)) := by
  subst hq; exact k.st fun _ z => XS.i2c X.here hx rfl hd rfl (hv ▸ z)
theorem g_i2b (X : Stand p l e R s m args below meth c T locs cells slots) (hx : p.tables.exec = Jvm.exec) (q : Nat) {x : Int32} (w : Int32) (hd : decode c.code pc = .ok (.i2b, 1)) (hv : x.toInt8.toInt32 = w) (hq : pc + 1 = q) (k : Go p e below Fn Q T (mkF m q Ls (.int w :: S))) : Go p e below Fn Q T (mkF m pc Ls (.int x :: S)) := by
  subst hq; exact k.st fun _ z => XS.i2b X.here hx rfl hd rfl (hv ▸ z)
theorem g_i2s (X : Stand p l e R s m args below meth c T locs cells slots) (hx : p.tables.exec = Jvm.exec) (q : Nat) {x : Int32} (w : Int32) (hd : decode c.code pc = .ok (.i2s, 1)) (hv : x.toInt16.toInt32 = w) (hq : pc + 1 = q) (k : Go p e below Fn Q T (mkF m q Ls (.int w :: S))) : Go p e below Fn Q T (mkF m pc Ls (.int x :: S)) := by
  subst hq; exact k.st fun _ z => XS.i2s X.here hx rfl hd rfl (hv ▸ z)
theorem g_dup (X : Stand p l e R s m args below meth c T locs cells slots) (hx : p.tables.exec = Jvm.exec) (q : Nat) {v : Value} (hd : decode c.code pc = .ok (.dup, 1)) (hc : v.category = 1) (hq : pc + 1 = q) (k : Go p e below Fn Q T (mkF m q Ls (v :: v :: S))) : Go p e below Fn Q T (mkF m pc Ls (v :: S)) := by
  subst hq; exact k.st fun _ z => XS.dup X.here hx rfl hd rfl hc z
theorem g_pop (X : Stand p l e R s m args below meth c T locs cells slots) (hx : p.tables.exec = Jvm.exec) (q : Nat) {v : Value} (hd : decode c.code pc = .ok (.pop, 1)) (hc : v.category = 1) (hq : pc + 1 = q) (k : Go p e below Fn Q T (mkF m q Ls (S))) : Go p e below Fn Q T (mkF m pc Ls (v :: S)) := by
  subst hq; exact k.st fun _ z => XS.pop X.here hx rfl hd rfl hc z
theorem g_dup_x1 (X : Stand p l e R s m args below meth c T locs cells slots) (hx : p.tables.exec = Jvm.exec) (q : Nat) {v w : Value} (hd : decode c.code pc = .ok (.dup_x1, 1)) (hc : v.category = 1) (hc' : w.category = 1) (hq : pc + 1 = q) (k : Go p e below Fn Q T (mkF m q Ls (v :: w :: v :: S))) : Go p e below Fn Q T (mkF m pc Ls (v :: w :: S)) := by
  subst hq; exact k.st fun _ z => XS.dupX1 X.here hx rfl hd rfl hc hc' z
theorem g_dup2L (X : Stand p l e R s m args below meth c T locs cells slots) (hx : p.tables.exec = Jvm.exec) (q : Nat) {x : Int64} (hd : decode c.code pc = .ok (.dup2, 1))  (hq : pc + 1 = q) (k : Go p e below Fn Q T (mkF m q Ls (.long x :: .long x :: S))) : Go p e below Fn Q T (mkF m pc Ls (.long x :: S)) := by
  subst hq; exact k.st fun _ z => Jvm.Free.XT.dup2L X.here hx rfl hd rfl z
theorem g_dup2 (X : Stand p l e R s m args below meth c T locs cells slots) (hx : p.tables.exec = Jvm.exec) (q : Nat) {v w : Value} (hd : decode c.code pc = .ok (.dup2, 1)) (hc : v.category = 1) (hc' : w.category = 1) (hq : pc + 1 = q) (k : Go p e below Fn Q T (mkF m q Ls (v :: w :: v :: w :: S))) : Go p e below Fn Q T (mkF m pc Ls (v :: w :: S)) := by
  subst hq; exact k.st fun _ z => Jvm.Free.XT.dup2 X.here hx rfl hd rfl hc hc' z
theorem g_iinc (X : Stand p l e R s m args below meth c T locs cells slots) (hx : p.tables.exec = Jvm.exec) (q : Nat) {k : Nat} {cst : Int} {x : Int32} (w : Int32) (l' : Array Slot) (hd : decode c.code pc = .ok (.iinc k cst, 3)) (hl : Ls[k]? = some (.val (.int x))) (hv : x + Int32.ofInt cst = w) (hl' : storeLocals Ls k (.int w) = some l') (hq : pc + 3 = q) (k : Go p e below Fn Q T (mkF m q l' (S))) : Go p e below Fn Q T (mkF m pc Ls (S)) := by
  subst hq; exact k.st fun _ z => XS.iinc X.here hx rfl hd hl (hv ▸ hl') z
theorem g_ldcI (X : Stand p l e R s m args below meth c T locs cells slots) (hx : p.tables.exec = Jvm.exec) (q : Nat) (hZ : Z.Warmed39 s.vm) {own : String} {index : Nat} {v : Int32} (hown : s.vm.findClass own = some m.cls) (w1 : (Jvm.Cond.constant own index v).before a0 Z = true) (hd : decode c.code pc = .ok (.ldc index, 2))  (hq : pc + 2 = q) (k : Go p e below Fn Q T (mkF m q Ls (.int v :: S))) : Go p e below Fn Q T (mkF m pc Ls (S)) := by
  subst hq; exact k.st fun _ z => X.ldcInt hx hown (mvT hZ w1) (g := mkF m pc Ls S) rfl hd _ z
theorem g_ldc2J (X : Stand p l e R s m args below meth c T locs cells slots) (hx : p.tables.exec = Jvm.exec) (q : Nat) (hZ : Z.Warmed39 s.vm) {own : String} {index : Nat} {v : Int64} (hown : s.vm.findClass own = some m.cls) (w1 : (Jvm.Cond.constantLong own index v).before a0 Z = true) (hd : decode c.code pc = .ok (.ldc2_w index, 3))  (hq : pc + 3 = q) (k : Go p e below Fn Q T (mkF m q Ls (.long v :: S))) : Go p e below Fn Q T (mkF m pc Ls (S)) := by
  subst hq; exact k.st fun _ z => X.ldc2Long hx hown (mvT hZ w1) (g := mkF m pc Ls S) rfl hd _ z
theorem g_goto (X : Stand p l e R s m args below meth c T locs cells slots) (hx : p.tables.exec = Jvm.exec) (q : Nat)  {o : Int} (hd : decode c.code pc = .ok (.goto o, 3))  (ho : 0 ≤ (pc : Int) + o) (hp : ((pc : Int) + o).toNat = q) (k : Go p e below Fn Q T (mkF m q Ls S)) : Go p e below Fn Q T (mkF m pc Ls (S)) := k.st fun _ z => XS.goto X.here hx rfl rfl hd ho hp z
theorem g_ifT (X : Stand p l e R s m args below meth c T locs cells slots) (hx : p.tables.exec = Jvm.exec) (q : Nat) {cd : ClassFile.Cond} {x : Int32} {o : Int} (hd : decode c.code pc = .ok (.ifCond cd o, 3)) (hc : ifCond.holds cd x = true) (ho : 0 ≤ (pc : Int) + o) (hp : ((pc : Int) + o).toNat = q) (k : Go p e below Fn Q T (mkF m q Ls S)) : Go p e below Fn Q T (mkF m pc Ls (.int x :: S)) := k.st fun _ z => XS.ifYes X.here hx rfl rfl hd rfl hc ho hp z
theorem g_ifF (X : Stand p l e R s m args below meth c T locs cells slots) (hx : p.tables.exec = Jvm.exec) (q : Nat) {cd : ClassFile.Cond} {x : Int32} {o : Int} (hd : decode c.code pc = .ok (.ifCond cd o, 3)) (hc : ifCond.holds cd x = false) (hq : pc + 3 = q) (k : Go p e below Fn Q T (mkF m q Ls S)) : Go p e below Fn Q T (mkF m pc Ls (.int x :: S)) := by
  subst hq; exact k.st fun _ z => XS.ifNo X.here hx rfl hd rfl hc z
theorem g_icT (X : Stand p l e R s m args below meth c T locs cells slots) (hx : p.tables.exec = Jvm.exec) (q : Nat) {cd : ClassFile.Cond} {x y : Int32} {o : Int} (hd : decode c.code pc = .ok (.if_icmp cd o, 3)) (hc : if_icmp.holds cd x y = true) (ho : 0 ≤ (pc : Int) + o) (hp : ((pc : Int) + o).toNat = q) (k : Go p e below Fn Q T (mkF m q Ls S)) : Go p e below Fn Q T (mkF m pc Ls (.int y :: .int x :: S)) := k.st fun _ z => XS.icmpYes X.here hx rfl rfl hd rfl hc ho hp z
theorem g_icF (X : Stand p l e R s m args below meth c T locs cells slots) (hx : p.tables.exec = Jvm.exec) (q : Nat) {cd : ClassFile.Cond} {x y : Int32} {o : Int} (hd : decode c.code pc = .ok (.if_icmp cd o, 3)) (hc : if_icmp.holds cd x y = false) (hq : pc + 3 = q) (k : Go p e below Fn Q T (mkF m q Ls S)) : Go p e below Fn Q T (mkF m pc Ls (.int y :: .int x :: S)) := by
  subst hq; exact k.st fun _ z => XS.icmpNo X.here hx rfl hd rfl hc z
theorem g_ifnullT (X : Stand p l e R s m args below meth c T locs cells slots) (hx : p.tables.exec = Jvm.exec) (q : Nat)  {o : Int} (hd : decode c.code pc = .ok (.ifnull o, 3))  (ho : 0 ≤ (pc : Int) + o) (hp : ((pc : Int) + o).toNat = q) (k : Go p e below Fn Q T (mkF m q Ls S)) : Go p e below Fn Q T (mkF m pc Ls (.null :: S)) := k.st fun _ z => XS.ifnullYes X.here hx rfl rfl hd rfl ho hp z
theorem g_ifnullF (X : Stand p l e R s m args below meth c T locs cells slots) (hx : p.tables.exec = Jvm.exec) (q : Nat) {b : Addr} {o : Int} (hd : decode c.code pc = .ok (.ifnull o, 3))  (hq : pc + 3 = q) (k : Go p e below Fn Q T (mkF m q Ls S)) : Go p e below Fn Q T (mkF m pc Ls (.ref b :: S)) := by
  subst hq; exact k.st fun _ z => XS.ifnullNo X.here hx rfl hd rfl z
theorem g_ifnonnullT (X : Stand p l e R s m args below meth c T locs cells slots) (hx : p.tables.exec = Jvm.exec) (q : Nat) {b : Addr} {o : Int} (hd : decode c.code pc = .ok (.ifnonnull o, 3))  (ho : 0 ≤ (pc : Int) + o) (hp : ((pc : Int) + o).toNat = q) (k : Go p e below Fn Q T (mkF m q Ls S)) : Go p e below Fn Q T (mkF m pc Ls (.ref b :: S)) := k.st fun _ z => XS.ifnonnullYes X.here hx rfl rfl hd rfl ho hp z
theorem g_ifnonnullF (X : Stand p l e R s m args below meth c T locs cells slots) (hx : p.tables.exec = Jvm.exec) (q : Nat)  {o : Int} (hd : decode c.code pc = .ok (.ifnonnull o, 3))  (hq : pc + 3 = q) (k : Go p e below Fn Q T (mkF m q Ls S)) : Go p e below Fn Q T (mkF m pc Ls (.null :: S)) := by
  subst hq; exact k.st fun _ z => XS.ifnonnullNo X.here hx rfl hd rfl z
theorem g_ac (X : Stand p l e R s m args below meth c T locs cells slots) (hx : p.tables.exec = Jvm.exec) (q : Nat) {cd : ACond} {v w : Value} {o : Int} (same : Bool) (hd : decode c.code pc = .ok (.if_acmp cd o, 3)) (h1 : v.isRef = true) (h2 : w.isRef = true) (hs : decide (v = w) = same) (ho : 0 ≤ (pc : Int) + o) (hp : q = if acV cd same = true then ((pc : Int) + o).toNat else pc + 3) (k : Go p e below Fn Q T (mkF m q Ls S)) : Go p e below Fn Q T (mkF m pc Ls (w :: v :: S)) := k.st fun _ z => Jvm.RoadKit.acmp X hx rfl h1 h2 rfl hd rfl hs ho hp z
theorem own_ltL {x y : Int64} (h : x < y) : ifCond.holds .lt (lcmpW x y) = true ∧ ifCond.holds .ge (lcmpW x y) = false ∧ ifCond.holds .gt (lcmpW y x) = true ∧ ifCond.holds .le (lcmpW y x) = false := by
  have h1 := (lw_lt x y).mpr h
  have h2 := (lw_gt y x).mpr h
  exact ⟨(if0 _ _).trans (tlt h1).1, (if0 _ _).trans (tlt h1).2.1, (if0 _ _).trans (tlt h2).2.2.1, (if0 _ _).trans (tlt h2).2.2.2⟩
theorem own_nltL {x y : Int64} (h : ¬ x < y) : ifCond.holds .lt (lcmpW x y) = false ∧ ifCond.holds .ge (lcmpW x y) = true ∧ ifCond.holds .gt (lcmpW y x) = false ∧ ifCond.holds .le (lcmpW y x) = true := by
  have h1 : ¬ lcmpW x y < 0 := fun q => h ((lw_lt x y).mp q)
  have h2 : ¬ 0 < lcmpW y x := fun q => h ((lw_gt y x).mp q)
  exact ⟨(if0 _ _).trans (flt h1).1, (if0 _ _).trans (flt h1).2.1, (if0 _ _).trans (flt h2).2.2.1, (if0 _ _).trans (flt h2).2.2.2⟩
theorem own_eqL {x y : Int64} (h : x = y) : ifCond.holds .eq (lcmpW x y) = true ∧ ifCond.holds .ne (lcmpW x y) = false := by
  have h1 := (lw_eq x y).mpr h
  exact ⟨(if0 _ _).trans (teq h1).1, (if0 _ _).trans (teq h1).2⟩
theorem own_neL {x y : Int64} (h : ¬ x = y) : ifCond.holds .eq (lcmpW x y) = false ∧ ifCond.holds .ne (lcmpW x y) = true := by
  have h1 : ¬ lcmpW x y = 0 := fun q => h ((lw_eq x y).mp q)
  exact ⟨(if0 _ _).trans (feq h1).1, (if0 _ _).trans (feq h1).2⟩
theorem g_ret (X : Stand p l e R s m args below meth c T locs cells slots) (hx : p.tables.exec = Jvm.exec) {t : FieldType} {i : Instr} {w : Value} (hret : meth.sig.returnType = some t) (hlk : meth.locks = false) (hn : narrow t w = w) (hi : (i = .ireturn ∧ (t = .int ∨ t = .boolean ∨ t = .byte ∨ t = .char ∨ t = .short) ∧ ∃ z, w = .int z) ∨ (i = .lreturn ∧ t = .long ∧ ∃ z, w = .long z) ∨ (i = .dreturn ∧ t = .double ∧ ∃ z, w = .double z) ∨ (i = .freturn ∧ t = .float ∧ ∃ z, w = .float z) ∨ (i = .areturn ∧ t.isReference = true ∧ w.isRef = true)) (hd : decode c.code pc = .ok (i, 1)) (hc : cells ≤ K) (hs : slots ≤ J) (hq : Q (some w) T.heap locs) : Go p e below (fun o t L => FrameEnd s o t L K J) Q T (mkF m pc Ls (w :: S)) := by
  obtain ⟨fs, hr, hrun, hended, hW, hsame⟩ := X.leave (v := some w) (fun h => by rw [hret] at h; cases h) hlk
  exact ⟨_, _, retOut X hx hret hn hi hd hr, hrun, hended, _, _, rfl, hq, ⟨_, rfl⟩, hW, hsame.mono hc hs⟩
theorem g_retI (X : Stand p l e R s m args below meth c T locs cells slots) (hx : p.tables.exec = Jvm.exec) {z : Int32} (hret : meth.sig.returnType = some .int) (hlk : meth.locks = false) (hd : decode c.code pc = .ok (.ireturn, 1)) (hc : cells ≤ K) (hs : slots ≤ J) (hq : Q (some (.int z)) T.heap locs) : Go p e below (fun o t L => FrameEnd s o t L K J) Q T (mkF m pc Ls (.int z :: S)) := g_ret X hx hret hlk rfl (Or.inl ⟨rfl, Or.inl rfl, _, rfl⟩) hd hc hs hq
theorem g_retZ (X : Stand p l e R s m args below meth c T locs cells slots) (hx : p.tables.exec = Jvm.exec) {z : Int32} (hret : meth.sig.returnType = some .boolean) (hlk : meth.locks = false) (hn : narrow .boolean (.int z) = .int z) (hd : decode c.code pc = .ok (.ireturn, 1)) (hc : cells ≤ K) (hs : slots ≤ J) (hq : Q (some (.int z)) T.heap locs) : Go p e below (fun o t L => FrameEnd s o t L K J) Q T (mkF m pc Ls (.int z :: S)) := g_ret X hx hret hlk hn (Or.inl ⟨rfl, Or.inr (Or.inl rfl), _, rfl⟩) hd hc hs hq
theorem g_retC (X : Stand p l e R s m args below meth c T locs cells slots) (hx : p.tables.exec = Jvm.exec) {z : Int32} (hret : meth.sig.returnType = some .char) (hlk : meth.locks = false) (hn : narrow .char (.int z) = .int z) (hd : decode c.code pc = .ok (.ireturn, 1)) (hc : cells ≤ K) (hs : slots ≤ J) (hq : Q (some (.int z)) T.heap locs) : Go p e below (fun o t L => FrameEnd s o t L K J) Q T (mkF m pc Ls (.int z :: S)) := g_ret X hx hret hlk hn (Or.inl ⟨rfl, Or.inr (Or.inr (Or.inr (Or.inl rfl))), _, rfl⟩) hd hc hs hq
theorem g_retB (X : Stand p l e R s m args below meth c T locs cells slots) (hx : p.tables.exec = Jvm.exec) {z : Int32} (hret : meth.sig.returnType = some .byte) (hlk : meth.locks = false) (hn : narrow .byte (.int z) = .int z) (hd : decode c.code pc = .ok (.ireturn, 1)) (hc : cells ≤ K) (hs : slots ≤ J) (hq : Q (some (.int z)) T.heap locs) : Go p e below (fun o t L => FrameEnd s o t L K J) Q T (mkF m pc Ls (.int z :: S)) := g_ret X hx hret hlk hn (Or.inl ⟨rfl, Or.inr (Or.inr (Or.inl rfl)), _, rfl⟩) hd hc hs hq
theorem g_retJ (X : Stand p l e R s m args below meth c T locs cells slots) (hx : p.tables.exec = Jvm.exec) {z : Int64} (hret : meth.sig.returnType = some .long) (hlk : meth.locks = false) (hd : decode c.code pc = .ok (.lreturn, 1)) (hc : cells ≤ K) (hs : slots ≤ J) (hq : Q (some (.long z)) T.heap locs) : Go p e below (fun o t L => FrameEnd s o t L K J) Q T (mkF m pc Ls (.long z :: S)) := g_ret X hx hret hlk rfl (Or.inr (Or.inl ⟨rfl, rfl, _, rfl⟩)) hd hc hs hq
theorem g_retA (X : Stand p l e R s m args below meth c T locs cells slots) (hx : p.tables.exec = Jvm.exec) {t : FieldType} {w : Value} (hret : meth.sig.returnType = some t) (hlk : meth.locks = false) (hr : t.isReference = true) (hw : w.isRef = true) (hn : narrow t w = w) (hd : decode c.code pc = .ok (.areturn, 1)) (hc : cells ≤ K) (hs : slots ≤ J) (hq : Q (some w) T.heap locs) : Go p e below (fun o t L => FrameEnd s o t L K J) Q T (mkF m pc Ls (w :: S)) := g_ret X hx hret hlk hn (Or.inr (Or.inr (Or.inr (Or.inr ⟨rfl, hr, hw⟩)))) hd hc hs hq
theorem g_retV (X : Stand p l e R s m args below meth c T locs cells slots) (hx : p.tables.exec = Jvm.exec) (hret : meth.sig.returnType = none) (hlk : meth.locks = false) (hd : decode c.code pc = .ok (.return_, 1)) (hc : cells ≤ K) (hs : slots ≤ J) (hq : Q none T.heap locs) : Go p e below (fun o t L => FrameEnd s o t L K J) Q T (mkF m pc Ls []) := by
  obtain ⟨fs, hr, hrun, hended, hW, hsame⟩ := X.leave (v := none) (fun _ => rfl) hlk
  exact ⟨_, _, X.returnOut hx hret hd hr, hrun, hended, _, _, rfl, hq, ⟨_, rfl⟩, hW, hsame.mono hc hs⟩
theorem g_getF (X : Stand p l e R s m args below meth c T locs cells slots) (hx : p.tables.exec = Jvm.exec) (q : Nat) (hZ : Z.Warmed39 s.vm) {own R0 O n d host : String} {index : Nat} (hown : s.vm.findClass own = some m.cls) (w1 : (Jvm.Cond.fieldLink own index R0 n d).before a0 Z = true ∨ (Jvm.Cond.fieldLinkNest own index R0 n d host).before a0 Z = true) (via : Via Z R0 O n d) (eT : T.heap = h) {a : Addr} {v : Value} (F : Fld Z h a O n d v) (hd : decode c.code pc = .ok (.getfield index, 3)) (hq : pc + 3 = q)
    (k : ∀ T', Stand p l e R s m args below meth c T' locs cells slots → T'.heap = h → Go p e below Fn Q T' (mkF m q Ls (v :: S))) : Go p e below Fn Q T (mkF m pc Ls (.ref a :: S)) := by
  obtain ⟨T', X', e', st⟩ := getF X hx hZ hown w1 via eT F (g := mkF m pc Ls (.ref a :: S)) rfl rfl hd
  subst hq; exact (k T' X' e').st st
theorem g_putF (X : Stand p l e R s m args below meth c T locs cells slots) (hx : p.tables.exec = Jvm.exec) (q : Nat) (hZ : Z.Warmed39 s.vm) {own R0 O n d host C : String} {index kk : Nat} {ty : FieldType} (hown : s.vm.findClass own = some m.cls) (w1 : (Jvm.Cond.fieldLink own index R0 n d).before a0 Z = true ∨ (Jvm.Cond.fieldLinkNest own index R0 n d host).before a0 Z = true) (via : Via Z R0 O n d) (eT : T.heap = h) {a : Addr} {v old : Value} (F : Fld Z h a O n d old) (E : Exa Z h a C)
    (L : (Jvm.Cond.lays C O n d).before a0 Z = true ∨ ((Jvm.Cond.laysFinal C O n d).before a0 Z = true ∧ own = O ∧ meth.name = "<init>")) (wi : (Jvm.Cond.instantiable C kk).before a0 Z = true) (hty : parseFieldDescriptor d = some ty) (hn : narrow ty v = v) (hf : fits ty v = true) (hd : decode c.code pc = .ok (.putfield index, 3)) (hq : pc + 3 = q)
    (k : ∀ T' h', Stand p l e R s m args below meth c T' (locs ++ [⟨a, Jvm.RoadKit.slotOf Z O n d⟩]) cells slots → T'.heap = h' → Wr h h' a (Jvm.RoadKit.slotOf Z O n d) v → Go p e below Fn Q T' (mkF m q Ls S)) : Go p e below Fn Q T (mkF m pc Ls (v :: .ref a :: S)) := by
  obtain ⟨T', h', X', e', W', st⟩ := putF X hx hZ hown w1 via eT F E L wi hty hn hf (g := mkF m pc Ls (v :: .ref a :: S)) rfl rfl hd
  subst hq; exact (k T' h' X' e' W').st st
theorem g_getS (X : Stand p l e R s m args below meth c T locs cells slots) (hx : p.tables.exec = Jvm.exec) (q : Nat) (hZ : Z.Warmed39 s.vm) {own R0 O n d host : String} {index : Nat} (hown : s.vm.findClass own = some m.cls) (w1 : (Jvm.Cond.fieldLink own index R0 n d).before a0 Z = true ∨ (Jvm.Cond.fieldLinkNest own index R0 n d host).before a0 Z = true) (via : Via Z R0 O n d) (eT : T.heap = h) {v : Value} (F : Sta Z h O n d v) (hd : decode c.code pc = .ok (.getstatic index, 3)) (hq : pc + 3 = q)
    (k : ∀ T', Stand p l e R s m args below meth c T' locs cells slots → T'.heap = h → Go p e below Fn Q T' (mkF m q Ls (v :: S))) : Go p e below Fn Q T (mkF m pc Ls S) := by
  obtain ⟨T', X', e', st⟩ := getS2 X hx hZ hown w1 via eT F (g := mkF m pc Ls S) rfl hd
  subst hq; exact (k T' X' e').st st
theorem g_new (X : Stand p l e R s m args below meth c T locs cells slots) (hx : p.tables.exec = Jvm.exec) (q : Nat) (hZ : Z.Warmed39 s.vm) {own C : String} {index n : Nat} (hown : s.vm.findClass own = some m.cls) (w1 : (Jvm.Cond.classLink own index C).before a0 Z = true) (wi : (Jvm.Cond.instantiable C n).before a0 Z = true) (wz : (Jvm.Cond.initialized C).before a0 Z = true) (eT : T.heap = h) (hd : decode c.code pc = .ok (.new index, 3)) (hc : cells + 1 ≤ R.cells) (hl : slots + n ≤ R.slots) (hq : pc + 3 = q)
    (k : ∀ T' h' b, b = h.size → Stand p l e R s m args below meth c T' locs (cells + 1) (slots + n) → T'.heap = h' → Ext h h' → Exa Z h' b C → (∀ {O nm d : String} {ty : FieldType}, Laid Z a0 C O nm d → parseFieldDescriptor d = some ty → Fld Z h' b O nm d (defaultValue ty)) → Go p e below Fn Q T' (mkF m q Ls (.ref b :: S))) : Go p e below Fn Q T (mkF m pc Ls S) := by
  obtain ⟨T', h', X', e', E', A', D', -, st⟩ := newO X hx hZ hown w1 wi wz eT (g := mkF m pc Ls S) rfl hd hc hl
  subst hq; exact (k T' h' _ rfl X' e' E' A' D').st st
theorem g_initO (X : Stand p l e R s m args below meth c T locs cells slots) (hx : p.tables.exec = Jvm.exec) (q : Nat) (hZ : Z.Warmed39 s.vm) {own : String} {index : Nat} (hown : s.vm.findClass own = some m.cls) (w1 : (Jvm.Cond.methodLink own index Lib.objectInit).before a0 Z = true) (w2 : (Jvm.Cond.instanceMethod Lib.objectInit).before a0 Z = true) (w3 : (Jvm.Cond.code Lib.objectInit ⟨#[0xb1]⟩ 1 none).before a0 Z = true) (eT : T.heap = h) (hml : Ls.size = c.maxLocals) {a : Addr} (hd : decode c.code pc = .ok (.invokespecial index, 3)) (hf : 1 ≤ R.frames) (W : Nat) (hW : (S.map fun v => v.category).sum ≤ W) (hl : W + 12 ≤ R.locals) (hq : pc + 3 = q)
    (k : ∀ T', Stand p l e R s m args below meth c T' locs cells slots → T'.heap = h → Go p e below Fn Q T' (mkF m q Ls S)) : Go p e below Fn Q T (mkF m pc Ls (.ref a :: S)) := by
  obtain ⟨T', X', e', st⟩ := initO X hx hZ hown w1 w2 w3 eT (g := mkF m pc Ls (.ref a :: S)) rfl hml rfl hd hf (W := W) (by show 2 * 0 + _ ≤ _; omega) hl
  subst hq; exact (k T' X' e').st st
theorem g_newP (X : Stand p l e R s m args below meth c T locs cells slots) (hx : p.tables.exec = Jvm.exec) (q : Nat) (hZ : Z.Warmed39 s.vm) {aty : ArrayType} (w1 : (Jvm.Cond.arrayClass (newarray.typeOf aty)).before a0 Z = true) (eT : T.heap = h) {n : Int32} (hd : decode c.code pc = .ok (.newarray aty, 2)) (hn : ¬ n < 0) (cap : Nat) (hcap : n.toNatClampNeg ≤ cap) (hb : cap * 8 ≤ 536870912) (hc : cells + 1 ≤ R.cells) (hl : slots + cap ≤ R.slots) (hq : pc + 2 = q)
    (k : ∀ T' h' b kA, b = h.size → Stand p l e R s m args below meth c T' locs (cells + 1) (slots + cap) → T'.heap = h' → Ext h h' → Arv Z h' b kA (newarray.typeOf aty) n [] (defaultValue (newarray.typeOf aty)) → Go p e below Fn Q T' (mkF m q Ls (.ref b :: S))) : Go p e below Fn Q T (mkF m pc Ls (.int n :: S)) := by
  obtain ⟨T', h', cA, X', e', E', A', st⟩ := newP X hx hZ w1 eT (g := mkF m pc Ls (.int n :: S)) rfl hd rfl hn hcap hb hc hl
  subst hq; exact (k T' h' _ cA rfl X' e' E' (Arv.new A' hn)).st st
theorem g_newR (X : Stand p l e R s m args below meth c T locs cells slots) (hx : p.tables.exec = Jvm.exec) (q : Nat) (hZ : Z.Warmed39 s.vm) {own C : String} {index : Nat} (hown : s.vm.findClass own = some m.cls) (w1 : (Jvm.Cond.classLink own index C).before a0 Z = true) (w2 : (Jvm.Cond.arrayOver (.object C)).before a0 Z = true) (eT : T.heap = h) {n : Int32} (hd : decode c.code pc = .ok (.anewarray index, 3)) (hn : ¬ n < 0) (cap : Nat) (hcap : n.toNatClampNeg ≤ cap) (hb : cap * 8 ≤ 536870912) (hc : cells + 1 ≤ R.cells) (hl : slots + cap ≤ R.slots) (hq : pc + 3 = q)
    (k : ∀ T' h' b kA, b = h.size → Stand p l e R s m args below meth c T' locs (cells + 1) (slots + cap) → T'.heap = h' → Ext h h' → Arv Z h' b kA (.object C) n [] .null → Ovr Z kA C → Go p e below Fn Q T' (mkF m q Ls (.ref b :: S))) : Go p e below Fn Q T (mkF m pc Ls (.int n :: S)) := by
  obtain ⟨T', h', cA, X', e', E', A', O', st⟩ := newR X hx hZ hown w1 w2 eT (g := mkF m pc Ls (.int n :: S)) rfl hd rfl hn hcap hb hc hl
  subst hq; exact (k T' h' _ cA rfl X' e' E' (Arv.new A' hn) O').st st
theorem g_iaload (X : Stand p l e R s m args below meth c T locs cells slots) (hx : p.tables.exec = Jvm.exec) (q : Nat) (hZ : Z.Warmed39 s.vm) (eT : T.heap = h) {a : Addr} {kA : ClassId} {n j : Int32} {vs : List Value} {dv v : Value} (V : Arv Z h a kA .int n vs dv) (hj : ¬ j < 0 ∧ j < n) (hv : vs.getD j.toNatClampNeg dv = v) (hd : decode c.code pc = .ok (.iaload, 1)) (hq : pc + 1 = q) (k : Go p e below Fn Q T (mkF m q Ls (v :: S))) : Go p e below Fn Q T (mkF m pc Ls (.int j :: .ref a :: S)) := by
  obtain ⟨cl, A, -, S', -, H', -⟩ := V
  subst hq
  exact k.st fun _ z => X.iaload hx (by rw [eT]; exact A.1) (State.isArrayOf_alike hZ.alike A.2.1) A.2.2 (inb_of S' hj) (H'.at (inb_of S' hj) hv) (g := mkF m pc Ls (.int j :: .ref a :: S)) rfl rfl hd _ z
theorem g_caload (X : Stand p l e R s m args below meth c T locs cells slots) (hx : p.tables.exec = Jvm.exec) (q : Nat) (hZ : Z.Warmed39 s.vm) (eT : T.heap = h) {a : Addr} {kA : ClassId} {n j : Int32} {vs : List Value} {dv v : Value} (V : Arv Z h a kA .char n vs dv) (hj : ¬ j < 0 ∧ j < n) (hv : vs.getD j.toNatClampNeg dv = v) (hd : decode c.code pc = .ok (.caload, 1)) (hq : pc + 1 = q) (k : Go p e below Fn Q T (mkF m q Ls (v :: S))) : Go p e below Fn Q T (mkF m pc Ls (.int j :: .ref a :: S)) := by
  obtain ⟨cl, A, -, S', -, H', -⟩ := V
  subst hq
  exact k.st fun _ z => X.caload hx (by rw [eT]; exact A.1) (State.isArrayOf_alike hZ.alike A.2.1) A.2.2 (inb_of S' hj) (H'.at (inb_of S' hj) hv) (g := mkF m pc Ls (.int j :: .ref a :: S)) rfl rfl hd _ z
theorem g_laload (X : Stand p l e R s m args below meth c T locs cells slots) (hx : p.tables.exec = Jvm.exec) (q : Nat) (hZ : Z.Warmed39 s.vm) (eT : T.heap = h) {a : Addr} {kA : ClassId} {n j : Int32} {vs : List Value} {dv v : Value} (V : Arv Z h a kA .long n vs dv) (hj : ¬ j < 0 ∧ j < n) (hv : vs.getD j.toNatClampNeg dv = v) (hd : decode c.code pc = .ok (.laload, 1)) (hq : pc + 1 = q) (k : Go p e below Fn Q T (mkF m q Ls (v :: S))) : Go p e below Fn Q T (mkF m pc Ls (.int j :: .ref a :: S)) := by
  obtain ⟨cl, A, -, S', -, H', -⟩ := V
  subst hq
  exact k.st fun _ z => X.laload hx (by rw [eT]; exact A.1) (State.isArrayOf_alike hZ.alike A.2.1) A.2.2 (inb_of S' hj) (H'.at (inb_of S' hj) hv) (g := mkF m pc Ls (.int j :: .ref a :: S)) rfl rfl hd _ z
theorem g_baload (X : Stand p l e R s m args below meth c T locs cells slots) (hx : p.tables.exec = Jvm.exec) (q : Nat) (hZ : Z.Warmed39 s.vm) (eT : T.heap = h) {a : Addr} {kA : ClassId} {n j : Int32} {vs : List Value} {dv v : Value} (V : Arv Z h a kA .byte n vs dv) (hj : ¬ j < 0 ∧ j < n) (hv : vs.getD j.toNatClampNeg dv = v) (hd : decode c.code pc = .ok (.baload, 1)) (hq : pc + 1 = q) (k : Go p e below Fn Q T (mkF m q Ls (v :: S))) : Go p e below Fn Q T (mkF m pc Ls (.int j :: .ref a :: S)) := by
  obtain ⟨cl, A, -, S', -, H', -⟩ := V
  subst hq
  exact k.st fun _ z => X.baloadBytes hx (by rw [eT]; exact A.1) (State.isArrayOf_alike hZ.alike A.2.1) A.2.2 (inb_of S' hj) (H'.at (inb_of S' hj) hv) (g := mkF m pc Ls (.int j :: .ref a :: S)) rfl rfl hd _ z
theorem g_aaload (X : Stand p l e R s m args below meth c T locs cells slots) (hx : p.tables.exec = Jvm.exec) (q : Nat) (hZ : Z.Warmed39 s.vm) (eT : T.heap = h) {a : Addr} {kA : ClassId} {C : String} {n j : Int32} {vs : List Value} {dv v : Value} (V : Arv Z h a kA (.object C) n vs dv) (hj : ¬ j < 0 ∧ j < n) (hv : vs.getD j.toNatClampNeg dv = v) (hd : decode c.code pc = .ok (.aaload, 1)) (hq : pc + 1 = q) (k : Go p e below Fn Q T (mkF m q Ls (v :: S))) : Go p e below Fn Q T (mkF m pc Ls (.int j :: .ref a :: S)) := by
  obtain ⟨cl, A, -, S', -, H', -⟩ := V
  subst hq
  exact k.st fun _ z => X.aaload hx (by rw [eT]; exact A.1) (State.isArrayOf_alike hZ.alike A.2.1) rfl A.2.2 (inb_of S' hj) (H'.at (inb_of S' hj) hv) (g := mkF m pc Ls (.int j :: .ref a :: S)) rfl rfl hd _ z
theorem g_arraylength (X : Stand p l e R s m args below meth c T locs cells slots) (hx : p.tables.exec = Jvm.exec) (q : Nat) (hZ : Z.Warmed39 s.vm) (eT : T.heap = h) {a : Addr} {kA : ClassId} {ty : FieldType} {n : Int32} {vs : List Value} {dv : Value} (V : Arv Z h a kA ty n vs dv) (hd : decode c.code pc = .ok (.arraylength, 1)) (hq : pc + 1 = q) (k : Go p e below Fn Q T (mkF m q Ls (.int n :: S))) : Go p e below Fn Q T (mkF m pc Ls (.ref a :: S)) := by
  obtain ⟨cl, A, -, S', N', -, -⟩ := V
  subst hq
  exact k.st fun _ z => X.arraylength hx (by rw [eT]; exact A.1) (State.isArrayOf_alike hZ.alike A.2.1) (g := mkF m pc Ls (.ref a :: S)) rfl rfl hd _ (by rw [len_of S' N']; exact z)
theorem g_aastore (X : Stand p l e R s m args below meth c T locs cells slots) (hx : p.tables.exec = Jvm.exec) (q : Nat) (hZ : Z.Warmed39 s.vm) (eT : T.heap = h) {a b : Addr} {kA : ClassId} {C : String} {n j : Int32} {vs : List Value} {dv : Value} (V : Arv Z h a kA (.object C) n vs dv) (O : Ovr Z kA C) (I : Ins Z h b C true) (i : Nat) (hi : j.toNatClampNeg = i) (hj : ¬ j < 0 ∧ j < n) (hl : i < vs.length) (hd : decode c.code pc = .ok (.aastore, 1)) (hq : pc + 1 = q)
    (k : ∀ T' h', Stand p l e R s m args below meth c T' (locs ++ [⟨a, j.toNatClampNeg⟩]) cells slots → T'.heap = h' → Wr h h' a j.toNatClampNeg (.ref b) → Arv Z h' a kA (.object C) n (vs.set i (.ref b)) dv → Go p e below Fn Q T' (mkF m q Ls S)) : Go p e below Fn Q T (mkF m pc Ls (.ref b :: .int j :: .ref a :: S)) := by
  obtain ⟨cl, A, q1, S', N', H', G'⟩ := V
  subst hq
  obtain ⟨T', h', X', e', W', st⟩ := stR X hx hZ eT A (j := j) (inb_of S' hj) rfl (Sto.ofV A q1 O I) (g := mkF m pc Ls (.ref b :: .int j :: .ref a :: S)) rfl rfl hd
  exact (k T' h' X' e' W' (Arv.set A q1 S' N' H' G' rfl W' i hi hl)).st st
theorem g_iastore (X : Stand p l e R s m args below meth c T locs cells slots) (hx : p.tables.exec = Jvm.exec) (q : Nat) (hZ : Z.Warmed39 s.vm) (eT : T.heap = h) {a : Addr} {kA : ClassId} {n j x : Int32} {vs : List Value} {dv : Value} (V : Arv Z h a kA .int n vs dv) (i : Nat) (hi : j.toNatClampNeg = i) (hj : ¬ j < 0 ∧ j < n) (hl : i < vs.length) (hd : decode c.code pc = .ok (.iastore, 1)) (hq : pc + 1 = q)
    (k : ∀ T' h', Stand p l e R s m args below meth c T' (locs ++ [⟨a, j.toNatClampNeg⟩]) cells slots → T'.heap = h' → Wr h h' a j.toNatClampNeg (.int x) → Arv Z h' a kA .int n (vs.set i (.int x)) dv → Go p e below Fn Q T' (mkF m q Ls S)) : Go p e below Fn Q T (mkF m pc Ls (.int x :: .int j :: .ref a :: S)) := by
  obtain ⟨cl, A, q1, S', N', H', G'⟩ := V
  subst hq
  obtain ⟨T', h', X', e', W', st⟩ := stI X hx hZ eT A (j := j) (inb_of S' hj) (g := mkF m pc Ls (.int x :: .int j :: .ref a :: S)) rfl rfl hd
  exact (k T' h' X' e' W' (Arv.set A q1 S' N' H' G' rfl W' i hi hl)).st st
theorem g_castore (X : Stand p l e R s m args below meth c T locs cells slots) (hx : p.tables.exec = Jvm.exec) (q : Nat) (hZ : Z.Warmed39 s.vm) (eT : T.heap = h) {a : Addr} {kA : ClassId} {n j x : Int32} {vs : List Value} {dv : Value} (V : Arv Z h a kA .char n vs dv) (i : Nat) (hi : j.toNatClampNeg = i) (hj : ¬ j < 0 ∧ j < n) (hl : i < vs.length) (hd : decode c.code pc = .ok (.castore, 1)) (hq : pc + 1 = q)
    (k : ∀ T' h', Stand p l e R s m args below meth c T' (locs ++ [⟨a, j.toNatClampNeg⟩]) cells slots → T'.heap = h' → Wr h h' a j.toNatClampNeg (.int (nar .char x)) → Arv Z h' a kA .char n (vs.set i (.int (nar .char x))) dv → Go p e below Fn Q T' (mkF m q Ls S)) : Go p e below Fn Q T (mkF m pc Ls (.int x :: .int j :: .ref a :: S)) := by
  obtain ⟨cl, A, q1, S', N', H', G'⟩ := V
  subst hq
  obtain ⟨T', h', X', e', W', st⟩ := stC X hx hZ eT A (j := j) (inb_of S' hj) (g := mkF m pc Ls (.int x :: .int j :: .ref a :: S)) rfl rfl hd
  exact (k T' h' X' e' W' (Arv.set A q1 S' N' H' G' (fits_nar_char _) W' i hi hl)).st st
theorem g_bastore (X : Stand p l e R s m args below meth c T locs cells slots) (hx : p.tables.exec = Jvm.exec) (q : Nat) (hZ : Z.Warmed39 s.vm) (eT : T.heap = h) {a : Addr} {kA : ClassId} {n j x : Int32} {vs : List Value} {dv : Value} (V : Arv Z h a kA .byte n vs dv) (i : Nat) (hi : j.toNatClampNeg = i) (hj : ¬ j < 0 ∧ j < n) (hl : i < vs.length) (hd : decode c.code pc = .ok (.bastore, 1)) (hq : pc + 1 = q)
    (k : ∀ T' h', Stand p l e R s m args below meth c T' (locs ++ [⟨a, j.toNatClampNeg⟩]) cells slots → T'.heap = h' → Wr h h' a j.toNatClampNeg (.int (nar .byte x)) → Arv Z h' a kA .byte n (vs.set i (.int (nar .byte x))) dv → Go p e below Fn Q T' (mkF m q Ls S)) : Go p e below Fn Q T (mkF m pc Ls (.int x :: .int j :: .ref a :: S)) := by
  obtain ⟨cl, A, q1, S', N', H', G'⟩ := V
  subst hq
  obtain ⟨T', h', X', e', W', st⟩ := stB X hx hZ eT A (j := j) (inb_of S' hj) (g := mkF m pc Ls (.int x :: .int j :: .ref a :: S)) rfl rfl hd
  exact (k T' h' X' e' W' (Arv.set A q1 S' N' H' G' (fits_nar_byte _) W' i hi hl)).st st
theorem g_callS (X : Stand p l e R s m args below meth c T locs cells slots) (hx : p.tables.exec = Jvm.exec) (q : Nat) (hZ : Z.Warmed39 s.vm) {own : String} {index : Nat} {y : MethodName} {bytes : ByteArray} {maxL : Nat} {ret : Option FieldType} {rm : Room} {Qc : Option Value → Heap → List Loc → Prop} (hown : s.vm.findClass own = some m.cls) (w1 : (Jvm.Cond.methodLink own index y).before a0 Z = true) (w2 : (Jvm.Cond.static y).before a0 Z = true) (w3 : (Jvm.Cond.initialized y.cls).before a0 Z = true) (w4 : (Jvm.Cond.code y bytes maxL ret).before a0 Z = true) (hy : y.cls ≠ "java/lang/invoke/MethodHandle" ∧ y.cls ≠ "java/lang/invoke/VarHandle") (argsL rest : List Value) (hM : OwnMet l Z y bytes maxL ret [] rm argsL h Qc)
    (eT : T.heap = h) (W : Nat) (hf : rm.frames + 1 ≤ R.frames) (hl : W + (maxL + 11) + rm.locals ≤ R.locals) (hc : cells + rm.cells ≤ R.cells) (hs : slots + rm.slots ≤ R.slots) (hml : Ls.size = c.maxLocals) (hlen : ∀ sig, parseMethodDescriptor y.desc = some sig → argsL.length = sig.parameters.length) (hd : decode c.code pc = .ok (.invokestatic index, 3)) (hst : S = argsL.reverse ++ rest) (hW : (rest.map fun v => v.category).sum ≤ W) (hq : pc + 3 = q) (k : ∀ v T' L', Stand p l e R s m args below meth c T' (locs ++ L') (cells + rm.cells) (slots + rm.slots) → Qc v T'.heap L' → Go p e below Fn Q T' (mkF m q Ls (v.toList ++ rest))) : Go p e below Fn Q T (mkF m pc Ls S) := by
  subst hst
  obtain ⟨v, _, ⟨T', L', k', n'⟩, -, X', ⟨Lc, hQ, l', y', z'⟩, st⟩ := Jvm.LawKit.callS X hx (y := y) hown (mvT hZ w1) (mvT hZ w2) (mvT hZ w3) (mvT hZ w4) hy (backOf (W := W) hM hZ w4 w3 hf hl) (g := mkF m pc Ls (argsL.reverse ++ rest)) rfl hml (argsL := argsL) (rest := rest) hlen rfl (by show 2 * 0 + _ ≤ _; omega) hd (fun _ _ => ⟨rfl, eT, hc, hs⟩)
  dsimp only [Pt.U, Pt.locs, Pt.cells, Pt.slots] at X' l' y' z' st hQ
  subst l' y' z' hq
  exact (k v T' Lc X' hQ).st st
theorem g_callI (X : Stand p l e R s m args below meth c T locs cells slots) (hx : p.tables.exec = Jvm.exec) (q : Nat) (hZ : Z.Warmed39 s.vm) {own : String} {index : Nat} {y : MethodName} {bytes : ByteArray} {maxL : Nat} {rm : Room} {Qc : Option Value → Heap → List Loc → Prop} (hy1 : y.name = "<init>") (hown : s.vm.findClass own = some m.cls) (w1 : (Jvm.Cond.methodLink own index y).before a0 Z = true) (w2 : (Jvm.Cond.instanceMethod y).before a0 Z = true) (w3 : (Jvm.Cond.initialized y.cls).before a0 Z = true) (w4 : (Jvm.Cond.code y bytes maxL none).before a0 Z = true) (hy : y.cls ≠ "java/lang/invoke/MethodHandle" ∧ y.cls ≠ "java/lang/invoke/VarHandle") (a : Addr) (argsL rest : List Value) (hM : OwnMet l Z y bytes maxL none [] rm (.ref a :: argsL) h Qc)
    (eT : T.heap = h) (W : Nat) (hf : rm.frames + 1 ≤ R.frames) (hl : W + (maxL + 11) + rm.locals ≤ R.locals) (hc : cells + rm.cells ≤ R.cells) (hs : slots + rm.slots ≤ R.slots) (hml : Ls.size = c.maxLocals) (hlen : ∀ sig, parseMethodDescriptor y.desc = some sig → argsL.length = sig.parameters.length) (hd : decode c.code pc = .ok (.invokespecial index, 3)) (hst : S = argsL.reverse ++ .ref a :: rest) (hW : (rest.map fun v => v.category).sum ≤ W) (hq : pc + 3 = q) (k : ∀ v T' L', Stand p l e R s m args below meth c T' (locs ++ L') (cells + rm.cells) (slots + rm.slots) → Qc v T'.heap L' → Go p e below Fn Q T' (mkF m q Ls (v.toList ++ rest))) : Go p e below Fn Q T (mkF m pc Ls S) := by
  subst hst
  obtain ⟨v, _, ⟨T', L', k', n'⟩, -, X', ⟨Lc, hQ, l', y', z'⟩, st⟩ := X.specialBack hx (y := y) hy1 hown (mvT hZ w1) (mvT hZ w2) (mvT hZ w4) hy (backOf (W := W) hM hZ w4 w3 hf hl) (g := mkF m pc Ls (argsL.reverse ++ .ref a :: rest)) rfl hml (Steps.refl _) (a := a) (argsL := argsL) (rest := rest) hlen rfl (by show 2 * 0 + _ ≤ _; omega) hd (fun _ _ => ⟨rfl, eT, hc, hs⟩)
  dsimp only [Pt.U, Pt.locs, Pt.cells, Pt.slots] at X' l' y' z' st hQ
  subst l' y' z' hq
  exact (k v T' Lc X' hQ).st fun _ z => st.trans z
theorem g_callV (X : Stand p l e R s m args below meth c T locs cells slots) (hx : p.tables.exec = Jvm.exec) (q : Nat) (hZ : Z.Warmed39 s.vm) {own C : String} {index : Nat} {y : MethodName} {bytes : ByteArray} {maxL : Nat} {ret : Option FieldType} {rm : Room} {Qc : Option Value → Heap → List Loc → Prop} (hown : s.vm.findClass own = some m.cls) (w1 : (Jvm.Cond.methodLink own index y).before a0 Z = true) (w2 : (Jvm.Cond.declares y).before a0 Z = true) (w5 : (Jvm.Cond.selects C y y).before a0 Z = true) (w6 : (Jvm.Cond.instanceMethod y).before a0 Z = true) (w3 : (Jvm.Cond.initialized y.cls).before a0 Z = true) (w4 : (Jvm.Cond.code y bytes maxL ret).before a0 Z = true) (hy : y.cls ≠ "java/lang/invoke/MethodHandle" ∧ y.cls ≠ "java/lang/invoke/VarHandle") (a : Addr) (E : Exa Z h a C) (argsL rest : List Value) (hM : OwnMet l Z y bytes maxL ret [] rm (.ref a :: argsL) h Qc)
    (eT : T.heap = h) (W : Nat) (hf : rm.frames + 1 ≤ R.frames) (hl : W + (maxL + 11) + rm.locals ≤ R.locals) (hc : cells + rm.cells ≤ R.cells) (hs : slots + rm.slots ≤ R.slots) (hml : Ls.size = c.maxLocals) (hlen : ∀ sig, parseMethodDescriptor y.desc = some sig → argsL.length = sig.parameters.length) (hd : decode c.code pc = .ok (.invokevirtual index, 3)) (hst : S = argsL.reverse ++ .ref a :: rest) (hW : (rest.map fun v => v.category).sum ≤ W) (hq : pc + 3 = q) (k : ∀ v T' L', Stand p l e R s m args below meth c T' (locs ++ L') (cells + rm.cells) (slots + rm.slots) → Qc v T'.heap L' → Go p e below Fn Q T' (mkF m q Ls (v.toList ++ rest))) : Go p e below Fn Q T (mkF m pc Ls S) := by
  subst hst
  obtain ⟨cq, kq, qa, qb, qc⟩ := isOf (T := T) hZ eT E
  obtain ⟨v, _, ⟨T', L', k', n'⟩, -, X', ⟨Lc, hQ, l', y', z'⟩, st⟩ := X.virtualBack hx (y := y) (z := y) hown (mvT hZ w1) (mvT hZ w2) (notFace_of_selects (args := #[]) (mvT hZ w5)) (mvT hZ w5) (mvT hZ w6) hy (backOf (W := W) hM hZ w4 w3 hf hl) qa qc (g := mkF m pc Ls (argsL.reverse ++ .ref a :: rest)) rfl hml (Steps.refl _) (argsL := argsL) (rest := rest) hlen rfl (by show 2 * 0 + _ ≤ _; omega) hd (fun _ _ => ⟨rfl, eT, hc, hs⟩)
  dsimp only [Pt.U, Pt.locs, Pt.cells, Pt.slots] at X' l' y' z' st hQ
  subst l' y' z' hq
  exact (k v T' Lc X' hQ).st fun _ z => st.trans z
theorem g_newPE (X : Stand p l e R s m args below meth c T locs cells slots) (hx : p.tables.exec = Jvm.exec) (q : Nat) (hZ : Z.Warmed39 s.vm) {aty : ArrayType} (w1 : (Jvm.Cond.arrayClass (newarray.typeOf aty)).before a0 Z = true) (eT : T.heap = h) {n : Int32} (hd : decode c.code pc = .ok (.newarray aty, 2)) (hn : ¬ n < 0) (cap : Nat) (hcap : n.toNatClampNeg ≤ cap) (hb : cap * 8 ≤ 536870912) (hc : cells + 1 ≤ R.cells) (hl : slots + cap ≤ R.slots) (ad : String) (had : "[" ++ (newarray.typeOf aty).toString = ad) (hq : pc + 2 = q)
    (k : ∀ T' h' b kA, b = h.size → Stand p l e R s m args below meth c T' locs (cells + 1) (slots + cap) → T'.heap = h' → Ext h h' → Arv Z h' b kA (newarray.typeOf aty) n [] (defaultValue (newarray.typeOf aty)) → Exa Z h' b ad → Go p e below Fn Q T' (mkF m q Ls (.ref b :: S))) : Go p e below Fn Q T (mkF m pc Ls (.int n :: S)) := by
  obtain ⟨T', h', cA, X', e', E', A', I', st⟩ := newPE X hx hZ w1 eT (g := mkF m pc Ls (.int n :: S)) rfl hd rfl hn hcap hb hc hl had
  subst hq; exact (k T' h' _ cA rfl X' e' E' (Arv.new A' hn) I').st st
theorem g_clone (X : Stand p l e R s m args below meth c T locs cells slots) (hx : p.tables.exec = Jvm.exec) (q : Nat) (hZ : Z.Warmed39 s.vm) {own ad : String} {index : Nat} (hown : s.vm.findClass own = some m.cls) (w1 : (Jvm.Cond.methodLink own index ⟨ad, "clone", "()Ljava/lang/Object;"⟩).before a0 Z = true) (w2 : (Jvm.Cond.sameMethod ad "java/lang/Object" "clone" "()Ljava/lang/Object;").before a0 Z = true) (w3 : (Jvm.Cond.native ⟨"java/lang/Object", "clone", "()Ljava/lang/Object;"⟩).before a0 Z = true) (w4 : (Jvm.Cond.instanceMethod ⟨"java/lang/Object", "clone", "()Ljava/lang/Object;"⟩).before a0 Z = true) (w5 : (Jvm.Cond.selects ad ⟨ad, "clone", "()Ljava/lang/Object;"⟩ ⟨"java/lang/Object", "clone", "()Ljava/lang/Object;"⟩).before a0 Z = true) (w6 : (Jvm.Cond.castable ad "java/lang/Cloneable").before a0 Z = true)
    (eT : T.heap = h) {a : Addr} {kA : ClassId} {ty : FieldType} {n : Int32} {vs : List Value} {dv : Value} (V : Arv Z h a kA ty n vs dv) (E : Exa Z h a ad) (hml : Ls.size = c.maxLocals) (hd : decode c.code pc = .ok (.invokevirtual index, 3)) (hf : 1 ≤ R.frames) (W cap : Nat) (hW : (S.map fun v => v.category).sum ≤ W) (hl : W + 14 ≤ R.locals) (hcap : n.toNatClampNeg ≤ cap) (hc : cells + 1 ≤ R.cells) (hsl : slots + cap ≤ R.slots) (hq : pc + 3 = q)
    (k : ∀ T' h' b, b = h.size → Stand p l e R s m args below meth c T' locs (cells + 1) (slots + cap) → T'.heap = h' → Ext h h' → Arv Z h' b kA ty n vs dv → Exa Z h' b ad → Go p e below Fn Q T' (mkF m q Ls (.ref b :: S))) : Go p e below Fn Q T (mkF m pc Ls (.ref a :: S)) := by
  obtain ⟨T', h', X', e', E', V', I', st⟩ := cloneH X hx hZ hown w1 w2 w3 w4 w5 w6 eT V.arh E (g := mkF m pc Ls (.ref a :: S)) rfl hml rfl hd hf (W := W) (by show 2 * 0 + _ ≤ _; omega) hl hcap hc hsl
  subst hq; exact (k T' h' _ rfl X' e' E' V' I').st st
theorem g_cast (X : Stand p l e R s m args below meth c T locs cells slots) (hx : p.tables.exec = Jvm.exec) (q : Nat) (hZ : Z.Warmed39 s.vm) {own C : String} {index : Nat} (hown : s.vm.findClass own = some m.cls) (w1 : (Jvm.Cond.classLink own index C).before a0 Z = true) (eT : T.heap = h) {a : Addr} (I : Ins Z h a C true) (hd : decode c.code pc = .ok (.checkcast index, 3)) (hq : pc + 3 = q)
    (k : ∀ T', Stand p l e R s m args below meth c T' locs cells slots → T'.heap = h → Go p e below Fn Q T' (mkF m q Ls (.ref a :: S))) : Go p e below Fn Q T (mkF m pc Ls (.ref a :: S)) := by
  obtain ⟨T', X', e', st⟩ := castY X hx hZ hown w1 eT I (g := mkF m pc Ls (.ref a :: S)) rfl rfl hd
  subst hq; exact (k T' X' e').st st
theorem g_callU (X : Stand p l e R s m args below meth c T locs cells slots) (hx : p.tables.exec = Jvm.exec) (q : Nat) (hZ : Z.Warmed39 s.vm) {own C owner : String} {index : Nat} {x y : MethodName} {bytes : ByteArray} {maxL : Nat} {ret : Option FieldType} {rm : Room} {Qc : Option Value → Heap → List Loc → Prop} (hown : s.vm.findClass own = some m.cls) (w1 : (Jvm.Cond.methodLink own index x).before a0 Z = true) (w2 : (Jvm.Cond.sameMethod x.cls owner x.name x.desc).before a0 Z = true) (w7 : (Jvm.Cond.declares ⟨owner, x.name, x.desc⟩).before a0 Z = true) (hy : owner ≠ "java/lang/invoke/MethodHandle" ∧ owner ≠ "java/lang/invoke/VarHandle") (w5 : (Jvm.Cond.selects C x y).before a0 Z = true) (w6 : (Jvm.Cond.instanceMethod y).before a0 Z = true) (w3 : (Jvm.Cond.initialized y.cls).before a0 Z = true) (w4 : (Jvm.Cond.code y bytes maxL ret).before a0 Z = true) (a : Addr) (E : Exa Z h a C) (argsL rest : List Value) (hM : OwnMet l Z y bytes maxL ret [] rm (.ref a :: argsL) h Qc)
    (eT : T.heap = h) (W : Nat) (hf : rm.frames + 1 ≤ R.frames) (hl : W + (maxL + 11) + rm.locals ≤ R.locals) (hc : cells + rm.cells ≤ R.cells) (hs : slots + rm.slots ≤ R.slots) (hml : Ls.size = c.maxLocals) (hlen : ∀ sig, parseMethodDescriptor x.desc = some sig → argsL.length = sig.parameters.length) (hd : decode c.code pc = .ok (.invokevirtual index, 3)) (hst : S = argsL.reverse ++ .ref a :: rest) (hW : (rest.map fun v => v.category).sum ≤ W) (hq : pc + 3 = q) (k : ∀ v T' L', Stand p l e R s m args below meth c T' (locs ++ L') (cells + rm.cells) (slots + rm.slots) → Qc v T'.heap L' → Go p e below Fn Q T' (mkF m q Ls (v.toList ++ rest))) : Go p e below Fn Q T (mkF m pc Ls S) := by
  subst hst
  obtain ⟨cq, kq, qa, qb, qc⟩ := isOf (T := T) hZ eT E
  obtain ⟨v, _, ⟨T', L', k', n'⟩, -, X', ⟨Lc, hQ, l', y', z'⟩, st⟩ := X.virtualBackUp hx (x := x) (y := y) hown (mvT hZ w1) (mvT hZ w2) (mvT hZ w7) hy (mvT hZ w5) (mvT hZ w6) (backOf (W := W) hM hZ w4 w3 hf hl) qa qc (g := mkF m pc Ls (argsL.reverse ++ .ref a :: rest)) rfl hml (Steps.refl _) (argsL := argsL) (rest := rest) hlen rfl (by show 2 * 0 + _ ≤ _; omega) hd (fun _ _ => ⟨rfl, eT, hc, hs⟩)
  dsimp only [Pt.U, Pt.locs, Pt.cells, Pt.slots] at X' l' y' z' st hQ
  subst l' y' z' hq
  exact (k v T' Lc X' hQ).st fun _ z => st.trans z
theorem g_callP (X : Stand p l e R s m args below meth c T locs cells slots) (hx : p.tables.exec = Jvm.exec) (q : Nat) (hZ : Z.Warmed39 s.vm) {own C0 : String} {index : Nat} {y y0 : MethodName} {bytes : ByteArray} {maxL : Nat} {ret : Option FieldType} {rm : Room} {Qc : Option Value → Heap → List Loc → Prop} (hown : s.vm.findClass own = some m.cls) (w1 : (Jvm.Cond.methodLink own index y).before a0 Z = true) (w6 : (Jvm.Cond.instanceMethod y).before a0 Z = true) (w8 : (Jvm.Cond.privateMethod y).before a0 Z = true) (w5 : (Jvm.Cond.selects C0 y0 y0).before a0 Z = true) (hc0 : y0.cls = y.cls) (w3 : (Jvm.Cond.initialized y.cls).before a0 Z = true) (w4 : (Jvm.Cond.code y bytes maxL ret).before a0 Z = true) (hy : y.cls ≠ "java/lang/invoke/MethodHandle" ∧ y.cls ≠ "java/lang/invoke/VarHandle") {C : String} (a : Addr) (E : Exa Z h a C) (argsL rest : List Value) (hM : OwnMet l Z y bytes maxL ret [] rm (.ref a :: argsL) h Qc)
    (eT : T.heap = h) (W : Nat) (hf : rm.frames + 1 ≤ R.frames) (hl : W + (maxL + 11) + rm.locals ≤ R.locals) (hc : cells + rm.cells ≤ R.cells) (hs : slots + rm.slots ≤ R.slots) (hml : Ls.size = c.maxLocals) (hlen : ∀ sig, parseMethodDescriptor y.desc = some sig → argsL.length = sig.parameters.length) (hd : decode c.code pc = .ok (.invokevirtual index, 3)) (hst : S = argsL.reverse ++ .ref a :: rest) (hW : (rest.map fun v => v.category).sum ≤ W) (hq : pc + 3 = q) (k : ∀ v T' L', Stand p l e R s m args below meth c T' (locs ++ L') (cells + rm.cells) (slots + rm.slots) → Qc v T'.heap L' → Go p e below Fn Q T' (mkF m q Ls (v.toList ++ rest))) : Go p e below Fn Q T (mkF m pc Ls S) := by
  subst hst
  have hpriv : s.PrivateAt y := Cond.privateMethod_at (mvP hZ w8 (args := #[]))
  have hsel : (Jvm.Cond.selects y.cls y y).before args s = true := by
    obtain ⟨c2, r2, m2, -, -, q3, -, kP, hkP, hkPi⟩ := Cond.selects_spec (mvT hZ w5 : (Jvm.Cond.selects C0 y0 y0).before args s = true)
    exact selects_self_of_private (hc0 ▸ findClass_of_methodNamed q3) hkP hkPi hpriv (mvT hZ w6) hy
  obtain ⟨cq, qa, qb⟩ := E.cell
  obtain ⟨v, _, ⟨T', L', k', n'⟩, -, X', ⟨Lc, hQ, l', y', z'⟩, st⟩ := X.privateBack hx (y := y) hown (mvT hZ w1) (mvT hZ w6) hsel hpriv (mvT hZ w4) hy (backOf (W := W) hM hZ w4 w3 hf hl) (g := mkF m pc Ls (argsL.reverse ++ .ref a :: rest)) rfl hml (Steps.refl _) (a := a) (by rw [eT]; exact qa) qb (argsL := argsL) (rest := rest) hlen rfl (by show 2 * 0 + _ ≤ _; omega) hd (fun _ _ => ⟨rfl, eT, hc, hs⟩)
  dsimp only [Pt.U, Pt.locs, Pt.cells, Pt.slots] at X' l' y' z' st hQ
  subst l' y' z' hq
  exact (k v T' Lc X' hQ).st fun _ z => st.trans z
theorem own_sta_keep {h' : Heap} {C n d : String} {v : Value} (F : Sta Z h C n d v) (Kp : Keep h h' []) : Sta Z h' C n d v := by
  obtain ⟨cf, i, k, f, st, cell, h1, h2, h3, h4, h5, r⟩ := F
  exact ⟨cf, i, k, f, st, cell, h1, h2, h3, h4, Kp.2.1 _ _ h5 nin0, r⟩
theorem own_plain {C : String} {x : Addr} (F : Exa Z h x C) : ∃ cl : Cell, h[x]? = some cl ∧ cl.vm.isStatics = false := by
  obtain ⟨c, _, h1, -, -, h4, -⟩ := F; exact ⟨c, h1, h4⟩
theorem own_sta_keep' {h' : Heap} {C n d : String} {v : Value} {x : Addr} (F : Sta Z h C n d v) (Kp : Keep h h' [x]) (hp : ∃ cl : Cell, h[x]? = some cl ∧ cl.vm.isStatics = false) : Sta Z h' C n d v := by
  obtain ⟨cf, i, k, f, st, cell, h1, h2, h3, h4, h5, h6, r⟩ := F
  obtain ⟨cl, q1, q2⟩ := hp
  have ne : st ≠ x := fun q => by rw [q] at h5; rw [q1] at h5; cases h5; rw [q2] at h6; cases h6
  exact ⟨cf, i, k, f, st, cell, h1, h2, h3, h4, Kp.2.1 _ _ h5 (ninS ne nin0), h6, r⟩
end OwnKit
section OwnWords
variable {args : Array Value} {first s : State} {o : Option Outcome} {idx : List Nat} {t u : Term} {Z : State} {a : Addr} {cl : Cell} {ty : FieldType}
theorem own_int_v {k : Int32} (h : (Jvm.Cond.eq t (.int k)).value args first o s idx = some true) : t.eval args first o idx s = some (.int k) := by
  simp only [Cond.value, Term.eval] at h
  cases ht : t.eval args first o idx s with
  | none => simp [ht] at h
  | some x => cases x <;> simp [ht] at h ⊢; exact h
theorem own_ref_v (h : (Jvm.Cond.eq t u).value args first o s idx = some true) (hu : u.eval args first o idx s = some (.ref a)) : t.eval args first o idx s = some (.ref a) := by
  simp only [Cond.value, hu] at h
  cases ht : t.eval args first o idx s with
  | none => simp [ht] at h
  | some x => cases x <;> simp [ht] at h ⊢; exact h
theorem own_fld {C n d : String} {k : Int32} (h : (Jvm.Cond.eq (.field t C n d) (.int k)).value args Z none Z [] = some true) (ht : t.eval args Z none [] Z = some (.ref a)) : Fld Z Z.heap a C n d (.int k) := Fld.start ((fld_at ht).symm.trans (own_int_v h))
theorem own_len {k : Int32} (h : (Jvm.Cond.eq (.length t) (.int k)).value args Z none Z [] = some true) (ht : t.eval args Z none [] Z = some (.ref a)) (A : Arr Z Z.heap a cl ty) : cl.slots.size < 2 ^ 31 ∧ cl.slots.size.toInt32 = k := by
  have h1 := own_int_v h
  have hA : Z.arrayAt? a = some cl := Arr.fin (Vm.Alike.refl _) A
  by_cases hl : cl.slots.size < 2 ^ 31
  · rw [len_f ht hA hl] at h1
    exact ⟨hl, by simpa using h1⟩
  · simp [Term.eval, ht, hA, hl] at h1
theorem own_elem {k : Int32} {v : Value} (h : (Term.elem t (.int k)).eval args Z none [] Z = some v) (ht : t.eval args Z none [] Z = some (.ref a)) (A : Arr Z Z.heap a cl ty) : cl.slots[k.toNatClampNeg]? = some v := (elem_in h ht (Term.int_eval k) A.1).2
end OwnWords
theorem own_nn (a : Int32) : ¬ (a &&& (2147483647 : Int32)) < 0 := by
  rw [Int32.lt_iff_toInt_lt]
  show ¬ (a &&& 2147483647).toBitVec.toInt < 0
  rw [Int32.toBitVec_and, BitVec.toInt_neg_iff]
  rw [Nat.not_le, BitVec.toNat_and]
  have : a.toBitVec.toNat &&& (2147483647 : Int32).toBitVec.toNat ≤ (2147483647 : Int32).toBitVec.toNat := Nat.and_le_right
  have e : (2147483647 : Int32).toBitVec.toNat = 2147483647 := by decide
  omega
theorem own_nnL (a : Int64) : ¬ (a &&& (9223372036854775807 : Int64)) < 0 := by
  rw [Int64.lt_iff_toInt_lt]
  show ¬ (a &&& 9223372036854775807).toBitVec.toInt < 0
  rw [Int64.toBitVec_and, BitVec.toInt_neg_iff]
  rw [Nat.not_le, BitVec.toNat_and]
  have : a.toBitVec.toNat &&& (9223372036854775807 : Int64).toBitVec.toNat ≤ (9223372036854775807 : Int64).toBitVec.toNat := Nat.and_le_right
  have e : (9223372036854775807 : Int64).toBitVec.toNat = 9223372036854775807 := by decide
  omega
theorem own_modb (a n : Int32) (ha : ¬ a < 0) (hn : 0 < n) : ¬ a % n < 0 ∧ a % n < n := by
  rw [Int32.lt_iff_toInt_lt] at *
  rw [Int32.lt_iff_toInt_lt] at *
  rw [Int32.toInt_mod]
  have z : (0 : Int32).toInt = 0 := rfl
  rw [z] at *
  have h1 := Int.tmod_nonneg n.toInt (Int.not_lt.mp ha)
  have h2 := Int.tmod_lt_of_pos a.toInt hn
  omega
def own_sort (a kC kO kQ : Addr) (o : Int32) : Value := if a = kC then .ref kC else if o = 0 then .ref kQ else .ref kO
theorem own_five (a : Int32) (h0 : ¬ a < 0) (h : a < 5) : a = 0 ∨ a = 1 ∨ a = 2 ∨ a = 3 ∨ a = 4 := by
  rw [Int32.lt_iff_toInt_lt] at h0 h
  have z : (0 : Int32).toInt = 0 := rfl
  have z : (5 : Int32).toInt = 5 := rfl
  have : a.toInt = 0 ∨ a.toInt = 1 ∨ a.toInt = 2 ∨ a.toInt = 3 ∨ a.toInt = 4 := by omega
  simp only [← Int32.toInt_inj]
  exact this
theorem own_pn0 : plainName "com/example/oriel/oriel/ocl/CollectionKindSortedPinLaw" = true := by first | (simp [plainName, overriddenIn]; done) | decide +kernel
theorem d1_0 : decode method_2_code 0 = .ok (.iload_n 0, 1) := by decide +kernel
theorem d1_1 : decode method_2_code 1 = .ok (.ifCond .ne 7, 3) := by decide +kernel
theorem d1_4 : decode method_2_code 4 = .ok (.getstatic 7, 3) := by decide +kernel
theorem d1_7 : decode method_2_code 7 = .ok (.areturn, 1) := by decide +kernel
set_option maxRecDepth 65536 in
set_option maxHeartbeats 40000000 in
theorem rm1_0 (l : Launch) (Z : State) (a0 : Array Value) (hw : ∀ d ∈ tables_1, d.before a0 Z = true) (kS kB kQ kO kC : Addr) (h0 : Heap) (n0 : Nat) (Z0 : n0 ≤ h0.size) (S_kS : Sta Z h0 "com/example/oriel/oriel/ocl/CollectionKind" "SET" "Lcom/example/oriel/oriel/ocl/CollectionKind;" (.ref kS)) (S_kB : Sta Z h0 "com/example/oriel/oriel/ocl/CollectionKind" "BAG" "Lcom/example/oriel/oriel/ocl/CollectionKind;" (.ref kB)) (S_kQ : Sta Z h0 "com/example/oriel/oriel/ocl/CollectionKind" "SEQUENCE" "Lcom/example/oriel/oriel/ocl/CollectionKind;" (.ref kQ)) (S_kO : Sta Z h0 "com/example/oriel/oriel/ocl/CollectionKind" "ORDERED_SET" "Lcom/example/oriel/oriel/ocl/CollectionKind;" (.ref kO)) (S_kC : Sta Z h0 "com/example/oriel/oriel/ocl/CollectionKind" "COLLECTION" "Lcom/example/oriel/oriel/ocl/CollectionKind;" (.ref kC)) :
    OwnMet l Z (⟨"com/example/oriel/oriel/ocl/CollectionKindSortedPinLaw", "pick", "(I)Lcom/example/oriel/oriel/ocl/CollectionKind;"⟩ : MethodName) method_2_code 1 (some (.object "com/example/oriel/oriel/ocl/CollectionKind")) [] ({ frames := 0, cells := 0, slots := 0, locals := 0 } : Room) [(.int (0 : Int32))] h0 (fun v h L => v = some (.ref kS) ∧ Fr n0 L ∧ h = h0) := by
  refine own_body (Ls := #[.val (.int (0 : Int32))]) (plainFor_of_name own_pn0) (fun m => by first | (simp [entryFrame, mkF, argsToLocals, Value.category]; done) | rfl) (fun p e s m below meth cO T0 hx hby hml hown hnm hret hlk hZ X0 e0 => ?_)
  have hown : s.vm.findClass "com/example/oriel/oriel/ocl/CollectionKindSortedPinLaw" = some m.cls := hown
  have N0 := Fr.nil n0
  refine g_iloadN X0 hx 1 (hb hby d1_0) rfl rfl ?_
  refine g_ifF X0 hx 4 (hb hby d1_1) (by decide) rfl ?_
  refine g_getS X0 hx 7 hZ hown (host := "") (Or.inl (own_w hw 5 rfl)) Via.refl e0 S_kS (hb hby d1_4) rfl (fun T1 X1 e1 => ?_)
  exact g_retA X1 hx hret hlk rfl rfl rfl (hb hby d1_7) (by decide) (by decide) ⟨rfl, N0, e1⟩
theorem d3_0 : decode method_3_code 0 = .ok (.iload_n 0, 1) := by decide +kernel
theorem d3_1 : decode method_3_code 1 = .ok (.ifCond .ne 7, 3) := by decide +kernel
theorem d3_4 : decode method_3_code 4 = .ok (.getstatic 19, 3) := by decide +kernel
theorem d3_7 : decode method_3_code 7 = .ok (.areturn, 1) := by decide +kernel
set_option maxRecDepth 65536 in
set_option maxHeartbeats 40000000 in
theorem rm3_0 (l : Launch) (Z : State) (a0 : Array Value) (hw : ∀ d ∈ tables_1, d.before a0 Z = true) (kS kB kQ kO kC : Addr) (h0 : Heap) (n0 : Nat) (Z0 : n0 ≤ h0.size) (S_kS : Sta Z h0 "com/example/oriel/oriel/ocl/CollectionKind" "SET" "Lcom/example/oriel/oriel/ocl/CollectionKind;" (.ref kS)) (S_kB : Sta Z h0 "com/example/oriel/oriel/ocl/CollectionKind" "BAG" "Lcom/example/oriel/oriel/ocl/CollectionKind;" (.ref kB)) (S_kQ : Sta Z h0 "com/example/oriel/oriel/ocl/CollectionKind" "SEQUENCE" "Lcom/example/oriel/oriel/ocl/CollectionKind;" (.ref kQ)) (S_kO : Sta Z h0 "com/example/oriel/oriel/ocl/CollectionKind" "ORDERED_SET" "Lcom/example/oriel/oriel/ocl/CollectionKind;" (.ref kO)) (S_kC : Sta Z h0 "com/example/oriel/oriel/ocl/CollectionKind" "COLLECTION" "Lcom/example/oriel/oriel/ocl/CollectionKind;" (.ref kC)) :
    OwnMet l Z (⟨"com/example/oriel/oriel/ocl/CollectionKindSortedPinLaw", "expected", "(I)Lcom/example/oriel/oriel/ocl/CollectionKind;"⟩ : MethodName) method_3_code 1 (some (.object "com/example/oriel/oriel/ocl/CollectionKind")) [] ({ frames := 0, cells := 0, slots := 0, locals := 0 } : Room) [(.int (0 : Int32))] h0 (fun v h L => v = some (.ref kO) ∧ Fr n0 L ∧ h = h0) := by
  refine own_body (Ls := #[.val (.int (0 : Int32))]) (plainFor_of_name own_pn0) (fun m => by first | (simp [entryFrame, mkF, argsToLocals, Value.category]; done) | rfl) (fun p e s m below meth cO T0 hx hby hml hown hnm hret hlk hZ X0 e0 => ?_)
  have hown : s.vm.findClass "com/example/oriel/oriel/ocl/CollectionKindSortedPinLaw" = some m.cls := hown
  have N0 := Fr.nil n0
  refine g_iloadN X0 hx 1 (hb hby d3_0) rfl rfl ?_
  refine g_ifF X0 hx 4 (hb hby d3_1) (by decide) rfl ?_
  refine g_getS X0 hx 7 hZ hown (host := "") (Or.inl (own_w hw 22 rfl)) Via.refl e0 S_kO (hb hby d3_4) rfl (fun T1 X1 e1 => ?_)
  exact g_retA X1 hx hret hlk rfl rfl rfl (hb hby d3_7) (by decide) (by decide) ⟨rfl, N0, e1⟩
theorem d1_8 : decode method_2_code 8 = .ok (.iload_n 0, 1) := by decide +kernel
theorem d1_9 : decode method_2_code 9 = .ok (.iconst 1, 1) := by decide +kernel
theorem d1_10 : decode method_2_code 10 = .ok (.if_icmp .ne 7, 3) := by decide +kernel
theorem d1_13 : decode method_2_code 13 = .ok (.getstatic 13, 3) := by decide +kernel
theorem d1_16 : decode method_2_code 16 = .ok (.areturn, 1) := by decide +kernel
set_option maxRecDepth 65536 in
set_option maxHeartbeats 40000000 in
theorem rm1_1 (l : Launch) (Z : State) (a0 : Array Value) (hw : ∀ d ∈ tables_1, d.before a0 Z = true) (kS kB kQ kO kC : Addr) (h0 : Heap) (n0 : Nat) (Z0 : n0 ≤ h0.size) (S_kS : Sta Z h0 "com/example/oriel/oriel/ocl/CollectionKind" "SET" "Lcom/example/oriel/oriel/ocl/CollectionKind;" (.ref kS)) (S_kB : Sta Z h0 "com/example/oriel/oriel/ocl/CollectionKind" "BAG" "Lcom/example/oriel/oriel/ocl/CollectionKind;" (.ref kB)) (S_kQ : Sta Z h0 "com/example/oriel/oriel/ocl/CollectionKind" "SEQUENCE" "Lcom/example/oriel/oriel/ocl/CollectionKind;" (.ref kQ)) (S_kO : Sta Z h0 "com/example/oriel/oriel/ocl/CollectionKind" "ORDERED_SET" "Lcom/example/oriel/oriel/ocl/CollectionKind;" (.ref kO)) (S_kC : Sta Z h0 "com/example/oriel/oriel/ocl/CollectionKind" "COLLECTION" "Lcom/example/oriel/oriel/ocl/CollectionKind;" (.ref kC)) :
    OwnMet l Z (⟨"com/example/oriel/oriel/ocl/CollectionKindSortedPinLaw", "pick", "(I)Lcom/example/oriel/oriel/ocl/CollectionKind;"⟩ : MethodName) method_2_code 1 (some (.object "com/example/oriel/oriel/ocl/CollectionKind")) [] ({ frames := 0, cells := 0, slots := 0, locals := 0 } : Room) [(.int (1 : Int32))] h0 (fun v h L => v = some (.ref kB) ∧ Fr n0 L ∧ h = h0) := by
  refine own_body (Ls := #[.val (.int (1 : Int32))]) (plainFor_of_name own_pn0) (fun m => by first | (simp [entryFrame, mkF, argsToLocals, Value.category]; done) | rfl) (fun p e s m below meth cO T0 hx hby hml hown hnm hret hlk hZ X0 e0 => ?_)
  have hown : s.vm.findClass "com/example/oriel/oriel/ocl/CollectionKindSortedPinLaw" = some m.cls := hown
  have N0 := Fr.nil n0
  refine g_iloadN X0 hx 1 (hb hby d1_0) rfl rfl ?_
  refine g_ifT X0 hx 8 (hb hby d1_1) (by decide) (by decide) (by decide) ?_
  refine g_iloadN X0 hx 9 (hb hby d1_8) rfl rfl ?_
  refine g_iconst X0 hx 10 (1 : Int32) (hb hby d1_9) (by decide) rfl ?_
  refine g_icF X0 hx 13 (hb hby d1_10) (by decide) rfl ?_
  refine g_getS X0 hx 16 hZ hown (host := "") (Or.inl (own_w hw 35 rfl)) Via.refl e0 S_kB (hb hby d1_13) rfl (fun T1 X1 e1 => ?_)
  exact g_retA X1 hx hret hlk rfl rfl rfl (hb hby d1_16) (by decide) (by decide) ⟨rfl, N0, e1⟩
theorem d3_8 : decode method_3_code 8 = .ok (.iload_n 0, 1) := by decide +kernel
theorem d3_9 : decode method_3_code 9 = .ok (.iconst 1, 1) := by decide +kernel
theorem d3_10 : decode method_3_code 10 = .ok (.if_icmp .ne 7, 3) := by decide +kernel
theorem d3_13 : decode method_3_code 13 = .ok (.getstatic 16, 3) := by decide +kernel
theorem d3_16 : decode method_3_code 16 = .ok (.areturn, 1) := by decide +kernel
set_option maxRecDepth 65536 in
set_option maxHeartbeats 40000000 in
theorem rm3_1 (l : Launch) (Z : State) (a0 : Array Value) (hw : ∀ d ∈ tables_1, d.before a0 Z = true) (kS kB kQ kO kC : Addr) (h0 : Heap) (n0 : Nat) (Z0 : n0 ≤ h0.size) (S_kS : Sta Z h0 "com/example/oriel/oriel/ocl/CollectionKind" "SET" "Lcom/example/oriel/oriel/ocl/CollectionKind;" (.ref kS)) (S_kB : Sta Z h0 "com/example/oriel/oriel/ocl/CollectionKind" "BAG" "Lcom/example/oriel/oriel/ocl/CollectionKind;" (.ref kB)) (S_kQ : Sta Z h0 "com/example/oriel/oriel/ocl/CollectionKind" "SEQUENCE" "Lcom/example/oriel/oriel/ocl/CollectionKind;" (.ref kQ)) (S_kO : Sta Z h0 "com/example/oriel/oriel/ocl/CollectionKind" "ORDERED_SET" "Lcom/example/oriel/oriel/ocl/CollectionKind;" (.ref kO)) (S_kC : Sta Z h0 "com/example/oriel/oriel/ocl/CollectionKind" "COLLECTION" "Lcom/example/oriel/oriel/ocl/CollectionKind;" (.ref kC)) :
    OwnMet l Z (⟨"com/example/oriel/oriel/ocl/CollectionKindSortedPinLaw", "expected", "(I)Lcom/example/oriel/oriel/ocl/CollectionKind;"⟩ : MethodName) method_3_code 1 (some (.object "com/example/oriel/oriel/ocl/CollectionKind")) [] ({ frames := 0, cells := 0, slots := 0, locals := 0 } : Room) [(.int (1 : Int32))] h0 (fun v h L => v = some (.ref kQ) ∧ Fr n0 L ∧ h = h0) := by
  refine own_body (Ls := #[.val (.int (1 : Int32))]) (plainFor_of_name own_pn0) (fun m => by first | (simp [entryFrame, mkF, argsToLocals, Value.category]; done) | rfl) (fun p e s m below meth cO T0 hx hby hml hown hnm hret hlk hZ X0 e0 => ?_)
  have hown : s.vm.findClass "com/example/oriel/oriel/ocl/CollectionKindSortedPinLaw" = some m.cls := hown
  have N0 := Fr.nil n0
  refine g_iloadN X0 hx 1 (hb hby d3_0) rfl rfl ?_
  refine g_ifT X0 hx 8 (hb hby d3_1) (by decide) (by decide) (by decide) ?_
  refine g_iloadN X0 hx 9 (hb hby d3_8) rfl rfl ?_
  refine g_iconst X0 hx 10 (1 : Int32) (hb hby d3_9) (by decide) rfl ?_
  refine g_icF X0 hx 13 (hb hby d3_10) (by decide) rfl ?_
  refine g_getS X0 hx 16 hZ hown (host := "") (Or.inl (own_w hw 39 rfl)) Via.refl e0 S_kQ (hb hby d3_13) rfl (fun T1 X1 e1 => ?_)
  exact g_retA X1 hx hret hlk rfl rfl rfl (hb hby d3_16) (by decide) (by decide) ⟨rfl, N0, e1⟩
theorem d1_17 : decode method_2_code 17 = .ok (.iload_n 0, 1) := by decide +kernel
theorem d1_18 : decode method_2_code 18 = .ok (.iconst 2, 1) := by decide +kernel
theorem d1_19 : decode method_2_code 19 = .ok (.if_icmp .ne 7, 3) := by decide +kernel
theorem d1_22 : decode method_2_code 22 = .ok (.getstatic 16, 3) := by decide +kernel
theorem d1_25 : decode method_2_code 25 = .ok (.areturn, 1) := by decide +kernel
set_option maxRecDepth 65536 in
set_option maxHeartbeats 40000000 in
theorem rm1_2 (l : Launch) (Z : State) (a0 : Array Value) (hw : ∀ d ∈ tables_1, d.before a0 Z = true) (kS kB kQ kO kC : Addr) (h0 : Heap) (n0 : Nat) (Z0 : n0 ≤ h0.size) (S_kS : Sta Z h0 "com/example/oriel/oriel/ocl/CollectionKind" "SET" "Lcom/example/oriel/oriel/ocl/CollectionKind;" (.ref kS)) (S_kB : Sta Z h0 "com/example/oriel/oriel/ocl/CollectionKind" "BAG" "Lcom/example/oriel/oriel/ocl/CollectionKind;" (.ref kB)) (S_kQ : Sta Z h0 "com/example/oriel/oriel/ocl/CollectionKind" "SEQUENCE" "Lcom/example/oriel/oriel/ocl/CollectionKind;" (.ref kQ)) (S_kO : Sta Z h0 "com/example/oriel/oriel/ocl/CollectionKind" "ORDERED_SET" "Lcom/example/oriel/oriel/ocl/CollectionKind;" (.ref kO)) (S_kC : Sta Z h0 "com/example/oriel/oriel/ocl/CollectionKind" "COLLECTION" "Lcom/example/oriel/oriel/ocl/CollectionKind;" (.ref kC)) :
    OwnMet l Z (⟨"com/example/oriel/oriel/ocl/CollectionKindSortedPinLaw", "pick", "(I)Lcom/example/oriel/oriel/ocl/CollectionKind;"⟩ : MethodName) method_2_code 1 (some (.object "com/example/oriel/oriel/ocl/CollectionKind")) [] ({ frames := 0, cells := 0, slots := 0, locals := 0 } : Room) [(.int (2 : Int32))] h0 (fun v h L => v = some (.ref kQ) ∧ Fr n0 L ∧ h = h0) := by
  refine own_body (Ls := #[.val (.int (2 : Int32))]) (plainFor_of_name own_pn0) (fun m => by first | (simp [entryFrame, mkF, argsToLocals, Value.category]; done) | rfl) (fun p e s m below meth cO T0 hx hby hml hown hnm hret hlk hZ X0 e0 => ?_)
  have hown : s.vm.findClass "com/example/oriel/oriel/ocl/CollectionKindSortedPinLaw" = some m.cls := hown
  have N0 := Fr.nil n0
  refine g_iloadN X0 hx 1 (hb hby d1_0) rfl rfl ?_
  refine g_ifT X0 hx 8 (hb hby d1_1) (by decide) (by decide) (by decide) ?_
  refine g_iloadN X0 hx 9 (hb hby d1_8) rfl rfl ?_
  refine g_iconst X0 hx 10 (1 : Int32) (hb hby d1_9) (by decide) rfl ?_
  refine g_icT X0 hx 17 (hb hby d1_10) (by decide) (by decide) (by decide) ?_
  refine g_iloadN X0 hx 18 (hb hby d1_17) rfl rfl ?_
  refine g_iconst X0 hx 19 (2 : Int32) (hb hby d1_18) (by decide) rfl ?_
  refine g_icF X0 hx 22 (hb hby d1_19) (by decide) rfl ?_
  refine g_getS X0 hx 25 hZ hown (host := "") (Or.inl (own_w hw 39 rfl)) Via.refl e0 S_kQ (hb hby d1_22) rfl (fun T1 X1 e1 => ?_)
  exact g_retA X1 hx hret hlk rfl rfl rfl (hb hby d1_25) (by decide) (by decide) ⟨rfl, N0, e1⟩
theorem d3_17 : decode method_3_code 17 = .ok (.iload_n 0, 1) := by decide +kernel
theorem d3_18 : decode method_3_code 18 = .ok (.iconst 2, 1) := by decide +kernel
theorem d3_19 : decode method_3_code 19 = .ok (.if_icmp .ne 7, 3) := by decide +kernel
theorem d3_22 : decode method_3_code 22 = .ok (.getstatic 16, 3) := by decide +kernel
theorem d3_25 : decode method_3_code 25 = .ok (.areturn, 1) := by decide +kernel
set_option maxRecDepth 65536 in
set_option maxHeartbeats 40000000 in
theorem rm3_2 (l : Launch) (Z : State) (a0 : Array Value) (hw : ∀ d ∈ tables_1, d.before a0 Z = true) (kS kB kQ kO kC : Addr) (h0 : Heap) (n0 : Nat) (Z0 : n0 ≤ h0.size) (S_kS : Sta Z h0 "com/example/oriel/oriel/ocl/CollectionKind" "SET" "Lcom/example/oriel/oriel/ocl/CollectionKind;" (.ref kS)) (S_kB : Sta Z h0 "com/example/oriel/oriel/ocl/CollectionKind" "BAG" "Lcom/example/oriel/oriel/ocl/CollectionKind;" (.ref kB)) (S_kQ : Sta Z h0 "com/example/oriel/oriel/ocl/CollectionKind" "SEQUENCE" "Lcom/example/oriel/oriel/ocl/CollectionKind;" (.ref kQ)) (S_kO : Sta Z h0 "com/example/oriel/oriel/ocl/CollectionKind" "ORDERED_SET" "Lcom/example/oriel/oriel/ocl/CollectionKind;" (.ref kO)) (S_kC : Sta Z h0 "com/example/oriel/oriel/ocl/CollectionKind" "COLLECTION" "Lcom/example/oriel/oriel/ocl/CollectionKind;" (.ref kC)) :
    OwnMet l Z (⟨"com/example/oriel/oriel/ocl/CollectionKindSortedPinLaw", "expected", "(I)Lcom/example/oriel/oriel/ocl/CollectionKind;"⟩ : MethodName) method_3_code 1 (some (.object "com/example/oriel/oriel/ocl/CollectionKind")) [] ({ frames := 0, cells := 0, slots := 0, locals := 0 } : Room) [(.int (2 : Int32))] h0 (fun v h L => v = some (.ref kQ) ∧ Fr n0 L ∧ h = h0) := by
  refine own_body (Ls := #[.val (.int (2 : Int32))]) (plainFor_of_name own_pn0) (fun m => by first | (simp [entryFrame, mkF, argsToLocals, Value.category]; done) | rfl) (fun p e s m below meth cO T0 hx hby hml hown hnm hret hlk hZ X0 e0 => ?_)
  have hown : s.vm.findClass "com/example/oriel/oriel/ocl/CollectionKindSortedPinLaw" = some m.cls := hown
  have N0 := Fr.nil n0
  refine g_iloadN X0 hx 1 (hb hby d3_0) rfl rfl ?_
  refine g_ifT X0 hx 8 (hb hby d3_1) (by decide) (by decide) (by decide) ?_
  refine g_iloadN X0 hx 9 (hb hby d3_8) rfl rfl ?_
  refine g_iconst X0 hx 10 (1 : Int32) (hb hby d3_9) (by decide) rfl ?_
  refine g_icT X0 hx 17 (hb hby d3_10) (by decide) (by decide) (by decide) ?_
  refine g_iloadN X0 hx 18 (hb hby d3_17) rfl rfl ?_
  refine g_iconst X0 hx 19 (2 : Int32) (hb hby d3_18) (by decide) rfl ?_
  refine g_icF X0 hx 22 (hb hby d3_19) (by decide) rfl ?_
  refine g_getS X0 hx 25 hZ hown (host := "") (Or.inl (own_w hw 39 rfl)) Via.refl e0 S_kQ (hb hby d3_22) rfl (fun T1 X1 e1 => ?_)
  exact g_retA X1 hx hret hlk rfl rfl rfl (hb hby d3_25) (by decide) (by decide) ⟨rfl, N0, e1⟩
theorem d1_26 : decode method_2_code 26 = .ok (.iload_n 0, 1) := by decide +kernel
theorem d1_27 : decode method_2_code 27 = .ok (.iconst 3, 1) := by decide +kernel
theorem d1_28 : decode method_2_code 28 = .ok (.if_icmp .ne 7, 3) := by decide +kernel
theorem d1_31 : decode method_2_code 31 = .ok (.getstatic 19, 3) := by decide +kernel
theorem d1_34 : decode method_2_code 34 = .ok (.areturn, 1) := by decide +kernel
set_option maxRecDepth 65536 in
set_option maxHeartbeats 40000000 in
theorem rm1_3 (l : Launch) (Z : State) (a0 : Array Value) (hw : ∀ d ∈ tables_1, d.before a0 Z = true) (kS kB kQ kO kC : Addr) (h0 : Heap) (n0 : Nat) (Z0 : n0 ≤ h0.size) (S_kS : Sta Z h0 "com/example/oriel/oriel/ocl/CollectionKind" "SET" "Lcom/example/oriel/oriel/ocl/CollectionKind;" (.ref kS)) (S_kB : Sta Z h0 "com/example/oriel/oriel/ocl/CollectionKind" "BAG" "Lcom/example/oriel/oriel/ocl/CollectionKind;" (.ref kB)) (S_kQ : Sta Z h0 "com/example/oriel/oriel/ocl/CollectionKind" "SEQUENCE" "Lcom/example/oriel/oriel/ocl/CollectionKind;" (.ref kQ)) (S_kO : Sta Z h0 "com/example/oriel/oriel/ocl/CollectionKind" "ORDERED_SET" "Lcom/example/oriel/oriel/ocl/CollectionKind;" (.ref kO)) (S_kC : Sta Z h0 "com/example/oriel/oriel/ocl/CollectionKind" "COLLECTION" "Lcom/example/oriel/oriel/ocl/CollectionKind;" (.ref kC)) :
    OwnMet l Z (⟨"com/example/oriel/oriel/ocl/CollectionKindSortedPinLaw", "pick", "(I)Lcom/example/oriel/oriel/ocl/CollectionKind;"⟩ : MethodName) method_2_code 1 (some (.object "com/example/oriel/oriel/ocl/CollectionKind")) [] ({ frames := 0, cells := 0, slots := 0, locals := 0 } : Room) [(.int (3 : Int32))] h0 (fun v h L => v = some (.ref kO) ∧ Fr n0 L ∧ h = h0) := by
  refine own_body (Ls := #[.val (.int (3 : Int32))]) (plainFor_of_name own_pn0) (fun m => by first | (simp [entryFrame, mkF, argsToLocals, Value.category]; done) | rfl) (fun p e s m below meth cO T0 hx hby hml hown hnm hret hlk hZ X0 e0 => ?_)
  have hown : s.vm.findClass "com/example/oriel/oriel/ocl/CollectionKindSortedPinLaw" = some m.cls := hown
  have N0 := Fr.nil n0
  refine g_iloadN X0 hx 1 (hb hby d1_0) rfl rfl ?_
  refine g_ifT X0 hx 8 (hb hby d1_1) (by decide) (by decide) (by decide) ?_
  refine g_iloadN X0 hx 9 (hb hby d1_8) rfl rfl ?_
  refine g_iconst X0 hx 10 (1 : Int32) (hb hby d1_9) (by decide) rfl ?_
  refine g_icT X0 hx 17 (hb hby d1_10) (by decide) (by decide) (by decide) ?_
  refine g_iloadN X0 hx 18 (hb hby d1_17) rfl rfl ?_
  refine g_iconst X0 hx 19 (2 : Int32) (hb hby d1_18) (by decide) rfl ?_
  refine g_icT X0 hx 26 (hb hby d1_19) (by decide) (by decide) (by decide) ?_
  refine g_iloadN X0 hx 27 (hb hby d1_26) rfl rfl ?_
  refine g_iconst X0 hx 28 (3 : Int32) (hb hby d1_27) (by decide) rfl ?_
  refine g_icF X0 hx 31 (hb hby d1_28) (by decide) rfl ?_
  refine g_getS X0 hx 34 hZ hown (host := "") (Or.inl (own_w hw 22 rfl)) Via.refl e0 S_kO (hb hby d1_31) rfl (fun T1 X1 e1 => ?_)
  exact g_retA X1 hx hret hlk rfl rfl rfl (hb hby d1_34) (by decide) (by decide) ⟨rfl, N0, e1⟩
theorem d3_26 : decode method_3_code 26 = .ok (.iload_n 0, 1) := by decide +kernel
theorem d3_27 : decode method_3_code 27 = .ok (.iconst 3, 1) := by decide +kernel
theorem d3_28 : decode method_3_code 28 = .ok (.if_icmp .ne 7, 3) := by decide +kernel
theorem d3_31 : decode method_3_code 31 = .ok (.getstatic 19, 3) := by decide +kernel
theorem d3_34 : decode method_3_code 34 = .ok (.areturn, 1) := by decide +kernel
set_option maxRecDepth 65536 in
set_option maxHeartbeats 40000000 in
theorem rm3_3 (l : Launch) (Z : State) (a0 : Array Value) (hw : ∀ d ∈ tables_1, d.before a0 Z = true) (kS kB kQ kO kC : Addr) (h0 : Heap) (n0 : Nat) (Z0 : n0 ≤ h0.size) (S_kS : Sta Z h0 "com/example/oriel/oriel/ocl/CollectionKind" "SET" "Lcom/example/oriel/oriel/ocl/CollectionKind;" (.ref kS)) (S_kB : Sta Z h0 "com/example/oriel/oriel/ocl/CollectionKind" "BAG" "Lcom/example/oriel/oriel/ocl/CollectionKind;" (.ref kB)) (S_kQ : Sta Z h0 "com/example/oriel/oriel/ocl/CollectionKind" "SEQUENCE" "Lcom/example/oriel/oriel/ocl/CollectionKind;" (.ref kQ)) (S_kO : Sta Z h0 "com/example/oriel/oriel/ocl/CollectionKind" "ORDERED_SET" "Lcom/example/oriel/oriel/ocl/CollectionKind;" (.ref kO)) (S_kC : Sta Z h0 "com/example/oriel/oriel/ocl/CollectionKind" "COLLECTION" "Lcom/example/oriel/oriel/ocl/CollectionKind;" (.ref kC)) :
    OwnMet l Z (⟨"com/example/oriel/oriel/ocl/CollectionKindSortedPinLaw", "expected", "(I)Lcom/example/oriel/oriel/ocl/CollectionKind;"⟩ : MethodName) method_3_code 1 (some (.object "com/example/oriel/oriel/ocl/CollectionKind")) [] ({ frames := 0, cells := 0, slots := 0, locals := 0 } : Room) [(.int (3 : Int32))] h0 (fun v h L => v = some (.ref kO) ∧ Fr n0 L ∧ h = h0) := by
  refine own_body (Ls := #[.val (.int (3 : Int32))]) (plainFor_of_name own_pn0) (fun m => by first | (simp [entryFrame, mkF, argsToLocals, Value.category]; done) | rfl) (fun p e s m below meth cO T0 hx hby hml hown hnm hret hlk hZ X0 e0 => ?_)
  have hown : s.vm.findClass "com/example/oriel/oriel/ocl/CollectionKindSortedPinLaw" = some m.cls := hown
  have N0 := Fr.nil n0
  refine g_iloadN X0 hx 1 (hb hby d3_0) rfl rfl ?_
  refine g_ifT X0 hx 8 (hb hby d3_1) (by decide) (by decide) (by decide) ?_
  refine g_iloadN X0 hx 9 (hb hby d3_8) rfl rfl ?_
  refine g_iconst X0 hx 10 (1 : Int32) (hb hby d3_9) (by decide) rfl ?_
  refine g_icT X0 hx 17 (hb hby d3_10) (by decide) (by decide) (by decide) ?_
  refine g_iloadN X0 hx 18 (hb hby d3_17) rfl rfl ?_
  refine g_iconst X0 hx 19 (2 : Int32) (hb hby d3_18) (by decide) rfl ?_
  refine g_icT X0 hx 26 (hb hby d3_19) (by decide) (by decide) (by decide) ?_
  refine g_iloadN X0 hx 27 (hb hby d3_26) rfl rfl ?_
  refine g_iconst X0 hx 28 (3 : Int32) (hb hby d3_27) (by decide) rfl ?_
  refine g_icF X0 hx 31 (hb hby d3_28) (by decide) rfl ?_
  refine g_getS X0 hx 34 hZ hown (host := "") (Or.inl (own_w hw 22 rfl)) Via.refl e0 S_kO (hb hby d3_31) rfl (fun T1 X1 e1 => ?_)
  exact g_retA X1 hx hret hlk rfl rfl rfl (hb hby d3_34) (by decide) (by decide) ⟨rfl, N0, e1⟩
theorem d1_35 : decode method_2_code 35 = .ok (.getstatic 22, 3) := by decide +kernel
theorem d1_38 : decode method_2_code 38 = .ok (.areturn, 1) := by decide +kernel
set_option maxRecDepth 65536 in
set_option maxHeartbeats 40000000 in
theorem rm1_4 (l : Launch) (Z : State) (a0 : Array Value) (hw : ∀ d ∈ tables_1, d.before a0 Z = true) (kS kB kQ kO kC : Addr) (h0 : Heap) (n0 : Nat) (Z0 : n0 ≤ h0.size) (S_kS : Sta Z h0 "com/example/oriel/oriel/ocl/CollectionKind" "SET" "Lcom/example/oriel/oriel/ocl/CollectionKind;" (.ref kS)) (S_kB : Sta Z h0 "com/example/oriel/oriel/ocl/CollectionKind" "BAG" "Lcom/example/oriel/oriel/ocl/CollectionKind;" (.ref kB)) (S_kQ : Sta Z h0 "com/example/oriel/oriel/ocl/CollectionKind" "SEQUENCE" "Lcom/example/oriel/oriel/ocl/CollectionKind;" (.ref kQ)) (S_kO : Sta Z h0 "com/example/oriel/oriel/ocl/CollectionKind" "ORDERED_SET" "Lcom/example/oriel/oriel/ocl/CollectionKind;" (.ref kO)) (S_kC : Sta Z h0 "com/example/oriel/oriel/ocl/CollectionKind" "COLLECTION" "Lcom/example/oriel/oriel/ocl/CollectionKind;" (.ref kC)) :
    OwnMet l Z (⟨"com/example/oriel/oriel/ocl/CollectionKindSortedPinLaw", "pick", "(I)Lcom/example/oriel/oriel/ocl/CollectionKind;"⟩ : MethodName) method_2_code 1 (some (.object "com/example/oriel/oriel/ocl/CollectionKind")) [] ({ frames := 0, cells := 0, slots := 0, locals := 0 } : Room) [(.int (4 : Int32))] h0 (fun v h L => v = some (.ref kC) ∧ Fr n0 L ∧ h = h0) := by
  refine own_body (Ls := #[.val (.int (4 : Int32))]) (plainFor_of_name own_pn0) (fun m => by first | (simp [entryFrame, mkF, argsToLocals, Value.category]; done) | rfl) (fun p e s m below meth cO T0 hx hby hml hown hnm hret hlk hZ X0 e0 => ?_)
  have hown : s.vm.findClass "com/example/oriel/oriel/ocl/CollectionKindSortedPinLaw" = some m.cls := hown
  have N0 := Fr.nil n0
  refine g_iloadN X0 hx 1 (hb hby d1_0) rfl rfl ?_
  refine g_ifT X0 hx 8 (hb hby d1_1) (by decide) (by decide) (by decide) ?_
  refine g_iloadN X0 hx 9 (hb hby d1_8) rfl rfl ?_
  refine g_iconst X0 hx 10 (1 : Int32) (hb hby d1_9) (by decide) rfl ?_
  refine g_icT X0 hx 17 (hb hby d1_10) (by decide) (by decide) (by decide) ?_
  refine g_iloadN X0 hx 18 (hb hby d1_17) rfl rfl ?_
  refine g_iconst X0 hx 19 (2 : Int32) (hb hby d1_18) (by decide) rfl ?_
  refine g_icT X0 hx 26 (hb hby d1_19) (by decide) (by decide) (by decide) ?_
  refine g_iloadN X0 hx 27 (hb hby d1_26) rfl rfl ?_
  refine g_iconst X0 hx 28 (3 : Int32) (hb hby d1_27) (by decide) rfl ?_
  refine g_icT X0 hx 35 (hb hby d1_28) (by decide) (by decide) (by decide) ?_
  refine g_getS X0 hx 38 hZ hown (host := "") (Or.inl (own_w hw 40 rfl)) Via.refl e0 S_kC (hb hby d1_35) rfl (fun T1 X1 e1 => ?_)
  exact g_retA X1 hx hret hlk rfl rfl rfl (hb hby d1_38) (by decide) (by decide) ⟨rfl, N0, e1⟩
theorem d3_35 : decode method_3_code 35 = .ok (.getstatic 22, 3) := by decide +kernel
theorem d3_38 : decode method_3_code 38 = .ok (.areturn, 1) := by decide +kernel
set_option maxRecDepth 65536 in
set_option maxHeartbeats 40000000 in
theorem rm3_4 (l : Launch) (Z : State) (a0 : Array Value) (hw : ∀ d ∈ tables_1, d.before a0 Z = true) (kS kB kQ kO kC : Addr) (h0 : Heap) (n0 : Nat) (Z0 : n0 ≤ h0.size) (S_kS : Sta Z h0 "com/example/oriel/oriel/ocl/CollectionKind" "SET" "Lcom/example/oriel/oriel/ocl/CollectionKind;" (.ref kS)) (S_kB : Sta Z h0 "com/example/oriel/oriel/ocl/CollectionKind" "BAG" "Lcom/example/oriel/oriel/ocl/CollectionKind;" (.ref kB)) (S_kQ : Sta Z h0 "com/example/oriel/oriel/ocl/CollectionKind" "SEQUENCE" "Lcom/example/oriel/oriel/ocl/CollectionKind;" (.ref kQ)) (S_kO : Sta Z h0 "com/example/oriel/oriel/ocl/CollectionKind" "ORDERED_SET" "Lcom/example/oriel/oriel/ocl/CollectionKind;" (.ref kO)) (S_kC : Sta Z h0 "com/example/oriel/oriel/ocl/CollectionKind" "COLLECTION" "Lcom/example/oriel/oriel/ocl/CollectionKind;" (.ref kC)) :
    OwnMet l Z (⟨"com/example/oriel/oriel/ocl/CollectionKindSortedPinLaw", "expected", "(I)Lcom/example/oriel/oriel/ocl/CollectionKind;"⟩ : MethodName) method_3_code 1 (some (.object "com/example/oriel/oriel/ocl/CollectionKind")) [] ({ frames := 0, cells := 0, slots := 0, locals := 0 } : Room) [(.int (4 : Int32))] h0 (fun v h L => v = some (.ref kC) ∧ Fr n0 L ∧ h = h0) := by
  refine own_body (Ls := #[.val (.int (4 : Int32))]) (plainFor_of_name own_pn0) (fun m => by first | (simp [entryFrame, mkF, argsToLocals, Value.category]; done) | rfl) (fun p e s m below meth cO T0 hx hby hml hown hnm hret hlk hZ X0 e0 => ?_)
  have hown : s.vm.findClass "com/example/oriel/oriel/ocl/CollectionKindSortedPinLaw" = some m.cls := hown
  have N0 := Fr.nil n0
  refine g_iloadN X0 hx 1 (hb hby d3_0) rfl rfl ?_
  refine g_ifT X0 hx 8 (hb hby d3_1) (by decide) (by decide) (by decide) ?_
  refine g_iloadN X0 hx 9 (hb hby d3_8) rfl rfl ?_
  refine g_iconst X0 hx 10 (1 : Int32) (hb hby d3_9) (by decide) rfl ?_
  refine g_icT X0 hx 17 (hb hby d3_10) (by decide) (by decide) (by decide) ?_
  refine g_iloadN X0 hx 18 (hb hby d3_17) rfl rfl ?_
  refine g_iconst X0 hx 19 (2 : Int32) (hb hby d3_18) (by decide) rfl ?_
  refine g_icT X0 hx 26 (hb hby d3_19) (by decide) (by decide) (by decide) ?_
  refine g_iloadN X0 hx 27 (hb hby d3_26) rfl rfl ?_
  refine g_iconst X0 hx 28 (3 : Int32) (hb hby d3_27) (by decide) rfl ?_
  refine g_icT X0 hx 35 (hb hby d3_28) (by decide) (by decide) (by decide) ?_
  refine g_getS X0 hx 38 hZ hown (host := "") (Or.inl (own_w hw 40 rfl)) Via.refl e0 S_kC (hb hby d3_35) rfl (fun T1 X1 e1 => ?_)
  exact g_retA X1 hx hret hlk rfl rfl rfl (hb hby d3_38) (by decide) (by decide) ⟨rfl, N0, e1⟩
theorem own_pn1 : plainName "com/example/oriel/oriel/ocl/CollectionKind" = true := by first | (simp [plainName, overriddenIn]; done) | decide +kernel
theorem d2_0 : decode prog_34_method_10_code 0 = .ok (.aload_n 0, 1) := by decide +kernel
theorem d2_1 : decode prog_34_method_10_code 1 = .ok (.getstatic 16, 3) := by decide +kernel
theorem d2_4 : decode prog_34_method_10_code 4 = .ok (.if_acmp .ne 7, 3) := by decide +kernel
theorem d2_7 : decode prog_34_method_10_code 7 = .ok (.getstatic 16, 3) := by decide +kernel
theorem d2_10 : decode prog_34_method_10_code 10 = .ok (.areturn, 1) := by decide +kernel
theorem d2_11 : decode prog_34_method_10_code 11 = .ok (.aload_n 0, 1) := by decide +kernel
theorem d2_12 : decode prog_34_method_10_code 12 = .ok (.getfield 46, 3) := by decide +kernel
theorem d2_15 : decode prog_34_method_10_code 15 = .ok (.ifCond .eq 9, 3) := by decide +kernel
theorem d2_24 : decode prog_34_method_10_code 24 = .ok (.getstatic 10, 3) := by decide +kernel
theorem d2_27 : decode prog_34_method_10_code 27 = .ok (.areturn, 1) := by decide +kernel
theorem d2_18 : decode prog_34_method_10_code 18 = .ok (.getstatic 13, 3) := by decide +kernel
theorem d2_21 : decode prog_34_method_10_code 21 = .ok (.goto 6, 3) := by decide +kernel
set_option maxRecDepth 65536 in
set_option maxHeartbeats 40000000 in
theorem rm2 (l : Launch) (Z : State) (a0 : Array Value) (hw : ∀ d ∈ tables_1, d.before a0 Z = true) (a kC kO kQ r : Addr) (o : Int32) (h0 : Heap) (n0 : Nat) (Z0 : n0 ≤ h0.size) (S_kC : Sta Z h0 "com/example/oriel/oriel/ocl/CollectionKind" "COLLECTION" "Lcom/example/oriel/oriel/ocl/CollectionKind;" (.ref kC)) (S_kO : Sta Z h0 "com/example/oriel/oriel/ocl/CollectionKind" "ORDERED_SET" "Lcom/example/oriel/oriel/ocl/CollectionKind;" (.ref kO)) (S_kQ : Sta Z h0 "com/example/oriel/oriel/ocl/CollectionKind" "SEQUENCE" "Lcom/example/oriel/oriel/ocl/CollectionKind;" (.ref kQ)) (F_a : Fld Z h0 a "com/example/oriel/oriel/ocl/CollectionKind" "unique" "Z" (.int o)) (hr : own_sort a kC kO kQ o = .ref r) :
    OwnMet l Z (⟨"com/example/oriel/oriel/ocl/CollectionKind", "sorted", "()Lcom/example/oriel/oriel/ocl/CollectionKind;"⟩ : MethodName) prog_34_method_10_code 1 (some (.object "com/example/oriel/oriel/ocl/CollectionKind")) [] ({ frames := 0, cells := 0, slots := 0, locals := 0 } : Room) [(.ref a)] h0 (fun v h L => v = some (.ref r) ∧ Fr n0 L ∧ h = h0) := by
  refine own_body (Ls := #[.val (.ref a)]) (plainFor_of_name own_pn1) (fun m => by first | (simp [entryFrame, mkF, argsToLocals, Value.category]; done) | rfl) (fun p e s m below meth cO T0 hx hby hml hown hnm hret hlk hZ X0 e0 => ?_)
  have hown : s.vm.findClass "com/example/oriel/oriel/ocl/CollectionKind" = some m.cls := hown
  have N0 := Fr.nil n0
  refine g_aloadN X0 hx 1 (hb hby d2_0) rfl rfl rfl ?_
  refine g_getS X0 hx 4 hZ hown (host := "") (Or.inl (own_w hw 13 rfl)) Via.refl e0 S_kC (hb hby d2_1) rfl (fun T1 X1 e1 => ?_)
  by_cases hc2 : (Value.ref a) = (Value.ref kC)
  · refine g_ac X1 hx 7 true (hb hby d2_4) rfl rfl (decide_eq_true hc2) (by decide) (by decide) ?_
    refine g_getS X1 hx 10 hZ hown (host := "") (Or.inl (own_w hw 13 rfl)) Via.refl e1 S_kC (hb hby d2_7) rfl (fun T3 X3 e3 => ?_)
    have q0 : a = kC := Value.ref.inj hc2
    exact g_retA X3 hx hret hlk rfl rfl rfl (hb hby d2_10) (by decide) (by decide) ⟨by rw [← hr]; simp [own_sort, q0], N0, e3⟩
  · refine g_ac X1 hx 11 false (hb hby d2_4) rfl rfl (decide_eq_false hc2) (by decide) (by decide) ?_
    refine g_aloadN X1 hx 12 (hb hby d2_11) rfl rfl rfl ?_
    refine g_getF X1 hx 15 hZ hown (host := "") (Or.inl (own_w hw 15 rfl)) Via.refl e1 F_a (hb hby d2_12) rfl (fun T4 X4 e4 => ?_)
    by_cases hc5 : o = (0 : Int32)
    · refine g_ifT X4 hx 24 (hb hby d2_15) ((if0 _ _).trans (teq hc5).1) (by decide) (by decide) ?_
      refine g_getS X4 hx 27 hZ hown (host := "") (Or.inl (own_w hw 37 rfl)) Via.refl e4 S_kQ (hb hby d2_24) rfl (fun T6 X6 e6 => ?_)
      have q0 : ¬ a = kC := fun q => hc2 (congrArg Value.ref q)
      exact g_retA X6 hx hret hlk rfl rfl rfl (hb hby d2_27) (by decide) (by decide) ⟨by rw [← hr]; simp [own_sort, q0, hc5], N0, e6⟩
    · refine g_ifF X4 hx 18 (hb hby d2_15) ((if0 _ _).trans (feq hc5).1) rfl ?_
      refine g_getS X4 hx 21 hZ hown (host := "") (Or.inl (own_w hw 17 rfl)) Via.refl e4 S_kO (hb hby d2_18) rfl (fun T7 X7 e7 => ?_)
      refine g_goto X7 hx 27 (hb hby d2_21) (by decide) (by decide) ?_
      have q0 : ¬ a = kC := fun q => hc2 (congrArg Value.ref q)
      exact g_retA X7 hx hret hlk rfl rfl rfl (hb hby d2_27) (by decide) (by decide) ⟨by rw [← hr]; simp [own_sort, q0, hc5], N0, e7⟩
theorem d4_0 : decode prog_34_method_5_code 0 = .ok (.aload_n 0, 1) := by decide +kernel
theorem d4_1 : decode prog_34_method_5_code 1 = .ok (.getfield 42, 3) := by decide +kernel
theorem d4_4 : decode prog_34_method_5_code 4 = .ok (.ireturn, 1) := by decide +kernel
set_option maxRecDepth 65536 in
set_option maxHeartbeats 40000000 in
theorem rm4 (l : Launch) (Z : State) (a0 : Array Value) (hw : ∀ d ∈ tables_1, d.before a0 Z = true) (a : Addr) (z : Int32) (h0 : Heap) (n0 : Nat) (Z0 : n0 ≤ h0.size) (F_a : Fld Z h0 a "com/example/oriel/oriel/ocl/CollectionKind" "ordered" "Z" (.int z)) (hz : narrow .boolean (.int z) = .int z) :
    OwnMet l Z (⟨"com/example/oriel/oriel/ocl/CollectionKind", "isOrdered", "()Z"⟩ : MethodName) prog_34_method_5_code 1 (some .boolean) [] ({ frames := 0, cells := 0, slots := 0, locals := 0 } : Room) [(.ref a)] h0 (fun v h L => v = some (.int z) ∧ Fr n0 L ∧ h = h0) := by
  refine own_body (Ls := #[.val (.ref a)]) (plainFor_of_name own_pn1) (fun m => by first | (simp [entryFrame, mkF, argsToLocals, Value.category]; done) | rfl) (fun p e s m below meth cO T0 hx hby hml hown hnm hret hlk hZ X0 e0 => ?_)
  have hown : s.vm.findClass "com/example/oriel/oriel/ocl/CollectionKind" = some m.cls := hown
  have N0 := Fr.nil n0
  refine g_aloadN X0 hx 1 (hb hby d4_0) rfl rfl rfl ?_
  refine g_getF X0 hx 4 hZ hown (host := "") (Or.inl (own_w hw 28 rfl)) Via.refl e0 F_a (hb hby d4_1) rfl (fun T1 X1 e1 => ?_)
  exact g_retZ X1 hx hret hlk hz (hb hby d4_4) (by decide) (by decide) ⟨rfl, N0, e1⟩
theorem d5_0 : decode prog_34_method_6_code 0 = .ok (.aload_n 0, 1) := by decide +kernel
theorem d5_1 : decode prog_34_method_6_code 1 = .ok (.getfield 46, 3) := by decide +kernel
theorem d5_4 : decode prog_34_method_6_code 4 = .ok (.ireturn, 1) := by decide +kernel
set_option maxRecDepth 65536 in
set_option maxHeartbeats 40000000 in
theorem rm5 (l : Launch) (Z : State) (a0 : Array Value) (hw : ∀ d ∈ tables_1, d.before a0 Z = true) (a : Addr) (z : Int32) (h0 : Heap) (n0 : Nat) (Z0 : n0 ≤ h0.size) (F_a : Fld Z h0 a "com/example/oriel/oriel/ocl/CollectionKind" "unique" "Z" (.int z)) (hz : narrow .boolean (.int z) = .int z) :
    OwnMet l Z (⟨"com/example/oriel/oriel/ocl/CollectionKind", "isUnique", "()Z"⟩ : MethodName) prog_34_method_6_code 1 (some .boolean) [] ({ frames := 0, cells := 0, slots := 0, locals := 0 } : Room) [(.ref a)] h0 (fun v h L => v = some (.int z) ∧ Fr n0 L ∧ h = h0) := by
  refine own_body (Ls := #[.val (.ref a)]) (plainFor_of_name own_pn1) (fun m => by first | (simp [entryFrame, mkF, argsToLocals, Value.category]; done) | rfl) (fun p e s m below meth cO T0 hx hby hml hown hnm hret hlk hZ X0 e0 => ?_)
  have hown : s.vm.findClass "com/example/oriel/oriel/ocl/CollectionKind" = some m.cls := hown
  have N0 := Fr.nil n0
  refine g_aloadN X0 hx 1 (hb hby d5_0) rfl rfl rfl ?_
  refine g_getF X0 hx 4 hZ hown (host := "") (Or.inl (own_w hw 15 rfl)) Via.refl e0 F_a (hb hby d5_1) rfl (fun T1 X1 e1 => ?_)
  exact g_retZ X1 hx hret hlk hz (hb hby d5_4) (by decide) (by decide) ⟨rfl, N0, e1⟩
theorem own_pd0 : parseMethodDescriptor "(I)Lcom/example/oriel/oriel/ocl/CollectionKind;" = some ⟨[.int], some (.object "com/example/oriel/oriel/ocl/CollectionKind")⟩ := by decide +kernel
theorem own_pd1 : parseMethodDescriptor "()Lcom/example/oriel/oriel/ocl/CollectionKind;" = some ⟨[], some (.object "com/example/oriel/oriel/ocl/CollectionKind")⟩ := by decide +kernel
theorem own_pd2 : parseMethodDescriptor "()Z" = some ⟨[], some .boolean⟩ := by decide +kernel
set_option maxRecDepth 65536 in
set_option maxHeartbeats 40000000 in
theorem rm0 (l : Launch) (Z : State) (a0 : Array Value) (hw : ∀ d ∈ tables_1, d.before a0 Z = true) (x : Int32) (kS kB kQ kO kC : Addr) (h0 : Heap) (n0 : Nat) (Z0 : n0 ≤ h0.size) (S_kS : Sta Z h0 "com/example/oriel/oriel/ocl/CollectionKind" "SET" "Lcom/example/oriel/oriel/ocl/CollectionKind;" (.ref kS)) (S_kB : Sta Z h0 "com/example/oriel/oriel/ocl/CollectionKind" "BAG" "Lcom/example/oriel/oriel/ocl/CollectionKind;" (.ref kB)) (S_kQ : Sta Z h0 "com/example/oriel/oriel/ocl/CollectionKind" "SEQUENCE" "Lcom/example/oriel/oriel/ocl/CollectionKind;" (.ref kQ)) (S_kO : Sta Z h0 "com/example/oriel/oriel/ocl/CollectionKind" "ORDERED_SET" "Lcom/example/oriel/oriel/ocl/CollectionKind;" (.ref kO)) (S_kC : Sta Z h0 "com/example/oriel/oriel/ocl/CollectionKind" "COLLECTION" "Lcom/example/oriel/oriel/ocl/CollectionKind;" (.ref kC)) (E_kS : Exa Z h0 kS "com/example/oriel/oriel/ocl/CollectionKind") (F_kS : Fld Z h0 kS "com/example/oriel/oriel/ocl/CollectionKind" "ordered" "Z" (.int 0)) (U_kS : Fld Z h0 kS "com/example/oriel/oriel/ocl/CollectionKind" "unique" "Z" (.int 1)) (E_kB : Exa Z h0 kB "com/example/oriel/oriel/ocl/CollectionKind") (F_kB : Fld Z h0 kB "com/example/oriel/oriel/ocl/CollectionKind" "ordered" "Z" (.int 0)) (U_kB : Fld Z h0 kB "com/example/oriel/oriel/ocl/CollectionKind" "unique" "Z" (.int 0)) (E_kQ : Exa Z h0 kQ "com/example/oriel/oriel/ocl/CollectionKind") (F_kQ : Fld Z h0 kQ "com/example/oriel/oriel/ocl/CollectionKind" "ordered" "Z" (.int 1)) (U_kQ : Fld Z h0 kQ "com/example/oriel/oriel/ocl/CollectionKind" "unique" "Z" (.int 0)) (E_kO : Exa Z h0 kO "com/example/oriel/oriel/ocl/CollectionKind") (F_kO : Fld Z h0 kO "com/example/oriel/oriel/ocl/CollectionKind" "ordered" "Z" (.int 1)) (U_kO : Fld Z h0 kO "com/example/oriel/oriel/ocl/CollectionKind" "unique" "Z" (.int 1)) (E_kC : Exa Z h0 kC "com/example/oriel/oriel/ocl/CollectionKind") (F_kC : Fld Z h0 kC "com/example/oriel/oriel/ocl/CollectionKind" "ordered" "Z" (.int 0)) (U_kC : Fld Z h0 kC "com/example/oriel/oriel/ocl/CollectionKind" "unique" "Z" (.int 0)) (ne_kS : ¬ kS = kC) (ne_kB : ¬ kB = kC) (ne_kQ : ¬ kQ = kC) (ne_kO : ¬ kO = kC) :
    OwnMet l Z Jvm.Pilot.@@N@@.x code maxLocals ret tables_1 room_1 [(.int x)] h0 (fun v h L => v = some (.int 1) ∧ Fr n0 L) := by
  refine own_body (Ls := #[.val (.int x), .unset, .unset, .unset]) (plainFor_of_name own_pn0) (fun m => by first | (simp [entryFrame, mkF, argsToLocals, Value.category, maxLocals]; done) | rfl) (fun p e s m below meth cO T0 hx hby hml hown hnm hret hlk hZ X0 e0 => ?_)
  have hml : cO.maxLocals = 4 := hml
  have hown : s.vm.findClass "com/example/oriel/oriel/ocl/CollectionKindSortedPinLaw" = some m.cls := hown
  have N0 := Fr.nil n0
  refine g_iloadN X0 hx 1 (hb hby at_0) rfl rfl ?_
  refine g_ldcI X0 hx 3 hZ hown (own_w hw 0 rfl) (hb hby at_1) rfl ?_
  refine g_iand X0 hx 4 (x &&& (2147483647 : Int32)) (hb hby at_3) rfl rfl ?_
  refine g_iconst X0 hx 5 (5 : Int32) (hb hby at_4) (by decide) rfl ?_
  refine g_irem X0 hx 6 ((x &&& (2147483647 : Int32)) % (5 : Int32)) (hb hby at_5) (by decide) rfl rfl ?_
  have hb5 := own_modb _ 5 (own_nn x) (by decide)
  generalize ((x &&& (2147483647 : Int32)) % (5 : Int32)) = i at hb5 ⊢
  rcases (own_five i hb5.1 hb5.2) with rfl | rfl | rfl | rfl | rfl
  · refine g_istoreN X0 hx 7 #[.val (.int x), .val (.int (0 : Int32)), .unset, .unset] (hb hby at_6) rfl rfl ?_
    refine g_iloadN X0 hx 8 (hb hby at_7) rfl rfl ?_
    refine g_callS X0 hx 11 hZ hown (own_w hw 1 rfl) (own_w hw 2 rfl) (own_w hw 3 rfl) (own_w hw 4 rfl) (by decide) [(.int (0 : Int32))] [] (rm1_0 l Z a0 hw kS kB kQ kO kC h0 n0 Z0 S_kS S_kB S_kQ S_kO S_kC) e0 0 (by decide) (by decide) (by decide) (by decide) (by rw [hml]; rfl) (lenOf own_pd0 rfl) (hb hby at_8) rfl (Nat.le_of_eq rfl) rfl (fun v1 T1 L1 X1 hQ1 => ?_)
    obtain ⟨rfl, N1q, e1⟩ := hQ1
    have N1 := Fr.app N0 N1q
    show Go p e below _ _ T1 (mkF m 11 #[.val (.int x), .val (.int (0 : Int32)), .unset, .unset] [(.ref kS)])
    refine g_astoreN X1 hx 12 #[.val (.int x), .val (.int (0 : Int32)), .val (.ref kS), .unset] (hb hby at_11) rfl rfl rfl ?_
    refine g_aloadN X1 hx 13 (hb hby at_12) rfl rfl rfl ?_
    refine g_callV X1 hx 16 hZ hown (own_w hw 8 rfl) (own_w hw 9 rfl) (own_w hw 11 rfl) (own_w hw 10 rfl) (own_w hw 6 rfl) (own_w hw 12 rfl) (by decide) kS E_kS [] [] (rm2 l Z a0 hw kS kC kO kQ kO (1 : Int32) h0 n0 Z0 S_kC S_kO S_kQ U_kS (by simp [own_sort, ne_kS])) e1 0 (by decide) (by decide) (by decide) (by decide) (by rw [hml]; rfl) (lenOf own_pd1 rfl) (hb hby at_13) rfl (Nat.le_of_eq rfl) rfl (fun v2 T2 L2 X2 hQ2 => ?_)
    obtain ⟨rfl, N2q, e2⟩ := hQ2
    have N2 := Fr.app N1 N2q
    show Go p e below _ _ T2 (mkF m 16 #[.val (.int x), .val (.int (0 : Int32)), .val (.ref kS), .unset] [(.ref kO)])
    refine g_astoreN X2 hx 17 #[.val (.int x), .val (.int (0 : Int32)), .val (.ref kS), .val (.ref kO)] (hb hby at_16) rfl rfl rfl ?_
    refine g_aloadN X2 hx 18 (hb hby at_17) rfl rfl rfl ?_
    refine g_iloadN X2 hx 19 (hb hby at_18) rfl rfl ?_
    refine g_callS X2 hx 22 hZ hown (own_w hw 19 rfl) (own_w hw 20 rfl) (own_w hw 3 rfl) (own_w hw 21 rfl) (by decide) [(.int (0 : Int32))] [(.ref kO)] (rm3_0 l Z a0 hw kS kB kQ kO kC h0 n0 Z0 S_kS S_kB S_kQ S_kO S_kC) e2 1 (by decide) (by decide) (by decide) (by decide) (by rw [hml]; rfl) (lenOf own_pd0 rfl) (hb hby at_19) rfl (Nat.le_of_eq rfl) rfl (fun v3 T3 L3 X3 hQ3 => ?_)
    obtain ⟨rfl, N3q, e3⟩ := hQ3
    have N3 := Fr.app N2 N3q
    show Go p e below _ _ T3 (mkF m 22 #[.val (.int x), .val (.int (0 : Int32)), .val (.ref kS), .val (.ref kO)] [(.ref kO), (.ref kO)])
    refine g_ac X3 hx 27 true (hb hby at_22) rfl rfl (decide_eq_true rfl) (by decide) (by decide) ?_
    refine g_iloadN X3 hx 28 (hb hby at_27) rfl rfl ?_
    refine g_iconst X3 hx 29 (4 : Int32) (hb hby at_28) (by decide) rfl ?_
    refine g_icF X3 hx 32 (hb hby at_29) (by decide) rfl ?_
    refine g_aloadN X3 hx 33 (hb hby at_32) rfl rfl rfl ?_
    refine g_callV X3 hx 36 hZ hown (own_w hw 23 rfl) (own_w hw 24 rfl) (own_w hw 26 rfl) (own_w hw 25 rfl) (own_w hw 6 rfl) (own_w hw 27 rfl) (by decide) kO E_kO [] [] (rm4 l Z a0 hw kO (1 : Int32) h0 n0 Z0 F_kO rfl) e3 0 (by decide) (by decide) (by decide) (by decide) (by rw [hml]; rfl) (lenOf own_pd2 rfl) (hb hby at_33) rfl (Nat.le_of_eq rfl) rfl (fun v4 T4 L4 X4 hQ4 => ?_)
    obtain ⟨rfl, N4q, e4⟩ := hQ4
    have N4 := Fr.app N3 N4q
    show Go p e below _ _ T4 (mkF m 36 #[.val (.int x), .val (.int (0 : Int32)), .val (.ref kS), .val (.ref kO)] [(.int (1 : Int32))])
    refine g_ifT X4 hx 41 (hb hby at_36) (by decide) (by decide) (by decide) ?_
    refine g_aloadN X4 hx 42 (hb hby at_41) rfl rfl rfl ?_
    refine g_callV X4 hx 45 hZ hown (own_w hw 30 rfl) (own_w hw 31 rfl) (own_w hw 33 rfl) (own_w hw 32 rfl) (own_w hw 6 rfl) (own_w hw 34 rfl) (by decide) kO E_kO [] [] (rm5 l Z a0 hw kO (1 : Int32) h0 n0 Z0 U_kO rfl) e4 0 (by decide) (by decide) (by decide) (by decide) (by rw [hml]; rfl) (lenOf own_pd2 rfl) (hb hby at_42) rfl (Nat.le_of_eq rfl) rfl (fun v5 T5 L5 X5 hQ5 => ?_)
    obtain ⟨rfl, N5q, e5⟩ := hQ5
    have N5 := Fr.app N4 N5q
    show Go p e below _ _ T5 (mkF m 45 #[.val (.int x), .val (.int (0 : Int32)), .val (.ref kS), .val (.ref kO)] [(.int (1 : Int32))])
    refine g_aloadN X5 hx 46 (hb hby at_45) rfl rfl rfl ?_
    refine g_callV X5 hx 49 hZ hown (own_w hw 30 rfl) (own_w hw 31 rfl) (own_w hw 33 rfl) (own_w hw 32 rfl) (own_w hw 6 rfl) (own_w hw 34 rfl) (by decide) kS E_kS [] [(.int (1 : Int32))] (rm5 l Z a0 hw kS (1 : Int32) h0 n0 Z0 U_kS rfl) e5 1 (by decide) (by decide) (by decide) (by decide) (by rw [hml]; rfl) (lenOf own_pd2 rfl) (hb hby at_46) rfl (Nat.le_of_eq rfl) rfl (fun v6 T6 L6 X6 hQ6 => ?_)
    obtain ⟨rfl, N6q, e6⟩ := hQ6
    have N6 := Fr.app N5 N6q
    show Go p e below _ _ T6 (mkF m 49 #[.val (.int x), .val (.int (0 : Int32)), .val (.ref kS), .val (.ref kO)] [(.int (1 : Int32)), (.int (1 : Int32))])
    refine g_icT X6 hx 54 (hb hby at_49) (by decide) (by decide) (by decide) ?_
    refine g_aloadN X6 hx 55 (hb hby at_54) rfl rfl rfl ?_
    refine g_callV X6 hx 58 hZ hown (own_w hw 8 rfl) (own_w hw 9 rfl) (own_w hw 11 rfl) (own_w hw 10 rfl) (own_w hw 6 rfl) (own_w hw 12 rfl) (by decide) kO E_kO [] [] (rm2 l Z a0 hw kO kC kO kQ kO (1 : Int32) h0 n0 Z0 S_kC S_kO S_kQ U_kO (by simp [own_sort, ne_kO])) e6 0 (by decide) (by decide) (by decide) (by decide) (by rw [hml]; rfl) (lenOf own_pd1 rfl) (hb hby at_55) rfl (Nat.le_of_eq rfl) rfl (fun v7 T7 L7 X7 hQ7 => ?_)
    obtain ⟨rfl, N7q, e7⟩ := hQ7
    have N7 := Fr.app N6 N7q
    show Go p e below _ _ T7 (mkF m 58 #[.val (.int x), .val (.int (0 : Int32)), .val (.ref kS), .val (.ref kO)] [(.ref kO)])
    refine g_aloadN X7 hx 59 (hb hby at_58) rfl rfl rfl ?_
    refine g_ac X7 hx 62 true (hb hby at_59) rfl rfl (decide_eq_true rfl) (by decide) (by decide) ?_
    refine g_iconst X7 hx 63 (1 : Int32) (hb hby at_62) (by decide) rfl ?_
    refine g_goto X7 hx 67 (hb hby at_63) (by decide) (by decide) ?_
    exact g_retZ X7 hx hret hlk rfl (hb hby at_67) (by decide) (by decide) ⟨rfl, N7⟩
  · refine g_istoreN X0 hx 7 #[.val (.int x), .val (.int (1 : Int32)), .unset, .unset] (hb hby at_6) rfl rfl ?_
    refine g_iloadN X0 hx 8 (hb hby at_7) rfl rfl ?_
    refine g_callS X0 hx 11 hZ hown (own_w hw 1 rfl) (own_w hw 2 rfl) (own_w hw 3 rfl) (own_w hw 4 rfl) (by decide) [(.int (1 : Int32))] [] (rm1_1 l Z a0 hw kS kB kQ kO kC h0 n0 Z0 S_kS S_kB S_kQ S_kO S_kC) e0 0 (by decide) (by decide) (by decide) (by decide) (by rw [hml]; rfl) (lenOf own_pd0 rfl) (hb hby at_8) rfl (Nat.le_of_eq rfl) rfl (fun v8 T8 L8 X8 hQ8 => ?_)
    obtain ⟨rfl, N8q, e8⟩ := hQ8
    have N8 := Fr.app N0 N8q
    show Go p e below _ _ T8 (mkF m 11 #[.val (.int x), .val (.int (1 : Int32)), .unset, .unset] [(.ref kB)])
    refine g_astoreN X8 hx 12 #[.val (.int x), .val (.int (1 : Int32)), .val (.ref kB), .unset] (hb hby at_11) rfl rfl rfl ?_
    refine g_aloadN X8 hx 13 (hb hby at_12) rfl rfl rfl ?_
    refine g_callV X8 hx 16 hZ hown (own_w hw 8 rfl) (own_w hw 9 rfl) (own_w hw 11 rfl) (own_w hw 10 rfl) (own_w hw 6 rfl) (own_w hw 12 rfl) (by decide) kB E_kB [] [] (rm2 l Z a0 hw kB kC kO kQ kQ (0 : Int32) h0 n0 Z0 S_kC S_kO S_kQ U_kB (by simp [own_sort, ne_kB])) e8 0 (by decide) (by decide) (by decide) (by decide) (by rw [hml]; rfl) (lenOf own_pd1 rfl) (hb hby at_13) rfl (Nat.le_of_eq rfl) rfl (fun v9 T9 L9 X9 hQ9 => ?_)
    obtain ⟨rfl, N9q, e9⟩ := hQ9
    have N9 := Fr.app N8 N9q
    show Go p e below _ _ T9 (mkF m 16 #[.val (.int x), .val (.int (1 : Int32)), .val (.ref kB), .unset] [(.ref kQ)])
    refine g_astoreN X9 hx 17 #[.val (.int x), .val (.int (1 : Int32)), .val (.ref kB), .val (.ref kQ)] (hb hby at_16) rfl rfl rfl ?_
    refine g_aloadN X9 hx 18 (hb hby at_17) rfl rfl rfl ?_
    refine g_iloadN X9 hx 19 (hb hby at_18) rfl rfl ?_
    refine g_callS X9 hx 22 hZ hown (own_w hw 19 rfl) (own_w hw 20 rfl) (own_w hw 3 rfl) (own_w hw 21 rfl) (by decide) [(.int (1 : Int32))] [(.ref kQ)] (rm3_1 l Z a0 hw kS kB kQ kO kC h0 n0 Z0 S_kS S_kB S_kQ S_kO S_kC) e9 1 (by decide) (by decide) (by decide) (by decide) (by rw [hml]; rfl) (lenOf own_pd0 rfl) (hb hby at_19) rfl (Nat.le_of_eq rfl) rfl (fun v10 T10 L10 X10 hQ10 => ?_)
    obtain ⟨rfl, N10q, e10⟩ := hQ10
    have N10 := Fr.app N9 N10q
    show Go p e below _ _ T10 (mkF m 22 #[.val (.int x), .val (.int (1 : Int32)), .val (.ref kB), .val (.ref kQ)] [(.ref kQ), (.ref kQ)])
    refine g_ac X10 hx 27 true (hb hby at_22) rfl rfl (decide_eq_true rfl) (by decide) (by decide) ?_
    refine g_iloadN X10 hx 28 (hb hby at_27) rfl rfl ?_
    refine g_iconst X10 hx 29 (4 : Int32) (hb hby at_28) (by decide) rfl ?_
    refine g_icF X10 hx 32 (hb hby at_29) (by decide) rfl ?_
    refine g_aloadN X10 hx 33 (hb hby at_32) rfl rfl rfl ?_
    refine g_callV X10 hx 36 hZ hown (own_w hw 23 rfl) (own_w hw 24 rfl) (own_w hw 26 rfl) (own_w hw 25 rfl) (own_w hw 6 rfl) (own_w hw 27 rfl) (by decide) kQ E_kQ [] [] (rm4 l Z a0 hw kQ (1 : Int32) h0 n0 Z0 F_kQ rfl) e10 0 (by decide) (by decide) (by decide) (by decide) (by rw [hml]; rfl) (lenOf own_pd2 rfl) (hb hby at_33) rfl (Nat.le_of_eq rfl) rfl (fun v11 T11 L11 X11 hQ11 => ?_)
    obtain ⟨rfl, N11q, e11⟩ := hQ11
    have N11 := Fr.app N10 N11q
    show Go p e below _ _ T11 (mkF m 36 #[.val (.int x), .val (.int (1 : Int32)), .val (.ref kB), .val (.ref kQ)] [(.int (1 : Int32))])
    refine g_ifT X11 hx 41 (hb hby at_36) (by decide) (by decide) (by decide) ?_
    refine g_aloadN X11 hx 42 (hb hby at_41) rfl rfl rfl ?_
    refine g_callV X11 hx 45 hZ hown (own_w hw 30 rfl) (own_w hw 31 rfl) (own_w hw 33 rfl) (own_w hw 32 rfl) (own_w hw 6 rfl) (own_w hw 34 rfl) (by decide) kQ E_kQ [] [] (rm5 l Z a0 hw kQ (0 : Int32) h0 n0 Z0 U_kQ rfl) e11 0 (by decide) (by decide) (by decide) (by decide) (by rw [hml]; rfl) (lenOf own_pd2 rfl) (hb hby at_42) rfl (Nat.le_of_eq rfl) rfl (fun v12 T12 L12 X12 hQ12 => ?_)
    obtain ⟨rfl, N12q, e12⟩ := hQ12
    have N12 := Fr.app N11 N12q
    show Go p e below _ _ T12 (mkF m 45 #[.val (.int x), .val (.int (1 : Int32)), .val (.ref kB), .val (.ref kQ)] [(.int (0 : Int32))])
    refine g_aloadN X12 hx 46 (hb hby at_45) rfl rfl rfl ?_
    refine g_callV X12 hx 49 hZ hown (own_w hw 30 rfl) (own_w hw 31 rfl) (own_w hw 33 rfl) (own_w hw 32 rfl) (own_w hw 6 rfl) (own_w hw 34 rfl) (by decide) kB E_kB [] [(.int (0 : Int32))] (rm5 l Z a0 hw kB (0 : Int32) h0 n0 Z0 U_kB rfl) e12 1 (by decide) (by decide) (by decide) (by decide) (by rw [hml]; rfl) (lenOf own_pd2 rfl) (hb hby at_46) rfl (Nat.le_of_eq rfl) rfl (fun v13 T13 L13 X13 hQ13 => ?_)
    obtain ⟨rfl, N13q, e13⟩ := hQ13
    have N13 := Fr.app N12 N13q
    show Go p e below _ _ T13 (mkF m 49 #[.val (.int x), .val (.int (1 : Int32)), .val (.ref kB), .val (.ref kQ)] [(.int (0 : Int32)), (.int (0 : Int32))])
    refine g_icT X13 hx 54 (hb hby at_49) (by decide) (by decide) (by decide) ?_
    refine g_aloadN X13 hx 55 (hb hby at_54) rfl rfl rfl ?_
    refine g_callV X13 hx 58 hZ hown (own_w hw 8 rfl) (own_w hw 9 rfl) (own_w hw 11 rfl) (own_w hw 10 rfl) (own_w hw 6 rfl) (own_w hw 12 rfl) (by decide) kQ E_kQ [] [] (rm2 l Z a0 hw kQ kC kO kQ kQ (0 : Int32) h0 n0 Z0 S_kC S_kO S_kQ U_kQ (by simp [own_sort, ne_kQ])) e13 0 (by decide) (by decide) (by decide) (by decide) (by rw [hml]; rfl) (lenOf own_pd1 rfl) (hb hby at_55) rfl (Nat.le_of_eq rfl) rfl (fun v14 T14 L14 X14 hQ14 => ?_)
    obtain ⟨rfl, N14q, e14⟩ := hQ14
    have N14 := Fr.app N13 N14q
    show Go p e below _ _ T14 (mkF m 58 #[.val (.int x), .val (.int (1 : Int32)), .val (.ref kB), .val (.ref kQ)] [(.ref kQ)])
    refine g_aloadN X14 hx 59 (hb hby at_58) rfl rfl rfl ?_
    refine g_ac X14 hx 62 true (hb hby at_59) rfl rfl (decide_eq_true rfl) (by decide) (by decide) ?_
    refine g_iconst X14 hx 63 (1 : Int32) (hb hby at_62) (by decide) rfl ?_
    refine g_goto X14 hx 67 (hb hby at_63) (by decide) (by decide) ?_
    exact g_retZ X14 hx hret hlk rfl (hb hby at_67) (by decide) (by decide) ⟨rfl, N14⟩
  · refine g_istoreN X0 hx 7 #[.val (.int x), .val (.int (2 : Int32)), .unset, .unset] (hb hby at_6) rfl rfl ?_
    refine g_iloadN X0 hx 8 (hb hby at_7) rfl rfl ?_
    refine g_callS X0 hx 11 hZ hown (own_w hw 1 rfl) (own_w hw 2 rfl) (own_w hw 3 rfl) (own_w hw 4 rfl) (by decide) [(.int (2 : Int32))] [] (rm1_2 l Z a0 hw kS kB kQ kO kC h0 n0 Z0 S_kS S_kB S_kQ S_kO S_kC) e0 0 (by decide) (by decide) (by decide) (by decide) (by rw [hml]; rfl) (lenOf own_pd0 rfl) (hb hby at_8) rfl (Nat.le_of_eq rfl) rfl (fun v15 T15 L15 X15 hQ15 => ?_)
    obtain ⟨rfl, N15q, e15⟩ := hQ15
    have N15 := Fr.app N0 N15q
    show Go p e below _ _ T15 (mkF m 11 #[.val (.int x), .val (.int (2 : Int32)), .unset, .unset] [(.ref kQ)])
    refine g_astoreN X15 hx 12 #[.val (.int x), .val (.int (2 : Int32)), .val (.ref kQ), .unset] (hb hby at_11) rfl rfl rfl ?_
    refine g_aloadN X15 hx 13 (hb hby at_12) rfl rfl rfl ?_
    refine g_callV X15 hx 16 hZ hown (own_w hw 8 rfl) (own_w hw 9 rfl) (own_w hw 11 rfl) (own_w hw 10 rfl) (own_w hw 6 rfl) (own_w hw 12 rfl) (by decide) kQ E_kQ [] [] (rm2 l Z a0 hw kQ kC kO kQ kQ (0 : Int32) h0 n0 Z0 S_kC S_kO S_kQ U_kQ (by simp [own_sort, ne_kQ])) e15 0 (by decide) (by decide) (by decide) (by decide) (by rw [hml]; rfl) (lenOf own_pd1 rfl) (hb hby at_13) rfl (Nat.le_of_eq rfl) rfl (fun v16 T16 L16 X16 hQ16 => ?_)
    obtain ⟨rfl, N16q, e16⟩ := hQ16
    have N16 := Fr.app N15 N16q
    show Go p e below _ _ T16 (mkF m 16 #[.val (.int x), .val (.int (2 : Int32)), .val (.ref kQ), .unset] [(.ref kQ)])
    refine g_astoreN X16 hx 17 #[.val (.int x), .val (.int (2 : Int32)), .val (.ref kQ), .val (.ref kQ)] (hb hby at_16) rfl rfl rfl ?_
    refine g_aloadN X16 hx 18 (hb hby at_17) rfl rfl rfl ?_
    refine g_iloadN X16 hx 19 (hb hby at_18) rfl rfl ?_
    refine g_callS X16 hx 22 hZ hown (own_w hw 19 rfl) (own_w hw 20 rfl) (own_w hw 3 rfl) (own_w hw 21 rfl) (by decide) [(.int (2 : Int32))] [(.ref kQ)] (rm3_2 l Z a0 hw kS kB kQ kO kC h0 n0 Z0 S_kS S_kB S_kQ S_kO S_kC) e16 1 (by decide) (by decide) (by decide) (by decide) (by rw [hml]; rfl) (lenOf own_pd0 rfl) (hb hby at_19) rfl (Nat.le_of_eq rfl) rfl (fun v17 T17 L17 X17 hQ17 => ?_)
    obtain ⟨rfl, N17q, e17⟩ := hQ17
    have N17 := Fr.app N16 N17q
    show Go p e below _ _ T17 (mkF m 22 #[.val (.int x), .val (.int (2 : Int32)), .val (.ref kQ), .val (.ref kQ)] [(.ref kQ), (.ref kQ)])
    refine g_ac X17 hx 27 true (hb hby at_22) rfl rfl (decide_eq_true rfl) (by decide) (by decide) ?_
    refine g_iloadN X17 hx 28 (hb hby at_27) rfl rfl ?_
    refine g_iconst X17 hx 29 (4 : Int32) (hb hby at_28) (by decide) rfl ?_
    refine g_icF X17 hx 32 (hb hby at_29) (by decide) rfl ?_
    refine g_aloadN X17 hx 33 (hb hby at_32) rfl rfl rfl ?_
    refine g_callV X17 hx 36 hZ hown (own_w hw 23 rfl) (own_w hw 24 rfl) (own_w hw 26 rfl) (own_w hw 25 rfl) (own_w hw 6 rfl) (own_w hw 27 rfl) (by decide) kQ E_kQ [] [] (rm4 l Z a0 hw kQ (1 : Int32) h0 n0 Z0 F_kQ rfl) e17 0 (by decide) (by decide) (by decide) (by decide) (by rw [hml]; rfl) (lenOf own_pd2 rfl) (hb hby at_33) rfl (Nat.le_of_eq rfl) rfl (fun v18 T18 L18 X18 hQ18 => ?_)
    obtain ⟨rfl, N18q, e18⟩ := hQ18
    have N18 := Fr.app N17 N18q
    show Go p e below _ _ T18 (mkF m 36 #[.val (.int x), .val (.int (2 : Int32)), .val (.ref kQ), .val (.ref kQ)] [(.int (1 : Int32))])
    refine g_ifT X18 hx 41 (hb hby at_36) (by decide) (by decide) (by decide) ?_
    refine g_aloadN X18 hx 42 (hb hby at_41) rfl rfl rfl ?_
    refine g_callV X18 hx 45 hZ hown (own_w hw 30 rfl) (own_w hw 31 rfl) (own_w hw 33 rfl) (own_w hw 32 rfl) (own_w hw 6 rfl) (own_w hw 34 rfl) (by decide) kQ E_kQ [] [] (rm5 l Z a0 hw kQ (0 : Int32) h0 n0 Z0 U_kQ rfl) e18 0 (by decide) (by decide) (by decide) (by decide) (by rw [hml]; rfl) (lenOf own_pd2 rfl) (hb hby at_42) rfl (Nat.le_of_eq rfl) rfl (fun v19 T19 L19 X19 hQ19 => ?_)
    obtain ⟨rfl, N19q, e19⟩ := hQ19
    have N19 := Fr.app N18 N19q
    show Go p e below _ _ T19 (mkF m 45 #[.val (.int x), .val (.int (2 : Int32)), .val (.ref kQ), .val (.ref kQ)] [(.int (0 : Int32))])
    refine g_aloadN X19 hx 46 (hb hby at_45) rfl rfl rfl ?_
    refine g_callV X19 hx 49 hZ hown (own_w hw 30 rfl) (own_w hw 31 rfl) (own_w hw 33 rfl) (own_w hw 32 rfl) (own_w hw 6 rfl) (own_w hw 34 rfl) (by decide) kQ E_kQ [] [(.int (0 : Int32))] (rm5 l Z a0 hw kQ (0 : Int32) h0 n0 Z0 U_kQ rfl) e19 1 (by decide) (by decide) (by decide) (by decide) (by rw [hml]; rfl) (lenOf own_pd2 rfl) (hb hby at_46) rfl (Nat.le_of_eq rfl) rfl (fun v20 T20 L20 X20 hQ20 => ?_)
    obtain ⟨rfl, N20q, e20⟩ := hQ20
    have N20 := Fr.app N19 N20q
    show Go p e below _ _ T20 (mkF m 49 #[.val (.int x), .val (.int (2 : Int32)), .val (.ref kQ), .val (.ref kQ)] [(.int (0 : Int32)), (.int (0 : Int32))])
    refine g_icT X20 hx 54 (hb hby at_49) (by decide) (by decide) (by decide) ?_
    refine g_aloadN X20 hx 55 (hb hby at_54) rfl rfl rfl ?_
    refine g_callV X20 hx 58 hZ hown (own_w hw 8 rfl) (own_w hw 9 rfl) (own_w hw 11 rfl) (own_w hw 10 rfl) (own_w hw 6 rfl) (own_w hw 12 rfl) (by decide) kQ E_kQ [] [] (rm2 l Z a0 hw kQ kC kO kQ kQ (0 : Int32) h0 n0 Z0 S_kC S_kO S_kQ U_kQ (by simp [own_sort, ne_kQ])) e20 0 (by decide) (by decide) (by decide) (by decide) (by rw [hml]; rfl) (lenOf own_pd1 rfl) (hb hby at_55) rfl (Nat.le_of_eq rfl) rfl (fun v21 T21 L21 X21 hQ21 => ?_)
    obtain ⟨rfl, N21q, e21⟩ := hQ21
    have N21 := Fr.app N20 N21q
    show Go p e below _ _ T21 (mkF m 58 #[.val (.int x), .val (.int (2 : Int32)), .val (.ref kQ), .val (.ref kQ)] [(.ref kQ)])
    refine g_aloadN X21 hx 59 (hb hby at_58) rfl rfl rfl ?_
    refine g_ac X21 hx 62 true (hb hby at_59) rfl rfl (decide_eq_true rfl) (by decide) (by decide) ?_
    refine g_iconst X21 hx 63 (1 : Int32) (hb hby at_62) (by decide) rfl ?_
    refine g_goto X21 hx 67 (hb hby at_63) (by decide) (by decide) ?_
    exact g_retZ X21 hx hret hlk rfl (hb hby at_67) (by decide) (by decide) ⟨rfl, N21⟩
  · refine g_istoreN X0 hx 7 #[.val (.int x), .val (.int (3 : Int32)), .unset, .unset] (hb hby at_6) rfl rfl ?_
    refine g_iloadN X0 hx 8 (hb hby at_7) rfl rfl ?_
    refine g_callS X0 hx 11 hZ hown (own_w hw 1 rfl) (own_w hw 2 rfl) (own_w hw 3 rfl) (own_w hw 4 rfl) (by decide) [(.int (3 : Int32))] [] (rm1_3 l Z a0 hw kS kB kQ kO kC h0 n0 Z0 S_kS S_kB S_kQ S_kO S_kC) e0 0 (by decide) (by decide) (by decide) (by decide) (by rw [hml]; rfl) (lenOf own_pd0 rfl) (hb hby at_8) rfl (Nat.le_of_eq rfl) rfl (fun v22 T22 L22 X22 hQ22 => ?_)
    obtain ⟨rfl, N22q, e22⟩ := hQ22
    have N22 := Fr.app N0 N22q
    show Go p e below _ _ T22 (mkF m 11 #[.val (.int x), .val (.int (3 : Int32)), .unset, .unset] [(.ref kO)])
    refine g_astoreN X22 hx 12 #[.val (.int x), .val (.int (3 : Int32)), .val (.ref kO), .unset] (hb hby at_11) rfl rfl rfl ?_
    refine g_aloadN X22 hx 13 (hb hby at_12) rfl rfl rfl ?_
    refine g_callV X22 hx 16 hZ hown (own_w hw 8 rfl) (own_w hw 9 rfl) (own_w hw 11 rfl) (own_w hw 10 rfl) (own_w hw 6 rfl) (own_w hw 12 rfl) (by decide) kO E_kO [] [] (rm2 l Z a0 hw kO kC kO kQ kO (1 : Int32) h0 n0 Z0 S_kC S_kO S_kQ U_kO (by simp [own_sort, ne_kO])) e22 0 (by decide) (by decide) (by decide) (by decide) (by rw [hml]; rfl) (lenOf own_pd1 rfl) (hb hby at_13) rfl (Nat.le_of_eq rfl) rfl (fun v23 T23 L23 X23 hQ23 => ?_)
    obtain ⟨rfl, N23q, e23⟩ := hQ23
    have N23 := Fr.app N22 N23q
    show Go p e below _ _ T23 (mkF m 16 #[.val (.int x), .val (.int (3 : Int32)), .val (.ref kO), .unset] [(.ref kO)])
    refine g_astoreN X23 hx 17 #[.val (.int x), .val (.int (3 : Int32)), .val (.ref kO), .val (.ref kO)] (hb hby at_16) rfl rfl rfl ?_
    refine g_aloadN X23 hx 18 (hb hby at_17) rfl rfl rfl ?_
    refine g_iloadN X23 hx 19 (hb hby at_18) rfl rfl ?_
    refine g_callS X23 hx 22 hZ hown (own_w hw 19 rfl) (own_w hw 20 rfl) (own_w hw 3 rfl) (own_w hw 21 rfl) (by decide) [(.int (3 : Int32))] [(.ref kO)] (rm3_3 l Z a0 hw kS kB kQ kO kC h0 n0 Z0 S_kS S_kB S_kQ S_kO S_kC) e23 1 (by decide) (by decide) (by decide) (by decide) (by rw [hml]; rfl) (lenOf own_pd0 rfl) (hb hby at_19) rfl (Nat.le_of_eq rfl) rfl (fun v24 T24 L24 X24 hQ24 => ?_)
    obtain ⟨rfl, N24q, e24⟩ := hQ24
    have N24 := Fr.app N23 N24q
    show Go p e below _ _ T24 (mkF m 22 #[.val (.int x), .val (.int (3 : Int32)), .val (.ref kO), .val (.ref kO)] [(.ref kO), (.ref kO)])
    refine g_ac X24 hx 27 true (hb hby at_22) rfl rfl (decide_eq_true rfl) (by decide) (by decide) ?_
    refine g_iloadN X24 hx 28 (hb hby at_27) rfl rfl ?_
    refine g_iconst X24 hx 29 (4 : Int32) (hb hby at_28) (by decide) rfl ?_
    refine g_icF X24 hx 32 (hb hby at_29) (by decide) rfl ?_
    refine g_aloadN X24 hx 33 (hb hby at_32) rfl rfl rfl ?_
    refine g_callV X24 hx 36 hZ hown (own_w hw 23 rfl) (own_w hw 24 rfl) (own_w hw 26 rfl) (own_w hw 25 rfl) (own_w hw 6 rfl) (own_w hw 27 rfl) (by decide) kO E_kO [] [] (rm4 l Z a0 hw kO (1 : Int32) h0 n0 Z0 F_kO rfl) e24 0 (by decide) (by decide) (by decide) (by decide) (by rw [hml]; rfl) (lenOf own_pd2 rfl) (hb hby at_33) rfl (Nat.le_of_eq rfl) rfl (fun v25 T25 L25 X25 hQ25 => ?_)
    obtain ⟨rfl, N25q, e25⟩ := hQ25
    have N25 := Fr.app N24 N25q
    show Go p e below _ _ T25 (mkF m 36 #[.val (.int x), .val (.int (3 : Int32)), .val (.ref kO), .val (.ref kO)] [(.int (1 : Int32))])
    refine g_ifT X25 hx 41 (hb hby at_36) (by decide) (by decide) (by decide) ?_
    refine g_aloadN X25 hx 42 (hb hby at_41) rfl rfl rfl ?_
    refine g_callV X25 hx 45 hZ hown (own_w hw 30 rfl) (own_w hw 31 rfl) (own_w hw 33 rfl) (own_w hw 32 rfl) (own_w hw 6 rfl) (own_w hw 34 rfl) (by decide) kO E_kO [] [] (rm5 l Z a0 hw kO (1 : Int32) h0 n0 Z0 U_kO rfl) e25 0 (by decide) (by decide) (by decide) (by decide) (by rw [hml]; rfl) (lenOf own_pd2 rfl) (hb hby at_42) rfl (Nat.le_of_eq rfl) rfl (fun v26 T26 L26 X26 hQ26 => ?_)
    obtain ⟨rfl, N26q, e26⟩ := hQ26
    have N26 := Fr.app N25 N26q
    show Go p e below _ _ T26 (mkF m 45 #[.val (.int x), .val (.int (3 : Int32)), .val (.ref kO), .val (.ref kO)] [(.int (1 : Int32))])
    refine g_aloadN X26 hx 46 (hb hby at_45) rfl rfl rfl ?_
    refine g_callV X26 hx 49 hZ hown (own_w hw 30 rfl) (own_w hw 31 rfl) (own_w hw 33 rfl) (own_w hw 32 rfl) (own_w hw 6 rfl) (own_w hw 34 rfl) (by decide) kO E_kO [] [(.int (1 : Int32))] (rm5 l Z a0 hw kO (1 : Int32) h0 n0 Z0 U_kO rfl) e26 1 (by decide) (by decide) (by decide) (by decide) (by rw [hml]; rfl) (lenOf own_pd2 rfl) (hb hby at_46) rfl (Nat.le_of_eq rfl) rfl (fun v27 T27 L27 X27 hQ27 => ?_)
    obtain ⟨rfl, N27q, e27⟩ := hQ27
    have N27 := Fr.app N26 N27q
    show Go p e below _ _ T27 (mkF m 49 #[.val (.int x), .val (.int (3 : Int32)), .val (.ref kO), .val (.ref kO)] [(.int (1 : Int32)), (.int (1 : Int32))])
    refine g_icT X27 hx 54 (hb hby at_49) (by decide) (by decide) (by decide) ?_
    refine g_aloadN X27 hx 55 (hb hby at_54) rfl rfl rfl ?_
    refine g_callV X27 hx 58 hZ hown (own_w hw 8 rfl) (own_w hw 9 rfl) (own_w hw 11 rfl) (own_w hw 10 rfl) (own_w hw 6 rfl) (own_w hw 12 rfl) (by decide) kO E_kO [] [] (rm2 l Z a0 hw kO kC kO kQ kO (1 : Int32) h0 n0 Z0 S_kC S_kO S_kQ U_kO (by simp [own_sort, ne_kO])) e27 0 (by decide) (by decide) (by decide) (by decide) (by rw [hml]; rfl) (lenOf own_pd1 rfl) (hb hby at_55) rfl (Nat.le_of_eq rfl) rfl (fun v28 T28 L28 X28 hQ28 => ?_)
    obtain ⟨rfl, N28q, e28⟩ := hQ28
    have N28 := Fr.app N27 N28q
    show Go p e below _ _ T28 (mkF m 58 #[.val (.int x), .val (.int (3 : Int32)), .val (.ref kO), .val (.ref kO)] [(.ref kO)])
    refine g_aloadN X28 hx 59 (hb hby at_58) rfl rfl rfl ?_
    refine g_ac X28 hx 62 true (hb hby at_59) rfl rfl (decide_eq_true rfl) (by decide) (by decide) ?_
    refine g_iconst X28 hx 63 (1 : Int32) (hb hby at_62) (by decide) rfl ?_
    refine g_goto X28 hx 67 (hb hby at_63) (by decide) (by decide) ?_
    exact g_retZ X28 hx hret hlk rfl (hb hby at_67) (by decide) (by decide) ⟨rfl, N28⟩
  · refine g_istoreN X0 hx 7 #[.val (.int x), .val (.int (4 : Int32)), .unset, .unset] (hb hby at_6) rfl rfl ?_
    refine g_iloadN X0 hx 8 (hb hby at_7) rfl rfl ?_
    refine g_callS X0 hx 11 hZ hown (own_w hw 1 rfl) (own_w hw 2 rfl) (own_w hw 3 rfl) (own_w hw 4 rfl) (by decide) [(.int (4 : Int32))] [] (rm1_4 l Z a0 hw kS kB kQ kO kC h0 n0 Z0 S_kS S_kB S_kQ S_kO S_kC) e0 0 (by decide) (by decide) (by decide) (by decide) (by rw [hml]; rfl) (lenOf own_pd0 rfl) (hb hby at_8) rfl (Nat.le_of_eq rfl) rfl (fun v29 T29 L29 X29 hQ29 => ?_)
    obtain ⟨rfl, N29q, e29⟩ := hQ29
    have N29 := Fr.app N0 N29q
    show Go p e below _ _ T29 (mkF m 11 #[.val (.int x), .val (.int (4 : Int32)), .unset, .unset] [(.ref kC)])
    refine g_astoreN X29 hx 12 #[.val (.int x), .val (.int (4 : Int32)), .val (.ref kC), .unset] (hb hby at_11) rfl rfl rfl ?_
    refine g_aloadN X29 hx 13 (hb hby at_12) rfl rfl rfl ?_
    refine g_callV X29 hx 16 hZ hown (own_w hw 8 rfl) (own_w hw 9 rfl) (own_w hw 11 rfl) (own_w hw 10 rfl) (own_w hw 6 rfl) (own_w hw 12 rfl) (by decide) kC E_kC [] [] (rm2 l Z a0 hw kC kC kO kQ kC (0 : Int32) h0 n0 Z0 S_kC S_kO S_kQ U_kC (by simp [own_sort])) e29 0 (by decide) (by decide) (by decide) (by decide) (by rw [hml]; rfl) (lenOf own_pd1 rfl) (hb hby at_13) rfl (Nat.le_of_eq rfl) rfl (fun v30 T30 L30 X30 hQ30 => ?_)
    obtain ⟨rfl, N30q, e30⟩ := hQ30
    have N30 := Fr.app N29 N30q
    show Go p e below _ _ T30 (mkF m 16 #[.val (.int x), .val (.int (4 : Int32)), .val (.ref kC), .unset] [(.ref kC)])
    refine g_astoreN X30 hx 17 #[.val (.int x), .val (.int (4 : Int32)), .val (.ref kC), .val (.ref kC)] (hb hby at_16) rfl rfl rfl ?_
    refine g_aloadN X30 hx 18 (hb hby at_17) rfl rfl rfl ?_
    refine g_iloadN X30 hx 19 (hb hby at_18) rfl rfl ?_
    refine g_callS X30 hx 22 hZ hown (own_w hw 19 rfl) (own_w hw 20 rfl) (own_w hw 3 rfl) (own_w hw 21 rfl) (by decide) [(.int (4 : Int32))] [(.ref kC)] (rm3_4 l Z a0 hw kS kB kQ kO kC h0 n0 Z0 S_kS S_kB S_kQ S_kO S_kC) e30 1 (by decide) (by decide) (by decide) (by decide) (by rw [hml]; rfl) (lenOf own_pd0 rfl) (hb hby at_19) rfl (Nat.le_of_eq rfl) rfl (fun v31 T31 L31 X31 hQ31 => ?_)
    obtain ⟨rfl, N31q, e31⟩ := hQ31
    have N31 := Fr.app N30 N31q
    show Go p e below _ _ T31 (mkF m 22 #[.val (.int x), .val (.int (4 : Int32)), .val (.ref kC), .val (.ref kC)] [(.ref kC), (.ref kC)])
    refine g_ac X31 hx 27 true (hb hby at_22) rfl rfl (decide_eq_true rfl) (by decide) (by decide) ?_
    refine g_iloadN X31 hx 28 (hb hby at_27) rfl rfl ?_
    refine g_iconst X31 hx 29 (4 : Int32) (hb hby at_28) (by decide) rfl ?_
    refine g_icT X31 hx 54 (hb hby at_29) (by decide) (by decide) (by decide) ?_
    refine g_aloadN X31 hx 55 (hb hby at_54) rfl rfl rfl ?_
    refine g_callV X31 hx 58 hZ hown (own_w hw 8 rfl) (own_w hw 9 rfl) (own_w hw 11 rfl) (own_w hw 10 rfl) (own_w hw 6 rfl) (own_w hw 12 rfl) (by decide) kC E_kC [] [] (rm2 l Z a0 hw kC kC kO kQ kC (0 : Int32) h0 n0 Z0 S_kC S_kO S_kQ U_kC (by simp [own_sort])) e31 0 (by decide) (by decide) (by decide) (by decide) (by rw [hml]; rfl) (lenOf own_pd1 rfl) (hb hby at_55) rfl (Nat.le_of_eq rfl) rfl (fun v32 T32 L32 X32 hQ32 => ?_)
    obtain ⟨rfl, N32q, e32⟩ := hQ32
    have N32 := Fr.app N31 N32q
    show Go p e below _ _ T32 (mkF m 58 #[.val (.int x), .val (.int (4 : Int32)), .val (.ref kC), .val (.ref kC)] [(.ref kC)])
    refine g_aloadN X32 hx 59 (hb hby at_58) rfl rfl rfl ?_
    refine g_ac X32 hx 62 true (hb hby at_59) rfl rfl (decide_eq_true rfl) (by decide) (by decide) ?_
    refine g_iconst X32 hx 63 (1 : Int32) (hb hby at_62) (by decide) rfl ?_
    refine g_goto X32 hx 67 (hb hby at_63) (by decide) (by decide) ?_
    exact g_retZ X32 hx hret hlk rfl (hb hby at_67) (by decide) (by decide) ⟨rfl, N32⟩
set_option maxRecDepth 65536 in
set_option maxHeartbeats 40000000 in
theorem comes_1 {Post : Tables → Env → Array Value → State → Outcome → State → Prop} (hpost : ∀ tb e args s v u, (limb_1_1.after args s (.returned v) u = true ∧ limb_1_2.after args s (.returned v) u = true ∧ True) → FrameEnd s (.returned v) u (Jvm.fieldLocs frame_1_writes args s ++ Jvm.arrayLocs frame_1_arrays args s ++ Jvm.staticLocs frame_1_statics s) 0 0 → Post tb e args s (.returned v) u) :
    ArmFor flags0 classFile x code maxLocals ret World_1 tables_1 room_1 Calls_1 rest_1 Pre_1 Post := by
  intro l hfl _ _ p e ha hc hk s m args below hf hA hF happ hP
  obtain ⟨hcalls, hrest, hpre⟩ := hP
  obtain ⟨-, -, -, hnamed, -, -, -, hat⟩ := (Spec.applies_iff hf).mp happ
  obtain ⟨hg, hn⟩ := and_e (Cond.before_iff.mp (show (Jvm.Cond.and given_1 narrow_1).before args s = true from hpre))
  obtain ⟨ga1, gb1⟩ := and_e hg
  obtain ⟨w0, rfl⟩ : ∃ w0 : Value, args = #[w0] := by
    have hs : args.size = 1 := by simpa [Cond.value, given_1] using ga1
    obtain ⟨L⟩ := args
    match L, hs with
    | [w0], _ => exact ⟨w0, rfl⟩
  have hw := fun d (hd : d ∈ tables_1) => atoms_spec (ws := Jvm.Cond.code x code maxLocals ret :: tables_1) hat d (List.mem_cons_of_mem _ hd)
  have hfit : Fit s := fun {y c} hc i hi => by
    obtain ⟨ha, rfl⟩ := Array.getElem?_eq_some_iff.mp hc
    have q := List.all_eq_true.mp ((Array.all_eq_true_iff_forall_mem.mp hF) _ (Array.getElem_mem ha)) i (List.mem_range.mpr hi)
    simpa [Array.getElem?_eq_getElem hi] using q
  obtain ⟨i0, ei0⟩ := is_v gb1
  obtain rfl : w0 = (.int i0) := Option.some.inj ei0
  obtain ⟨na1, nb1⟩ := and_e hn
  obtain ⟨na2, nb2⟩ := and_e nb1
  obtain ⟨na3, nb3⟩ := and_e nb2
  obtain ⟨na4, nb4⟩ := and_e nb3
  obtain ⟨na5, nb5⟩ := and_e nb4
  obtain ⟨na6, nb6⟩ := and_e nb5
  obtain ⟨na7, nb7⟩ := and_e nb6
  obtain ⟨na8, nb8⟩ := and_e nb7
  obtain ⟨na9, nb9⟩ := and_e nb8
  obtain ⟨na10, nb10⟩ := and_e nb9
  obtain ⟨na11, nb11⟩ := and_e nb10
  obtain ⟨na12, nb12⟩ := and_e nb11
  obtain ⟨na13, nb13⟩ := and_e nb12
  obtain ⟨na14, nb14⟩ := and_e nb13
  obtain ⟨na15, nb15⟩ := and_e nb14
  obtain ⟨na16, nb16⟩ := and_e nb15
  obtain ⟨na17, nb17⟩ := and_e nb16
  obtain ⟨na18, nb18⟩ := and_e nb17
  obtain ⟨na19, nb19⟩ := and_e nb18
  obtain ⟨kS, e_kS⟩ := exa_v na1
  have S_kS : Sta s s.heap "com/example/oriel/oriel/ocl/CollectionKind" "SET" "Lcom/example/oriel/oriel/ocl/CollectionKind;" (.ref kS) := Sta.start e_kS (Or.inr ⟨own_w hw 6 rfl, own_w hw 7 rfl⟩)
  have E_kS := Exa.start e_kS na1
  have F_kS := own_fld na17 e_kS
  have U_kS := own_fld na5 e_kS
  have O_kS := own_fld na3 e_kS
  obtain ⟨kB, e_kB⟩ := exa_v na10
  have S_kB : Sta s s.heap "com/example/oriel/oriel/ocl/CollectionKind" "BAG" "Lcom/example/oriel/oriel/ocl/CollectionKind;" (.ref kB) := Sta.start e_kB (Or.inr ⟨own_w hw 6 rfl, own_w hw 36 rfl⟩)
  have E_kB := Exa.start e_kB na10
  have F_kB := own_fld nb19 e_kB
  have U_kB := own_fld na12 e_kB
  have O_kB := own_fld na11 e_kB
  obtain ⟨kQ, e_kQ⟩ := exa_v na13
  have S_kQ : Sta s s.heap "com/example/oriel/oriel/ocl/CollectionKind" "SEQUENCE" "Lcom/example/oriel/oriel/ocl/CollectionKind;" (.ref kQ) := Sta.start e_kQ (Or.inr ⟨own_w hw 6 rfl, own_w hw 38 rfl⟩)
  have E_kQ := Exa.start e_kQ na13
  have F_kQ := own_fld na14 e_kQ
  have U_kQ := own_fld na15 e_kQ
  have O_kQ := own_fld na16 e_kQ
  obtain ⟨kO, e_kO⟩ := exa_v na6
  have S_kO : Sta s s.heap "com/example/oriel/oriel/ocl/CollectionKind" "ORDERED_SET" "Lcom/example/oriel/oriel/ocl/CollectionKind;" (.ref kO) := Sta.start e_kO (Or.inr ⟨own_w hw 6 rfl, own_w hw 18 rfl⟩)
  have E_kO := Exa.start e_kO na6
  have F_kO := own_fld na7 e_kO
  have U_kO := own_fld na8 e_kO
  have O_kO := own_fld na9 e_kO
  obtain ⟨kC, e_kC⟩ := exa_v na2
  have S_kC : Sta s s.heap "com/example/oriel/oriel/ocl/CollectionKind" "COLLECTION" "Lcom/example/oriel/oriel/ocl/CollectionKind;" (.ref kC) := Sta.start e_kC (Or.inr ⟨own_w hw 6 rfl, own_w hw 14 rfl⟩)
  have E_kC := Exa.start e_kC na2
  have F_kC := own_fld na19 e_kC
  have U_kC := own_fld na18 e_kC
  have O_kC := own_fld na4 e_kC
  obtain ⟨n, o, h1, h2, h3, _, L, rfl, ⟨rfl, N⟩, hq⟩ := rm0 l s _ hw i0 kS kB kQ kO kC s.heap s.heap.size (Nat.le_refl _) S_kS S_kB S_kQ S_kO S_kC E_kS F_kS U_kS E_kB F_kB U_kB E_kQ F_kQ U_kQ E_kO F_kO U_kO E_kC F_kC U_kC (Fld.ne O_kS O_kC (by decide)) (Fld.ne O_kB O_kC (by decide)) (Fld.ne O_kQ O_kC (by decide)) (Fld.ne O_kO O_kC (by decide)) p e ha hc hk s m _ below hf ((Spec.applies_iff_loose hf).mp happ).1 ⟨rfl, State.Warmed39.refl s, rfl⟩ trivial
  refine ⟨n, _, h1, h2, h3, hpost _ _ _ _ _ _ ⟨Cond.after_iff.mpr rfl, Cond.after_iff.mpr (eq_i res_at (Term.int_eval (1)) rfl), trivial⟩ ⟨hq.1, hq.2.1, (hq.2.2.sift fun y hy => Or.inr (N y hy)).mono (by decide) (by decide)⟩⟩
theorem main_1_1 : Claimed_1_1 := comes_1 fun _ _ _ _ _ _ h hF => ⟨h.1, hF⟩
theorem main_1_2 : Claimed_1_2 := comes_1 fun _ _ _ _ _ _ h hF => ⟨h.2.1, hF⟩
end Jvm.Pilot.@@N@@
namespace Jvm.Pilot.@@N@@
open Jvm Jvm.ClassFile Sem Op Lib Jvm.Free Jvm.Stand Jvm.Pilot.@@N@@.Jvm.D
/-! MADE BY PROGRAM (witnessworld.py) out of the Statement's table words and the real class files: 12 classes; the members and pool entries that the words name. The judged class is class 1, her method 3. -/
namespace start1
open Jvm.ClassFile
def u (s : String) : CpInfo := .utf8 (stringToUtf16 s)
/-- a pool by its gaps: so many unusable entries, then the entry; so many at the end -/
def gap : Nat → List CpInfo → List CpInfo
  | 0, r => r
  | n + 1, r => .unusable :: gap n r
def poolList (es : List (Nat × CpInfo)) (last : Nat) : List CpInfo := es.foldr (fun e r => gap e.1 (e.2 :: r)) (gap last [])
def pool (es : List (Nat × CpInfo)) (last : Nat) : Array CpInfo := ⟨poolList es last⟩
def fileOf (pool : Array CpInfo) (this : Nat) (attrs : Array Attribute := #[]) (ms : Array MethodInfo := #[]) (fl : Nat := 33) (sup : Nat := 0) (ifs : Array Nat := #[]) (fds : Array FieldInfo := #[]) : ClassFile where
  minorVersion := 0
  majorVersion := 65
  constantPool := pool
  accessFlags := fl
  thisClass := this
  superClass := sup
  interfaces := ifs
  fields := fds
  methods := ms
  attributes := attrs
def plain (name : String) (sup : Option ClassId) : Class where
  name := name
  kind := .ordinary
  loader := none
  accessFlags := 33
  super := sup
  interfaces := #[]
  cf := none
  fields := #[]
  methods := #[]
  instanceTypes := #[]
  staticTypes := #[]
  resolved := #[]
  callSites := []
  init := .initialized
  statics := none
  mirror := none

def pool0 : Array CpInfo := pool [(5, u "<init>"), (0, u "()V"), (1, .class_ 10), (1, u "java/lang/Object")] 113

def k0m0 : Method := { name := "<init>", desc := "()V", sig := { parameters := [], returnType := none }, accessFlags := 1, code := none }
/-- java/lang/Object -/
def k0 : Class := { plain "java/lang/Object" none with
  accessFlags := 33
  interfaces := #[]
  cf := some (fileOf pool0 8 #[] #[{ accessFlags := 1, nameIndex := 5, descriptorIndex := 6, attributes := #[] }] 33 0 #[] #[])
  fields := #[]
  methods := #[k0m0]
  instanceTypes := #[]
  staticTypes := #[]
  resolved := Array.replicate 124 none
  statics := none }

def pool1 : Array CpInfo := pool [(2, .class_ 4), (1, u "java/lang/Object"), (0, u "<init>"), (0, u "()V"), (0, .fieldref 8 9), (0, .class_ 10), (0, .nameAndType 11 12), (0, u "com/example/oriel/oriel/ocl/CollectionKind"), (0, u "SET"), (0, u "Lcom/example/oriel/oriel/ocl/CollectionKind;"), (0, .fieldref 8 14), (0, .nameAndType 15 12), (0, u "BAG"), (0, .fieldref 8 17), (0, .nameAndType 18 12), (0, u "SEQUENCE"), (0, .fieldref 8 20), (0, .nameAndType 21 12), (0, u "ORDERED_SET"), (0, .fieldref 8 23), (0, .nameAndType 24 12), (0, u "COLLECTION"), (0, .integer 2147483647), (0, .methodref 27 28), (0, .class_ 29), (0, .nameAndType 30 31), (0, u "com/example/oriel/oriel/ocl/CollectionKindSortedPinLaw"), (0, u "pick"), (0, u "(I)Lcom/example/oriel/oriel/ocl/CollectionKind;"), (0, .methodref 8 33), (0, .nameAndType 34 35), (0, u "sorted"), (0, u "()Lcom/example/oriel/oriel/ocl/CollectionKind;"), (0, .methodref 27 37), (0, .nameAndType 38 31), (0, u "expected"), (0, .methodref 8 40), (0, .nameAndType 41 42), (0, u "isOrdered"), (0, u "()Z"), (0, .methodref 8 44), (0, .nameAndType 45 42), (0, u "isUnique"), (3, u "law"), (0, u "(I)Z")] 2

def k1m0 : Method := { name := "<init>", desc := "()V", sig := { parameters := [], returnType := none }, accessFlags := 1, code := none }
def k1c1 : Code := { maxStack := 2, maxLocals := 1, code := method_2_code, exceptionTable := #[], attributes := #[] }
def k1m1 : Method := { name := "pick", desc := "(I)Lcom/example/oriel/oriel/ocl/CollectionKind;", sig := { parameters := [.int], returnType := some (.object "com/example/oriel/oriel/ocl/CollectionKind") }, accessFlags := 10, code := some k1c1 }
def k1c2 : Code := { maxStack := 2, maxLocals := 1, code := method_3_code, exceptionTable := #[], attributes := #[] }
def k1m2 : Method := { name := "expected", desc := "(I)Lcom/example/oriel/oriel/ocl/CollectionKind;", sig := { parameters := [.int], returnType := some (.object "com/example/oriel/oriel/ocl/CollectionKind") }, accessFlags := 10, code := some k1c2 }
def k1c3 : Code := { maxStack := 2, maxLocals := 4, code := code, exceptionTable := #[], attributes := #[] }
def k1m3 : Method := { name := "law", desc := "(I)Z", sig := { parameters := [.int], returnType := some .boolean }, accessFlags := 9, code := some k1c3 }
/-- com/example/oriel/oriel/ocl/CollectionKindSortedPinLaw -/
def k1 : Class := { plain "com/example/oriel/oriel/ocl/CollectionKindSortedPinLaw" (some 0) with
  accessFlags := 49
  interfaces := #[]
  cf := some (fileOf pool1 27 #[] #[{ accessFlags := 1, nameIndex := 5, descriptorIndex := 6, attributes := #[] }, { accessFlags := 10, nameIndex := 30, descriptorIndex := 31, attributes := #[] }, { accessFlags := 10, nameIndex := 38, descriptorIndex := 31, attributes := #[] }, { accessFlags := 9, nameIndex := 49, descriptorIndex := 50, attributes := #[] }] 49 2 #[] #[])
  fields := #[]
  methods := #[k1m0, k1m1, k1m2, k1m3]
  instanceTypes := #[]
  staticTypes := #[]
  resolved := Array.replicate 53 none
  statics := none }

def pool2 : Array CpInfo := pool [(1, .class_ 2), (0, u "java/lang/constant/Constable"), (0, .class_ 4), (0, u "java/lang/Object")] 6

/-- java/lang/constant/Constable -/
def k2 : Class := { plain "java/lang/constant/Constable" (some 0) with
  accessFlags := 1537
  interfaces := #[]
  cf := some (fileOf pool2 1 #[] #[] 1537 3 #[] #[])
  fields := #[]
  methods := #[]
  instanceTypes := #[]
  staticTypes := #[]
  resolved := Array.replicate 11 none
  statics := none }

def pool3 : Array CpInfo := pool [(1, .class_ 2), (0, u "java/lang/Comparable"), (0, .class_ 4), (0, u "java/lang/Object")] 7

/-- java/lang/Comparable -/
def k3 : Class := { plain "java/lang/Comparable" (some 0) with
  accessFlags := 1537
  interfaces := #[]
  cf := some (fileOf pool3 1 #[] #[] 1537 3 #[] #[])
  fields := #[]
  methods := #[]
  instanceTypes := #[]
  staticTypes := #[]
  resolved := Array.replicate 12 none
  statics := none }

def pool4 : Array CpInfo := pool [(1, .class_ 2), (0, u "java/io/Serializable"), (0, .class_ 4), (0, u "java/lang/Object")] 2

/-- java/io/Serializable -/
def k4 : Class := { plain "java/io/Serializable" (some 0) with
  accessFlags := 1537
  interfaces := #[]
  cf := some (fileOf pool4 1 #[] #[] 1537 3 #[] #[])
  fields := #[]
  methods := #[]
  instanceTypes := #[]
  staticTypes := #[]
  resolved := Array.replicate 7 none
  statics := none }

def pool5 : Array CpInfo := pool [(2, .class_ 4), (1, u "java/lang/Enum"), (0, u "name"), (0, u "Ljava/lang/String;"), (2, u "ordinal"), (0, u "I"), (1, .class_ 14), (1, u "java/lang/Object"), (4, u "hash"), (86, .class_ 108), (1, u "java/lang/Enum$EnumDesc"), (2, .class_ 112), (0, u "java/lang/constant/Constable"), (0, .class_ 114), (0, u "java/lang/Comparable"), (0, .class_ 116), (0, u "java/io/Serializable")] 87

/-- java/lang/Enum -/
def k5 : Class := { plain "java/lang/Enum" (some 0) with
  accessFlags := 1057
  interfaces := #[2, 3, 4]
  cf := some (fileOf pool5 2 #[.nestMembers #[106]] #[] 1057 12 #[111, 113, 115] #[{ accessFlags := 18, nameIndex := 5, descriptorIndex := 6, attributes := #[] }, { accessFlags := 18, nameIndex := 9, descriptorIndex := 10, attributes := #[] }, { accessFlags := 2, nameIndex := 19, descriptorIndex := 10, attributes := #[] }])
  fields := #[{ name := "name", type := (.object "java/lang/String"), accessFlags := 18, slot := 0, constantValue := 0 }, { name := "ordinal", type := .int, accessFlags := 18, slot := 1, constantValue := 0 }, { name := "hash", type := .int, accessFlags := 2, slot := 2, constantValue := 0 }]
  methods := #[]
  instanceTypes := #[(.object "java/lang/String"), .int, .int]
  staticTypes := #[]
  resolved := Array.replicate 204 none
  statics := none }

def pool6 : Array CpInfo := pool [(1, .class_ 2), (0, u "com/example/oriel/oriel/ocl/CollectionKind"), (2, u "SET"), (0, u "Lcom/example/oriel/oriel/ocl/CollectionKind;"), (2, u "BAG"), (0, .fieldref 1 11), (0, .nameAndType 12 6), (0, u "SEQUENCE"), (0, .fieldref 1 14), (0, .nameAndType 15 6), (0, u "ORDERED_SET"), (0, .fieldref 1 17), (0, .nameAndType 18 6), (0, u "COLLECTION"), (2, u "$VALUES"), (0, u "[Lcom/example/oriel/oriel/ocl/CollectionKind;"), (6, .class_ 31), (1, u "java/lang/Enum"), (8, u "name"), (0, u "Ljava/lang/String;"), (0, .fieldref 1 43), (0, .nameAndType 44 45), (0, u "ordered"), (0, u "Z"), (0, .fieldref 1 47), (0, .nameAndType 48 45), (0, u "unique"), (23, u "()Z"), (2, u "isOrdered"), (31, u "isUnique"), (5, u "()Lcom/example/oriel/oriel/ocl/CollectionKind;"), (0, u "sorted")] 7

def k6c0 : Code := { maxStack := 1, maxLocals := 1, code := prog_34_method_5_code, exceptionTable := #[], attributes := #[] }
def k6m0 : Method := { name := "isOrdered", desc := "()Z", sig := { parameters := [], returnType := some .boolean }, accessFlags := 1, code := some k6c0 }
def k6c1 : Code := { maxStack := 1, maxLocals := 1, code := prog_34_method_6_code, exceptionTable := #[], attributes := #[] }
def k6m1 : Method := { name := "isUnique", desc := "()Z", sig := { parameters := [], returnType := some .boolean }, accessFlags := 1, code := some k6c1 }
def k6c2 : Code := { maxStack := 2, maxLocals := 1, code := prog_34_method_10_code, exceptionTable := #[], attributes := #[] }
def k6m2 : Method := { name := "sorted", desc := "()Lcom/example/oriel/oriel/ocl/CollectionKind;", sig := { parameters := [], returnType := some (.object "com/example/oriel/oriel/ocl/CollectionKind") }, accessFlags := 0, code := some k6c2 }
/-- com/example/oriel/oriel/ocl/CollectionKind -/
def k6 : Class := { plain "com/example/oriel/oriel/ocl/CollectionKind" (some 5) with
  accessFlags := 16433
  interfaces := #[]
  cf := some (fileOf pool6 1 #[] #[{ accessFlags := 1, nameIndex := 75, descriptorIndex := 72, attributes := #[] }, { accessFlags := 1, nameIndex := 107, descriptorIndex := 72, attributes := #[] }, { accessFlags := 0, nameIndex := 114, descriptorIndex := 113, attributes := #[] }] 16433 29 #[] #[{ accessFlags := 16409, nameIndex := 5, descriptorIndex := 6, attributes := #[] }, { accessFlags := 16409, nameIndex := 9, descriptorIndex := 6, attributes := #[] }, { accessFlags := 16409, nameIndex := 12, descriptorIndex := 6, attributes := #[] }, { accessFlags := 16409, nameIndex := 15, descriptorIndex := 6, attributes := #[] }, { accessFlags := 16409, nameIndex := 18, descriptorIndex := 6, attributes := #[] }, { accessFlags := 18, nameIndex := 40, descriptorIndex := 41, attributes := #[] }, { accessFlags := 18, nameIndex := 44, descriptorIndex := 45, attributes := #[] }, { accessFlags := 18, nameIndex := 48, descriptorIndex := 45, attributes := #[] }, { accessFlags := 4122, nameIndex := 21, descriptorIndex := 22, attributes := #[] }])
  fields := #[{ name := "SET", type := (.object "com/example/oriel/oriel/ocl/CollectionKind"), accessFlags := 16409, slot := 0, constantValue := 0 }, { name := "BAG", type := (.object "com/example/oriel/oriel/ocl/CollectionKind"), accessFlags := 16409, slot := 1, constantValue := 0 }, { name := "SEQUENCE", type := (.object "com/example/oriel/oriel/ocl/CollectionKind"), accessFlags := 16409, slot := 2, constantValue := 0 }, { name := "ORDERED_SET", type := (.object "com/example/oriel/oriel/ocl/CollectionKind"), accessFlags := 16409, slot := 3, constantValue := 0 }, { name := "COLLECTION", type := (.object "com/example/oriel/oriel/ocl/CollectionKind"), accessFlags := 16409, slot := 4, constantValue := 0 }, { name := "name", type := (.object "java/lang/String"), accessFlags := 18, slot := 3, constantValue := 0 }, { name := "ordered", type := .boolean, accessFlags := 18, slot := 4, constantValue := 0 }, { name := "unique", type := .boolean, accessFlags := 18, slot := 5, constantValue := 0 }, { name := "$VALUES", type := (.array (.object "com/example/oriel/oriel/ocl/CollectionKind")), accessFlags := 4122, slot := 5, constantValue := 0 }]
  methods := #[k6m0, k6m1, k6m2]
  instanceTypes := #[(.object "java/lang/String"), .int, .int, (.object "java/lang/String"), .boolean, .boolean]
  staticTypes := #[(.object "com/example/oriel/oriel/ocl/CollectionKind"), (.object "com/example/oriel/oriel/ocl/CollectionKind"), (.object "com/example/oriel/oriel/ocl/CollectionKind"), (.object "com/example/oriel/oriel/ocl/CollectionKind"), (.object "com/example/oriel/oriel/ocl/CollectionKind"), (.array (.object "com/example/oriel/oriel/ocl/CollectionKind"))]
  resolved := Array.replicate 122 none
  statics := some 0 }

def pool7 : Array CpInfo := pool [(1, u "java/lang/Cloneable"), (0, .class_ 1), (0, u "java/lang/Object"), (0, .class_ 3)] 3

/-- java/lang/Cloneable -/
def k7 : Class := { plain "java/lang/Cloneable" (some 0) with
  accessFlags := 1537
  interfaces := #[]
  cf := some (fileOf pool7 2 #[] #[] 1537 4 #[] #[])
  fields := #[]
  methods := #[]
  instanceTypes := #[]
  staticTypes := #[]
  resolved := Array.replicate 8 none
  statics := none }

/-- the primitive byte -/
def k8 : Class := { plain "byte" none with kind := .primitive 'B', accessFlags := 0x411 }
/-- [B -/
def k9 : Class := { plain "[B" (some 0) with kind := .array 8 .byte, interfaces := #[7, 4], accessFlags := 1041 }

/-- the primitive int -/
def k10 : Class := { plain "int" none with kind := .primitive 'I', accessFlags := 0x411 }
/-- [I -/
def k11 : Class := { plain "[I" (some 0) with kind := .array 10 .int, interfaces := #[7, 4], accessFlags := 1041 }

def heap : Heap := #[{ cls := 6, slots := #[.ref 1, .ref 2, .ref 3, .ref 4, .ref 5, .null], vm := .statics 6 },
  { cls := 6, slots := #[.null, .int 0, .int 0, .null, .int 0, .int 1], vm := .none },
  { cls := 6, slots := #[.null, .int 1, .int 0, .null, .int 0, .int 0], vm := .none },
  { cls := 6, slots := #[.null, .int 2, .int 0, .null, .int 1, .int 0], vm := .none },
  { cls := 6, slots := #[.null, .int 3, .int 0, .null, .int 1, .int 1], vm := .none },
  { cls := 6, slots := #[.null, .int 4, .int 0, .null, .int 0, .int 0], vm := .none }]
def classes : Array Class := #[k0, k1, k2, k3, k4, k5, k6, k7, k8, k9, k10, k11]
def interned : List (Array UInt16 × Addr) := []
def slotsUsed : Nat := 36
def theMethod : MethodId := ⟨1, 3⟩
def args0 : Array Value := #[.int 5]
def aboutOver (below : List Frame) : State where
  vm := { classes := classes, interned := interned.toArray }
  heap := heap
  slotsUsed := slotsUsed
  threads := #[{ frames := .invoking theMethod args0 :: below }]
def below0 : List Frame := [.native { method := ⟨0, 0⟩, args := #[] }]
def about1 : State := aboutOver below0
def p0 : Program := .bare "" "" ""
def e0 : Env := launch0.env 0 0 0
theorem w_frames : about1.frames = Frame.invoking theMethod args0 :: below0 := rfl
set_option maxRecDepth 65536 in
theorem w_args : argsFit about1.vm theMethod args0 = true := by decide +kernel
set_option maxRecDepth 65536 in
theorem w_heap : heapFits about1 = true := by decide +kernel
set_option maxRecDepth 65536 in
theorem w_runnable : about1.curStatus? = some .runnable := by decide +kernel
set_option maxRecDepth 65536 in
theorem w_alone : about1.alone = true := by decide +kernel
set_option maxRecDepth 65536 in
theorem w_named : about1.methodNamed? x = some theMethod := by decide +kernel
set_option maxRecDepth 65536 in
theorem w_hears : about1.hears theMethod below0 = true := by decide +kernel
set_option maxRecDepth 65536 in
theorem w_ripe : about1.ripe theMethod args0 below0 = true := by decide +kernel
theorem w_running : about1.status = .running := rfl
set_option maxRecDepth 65536 in
theorem w_room : about1.hasRoom e0.platform room_1 = true :=
  launch0.hasRoom_least _ room_1 (by decide +kernel) (by decide +kernel) (by decide +kernel) (by decide +kernel) (by decide +kernel) (by decide +kernel)
theorem allAtoms_all (ts : List Jvm.Cond) (a : Array Jvm.Value) (st : Jvm.State) : (allAtoms ts).before a st = ts.all (fun c => c.before a st) := by
  induction ts with
  | nil => rfl
  | cons c t ih =>
    show (Jvm.Cond.and c (allAtoms t)).before a st = _
    rw [Jvm.Cond.before_and, ih, List.all_cons]
def words1 : List Jvm.Cond := Jvm.Cond.code x code maxLocals ret :: tables_1
/-- a 'code' word, met by the world's own term for the bytes: nothing is compared byte by byte -/
theorem code_word {y : MethodName} {bytes : ByteArray} {mx : Nat} {rt : Option FieldType} {a : Array Value} {s : State} {m : MethodId} {meth : Method} {c : Code} (h1 : s.methodNamed? y = some m) (h2 : s.vm.method? m = some meth) (h3 : meth.code = some c) (h4 : c.code = bytes)
    (h5 : (c.maxLocals == mx && c.exceptionTable.isEmpty && decide (c.maxStack ≤ mostOperands) && decide (meth.sig.returnType = rt) && !meth.locks && decide (parseMethodDescriptor y.desc = some meth.sig)) = true) : (Jvm.Cond.code y bytes mx rt).before a s = true := by
  simp only [Bool.and_eq_true, beq_iff_eq, Bool.not_eq_true', decide_eq_true_eq] at h5
  obtain ⟨⟨⟨⟨⟨g1, g2⟩, g3⟩, g4⟩, g5⟩, g6⟩ := h5
  simp [Cond.before, Cond.holds, Cond.value, h1, h2, h3, h4, g1, g2, g3, g4, g5, g6]
def isCode : Jvm.Cond → Bool
  | .code _ _ _ _ => true
  | _ => false
theorem all_split {L : List Jvm.Cond} {P : Jvm.Cond → Bool} (h1 : L.all (fun c => isCode c || P c) = true) (h2 : ∀ c ∈ L.filter isCode, P c = true) : L.all P = true := by
  refine List.all_eq_true.mpr fun c hc => ?_
  have h := List.all_eq_true.mp h1 c hc
  rcases Bool.eq_false_or_eq_true (isCode c) with hi | hi
  · exact h2 c (List.mem_filter.mpr ⟨hc, hi⟩)
  · simpa [hi] using h
set_option maxRecDepth 65536 in
theorem w_c0 : (Jvm.Cond.code x code maxLocals ret).before args0 about1 = true := code_word (m := ⟨1, 3⟩) (meth := k1m3) (c := k1c3) (by decide +kernel) rfl rfl rfl (by decide +kernel)
set_option maxRecDepth 65536 in
theorem w_c1 : (Jvm.Cond.code ({ cls := "com/example/oriel/oriel/ocl/CollectionKindSortedPinLaw", name := "pick", desc := "(I)Lcom/example/oriel/oriel/ocl/CollectionKind;" } : Jvm.MethodName) method_2_code (1 : Nat) (Option.some (Jvm.ClassFile.FieldType.object "com/example/oriel/oriel/ocl/CollectionKind"))).before args0 about1 = true := code_word (m := ⟨1, 1⟩) (meth := k1m1) (c := k1c1) (by decide +kernel) rfl rfl rfl (by decide +kernel)
set_option maxRecDepth 65536 in
theorem w_c2 : (Jvm.Cond.code ({ cls := "com/example/oriel/oriel/ocl/CollectionKind", name := "sorted", desc := "()Lcom/example/oriel/oriel/ocl/CollectionKind;" } : Jvm.MethodName) prog_34_method_10_code (1 : Nat) (Option.some (Jvm.ClassFile.FieldType.object "com/example/oriel/oriel/ocl/CollectionKind"))).before args0 about1 = true := code_word (m := ⟨6, 2⟩) (meth := k6m2) (c := k6c2) (by decide +kernel) rfl rfl rfl (by decide +kernel)
set_option maxRecDepth 65536 in
theorem w_c3 : (Jvm.Cond.code ({ cls := "com/example/oriel/oriel/ocl/CollectionKindSortedPinLaw", name := "expected", desc := "(I)Lcom/example/oriel/oriel/ocl/CollectionKind;" } : Jvm.MethodName) method_3_code (1 : Nat) (Option.some (Jvm.ClassFile.FieldType.object "com/example/oriel/oriel/ocl/CollectionKind"))).before args0 about1 = true := code_word (m := ⟨1, 2⟩) (meth := k1m2) (c := k1c2) (by decide +kernel) rfl rfl rfl (by decide +kernel)
set_option maxRecDepth 65536 in
theorem w_c4 : (Jvm.Cond.code ({ cls := "com/example/oriel/oriel/ocl/CollectionKind", name := "isOrdered", desc := "()Z" } : Jvm.MethodName) prog_34_method_5_code (1 : Nat) (Option.some Jvm.ClassFile.FieldType.boolean)).before args0 about1 = true := code_word (m := ⟨6, 0⟩) (meth := k6m0) (c := k6c0) (by decide +kernel) rfl rfl rfl (by decide +kernel)
set_option maxRecDepth 65536 in
theorem w_c5 : (Jvm.Cond.code ({ cls := "com/example/oriel/oriel/ocl/CollectionKind", name := "isUnique", desc := "()Z" } : Jvm.MethodName) prog_34_method_6_code (1 : Nat) (Option.some Jvm.ClassFile.FieldType.boolean)).before args0 about1 = true := code_word (m := ⟨6, 1⟩) (meth := k6m1) (c := k6c1) (by decide +kernel) rfl rfl rfl (by decide +kernel)
def codes1 : List Jvm.Cond := [Jvm.Cond.code x code maxLocals ret, Jvm.Cond.code ({ cls := "com/example/oriel/oriel/ocl/CollectionKindSortedPinLaw", name := "pick", desc := "(I)Lcom/example/oriel/oriel/ocl/CollectionKind;" } : Jvm.MethodName) method_2_code (1 : Nat) (Option.some (Jvm.ClassFile.FieldType.object "com/example/oriel/oriel/ocl/CollectionKind")), Jvm.Cond.code ({ cls := "com/example/oriel/oriel/ocl/CollectionKind", name := "sorted", desc := "()Lcom/example/oriel/oriel/ocl/CollectionKind;" } : Jvm.MethodName) prog_34_method_10_code (1 : Nat) (Option.some (Jvm.ClassFile.FieldType.object "com/example/oriel/oriel/ocl/CollectionKind")), Jvm.Cond.code ({ cls := "com/example/oriel/oriel/ocl/CollectionKindSortedPinLaw", name := "expected", desc := "(I)Lcom/example/oriel/oriel/ocl/CollectionKind;" } : Jvm.MethodName) method_3_code (1 : Nat) (Option.some (Jvm.ClassFile.FieldType.object "com/example/oriel/oriel/ocl/CollectionKind")), Jvm.Cond.code ({ cls := "com/example/oriel/oriel/ocl/CollectionKind", name := "isOrdered", desc := "()Z" } : Jvm.MethodName) prog_34_method_5_code (1 : Nat) (Option.some Jvm.ClassFile.FieldType.boolean), Jvm.Cond.code ({ cls := "com/example/oriel/oriel/ocl/CollectionKind", name := "isUnique", desc := "()Z" } : Jvm.MethodName) prog_34_method_6_code (1 : Nat) (Option.some Jvm.ClassFile.FieldType.boolean)]
set_option maxRecDepth 65536 in
theorem codes_eq : words1.filter isCode = codes1 := rfl
theorem w_codes : ∀ c ∈ words1.filter isCode, c.before args0 about1 = true := by
  rw [codes_eq]
  intro c hc
  simp only [codes1, List.mem_cons, List.not_mem_nil, or_false] at hc
  rcases hc with rfl | rfl | rfl | rfl | rfl | rfl
  · exact w_c0
  · exact w_c1
  · exact w_c2
  · exact w_c3
  · exact w_c4
  · exact w_c5
set_option maxRecDepth 65536 in
theorem w_t1 : (words1.take 24).all (fun c => isCode c || c.before args0 about1) = true := by decide +kernel
set_option maxRecDepth 65536 in
theorem w_t2 : (words1.drop 24).all (fun c => isCode c || c.before args0 about1) = true := by decide +kernel
theorem w_tables : (allAtoms (Jvm.Cond.code x code maxLocals ret :: tables_1)).before args0 about1 = true := by
  rw [allAtoms_all]
  show words1.all (fun c => c.before args0 about1) = true
  refine all_split ?_ w_codes
  rw [← List.take_append_drop 24 words1, List.all_append, w_t1, w_t2]
  rfl
set_option maxRecDepth 65536 in
theorem w_case : (Jvm.Cond.and given_1 narrow_1).before args0 about1 = true := by decide +kernel
theorem w_applies : (headSpec (Jvm.Cond.code x code maxLocals ret :: tables_1) room_1).applies x e0.platform about1 = true :=
  (Spec.applies_iff w_frames).mpr ⟨w_running, w_runnable, w_alone, w_named, w_hears, w_ripe, w_room, w_tables⟩
theorem atStart : AtStart classFile x code maxLocals ret World_1 tables_1 room_1 Calls_1 rest_1 Pre_1 launch0 p0 e0 about1 theMethod args0 below0 :=
  ⟨lists_1, trivial, launch0.admits_env _ _ _, launch0.least_env, fairChoices_fair.cas, fairChoices_fair.clock, w_frames, w_args, w_heap, w_applies, trivial, trivial, w_case⟩
end start1
theorem witness_1 : WitnessClaimed_1 := ⟨start1.p0, start1.e0, start1.about1, start1.theMethod, start1.args0, start1.below0, start1.atStart⟩
end Jvm.Pilot.@@N@@
