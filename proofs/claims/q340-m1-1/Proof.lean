import JvmDerived
import JvmDerived.Pilot.@@N@@Statement
import JvmDerived.Pilot.@@N@@Code
set_option linter.unusedVariables false
set_option linter.unusedSimpArgs false
namespace Jvm.Pilot.@@N@@
open Jvm Jvm.ClassFile Sem Op Lib Jvm.Free Jvm.Stand Jvm.LawKit Jvm.RoadKit Bundle Jvm.Pilot.@@N@@.Jvm.D
section OwnKit
variable {p : Program} {l : Launch} {e : Env} {R : Room} {s : State} {m : MethodId} {args : Array Value} {below : List Frame} {meth : Method} {c : Code} {T : State} {locs : List Loc} {cells slots : Nat} {Z : State} {a0 : Array Value} {h : Heap} {pc : Nat} {Ls : Array Slot} {S : List Value} {Q : Option Value → Heap → List Loc → Prop} {K J : Nat} {Fn : Outcome → State → List Loc → Prop}
/-- from here the body comes to its return, and then Q holds -/
def Go (p : Program) (e : Env) (below : List Frame) (Fn : Outcome → State → List Loc → Prop) (Q : Option Value → Heap → List Loc → Prop) (T : State) (g : JFrame) : Prop :=
  ∃ s₂ o, Steps p.tables e below (T.setTop g) s₂ ∧ s₂.status = .running ∧ Ended s₂ below o ∧ ∃ v L, o = .returned v ∧ Q v s₂.heap L ∧ Fn o s₂ L
theorem Go.st {T' : State} {g g' : JFrame} (st : ∀ t, Steps p.tables e below (T'.setTop g') t → Steps p.tables e below (T.setTop g) t) (k : Go p e below Fn Q T' g') : Go p e below Fn Q T g := by
  obtain ⟨s2, o, h1, h2⟩ := k
  exact ⟨s2, o, st _ h1, h2⟩
theorem own_w {d : Jvm.Cond} (hw : ∀ d ∈ tables_1, d.before a0 Z = true) (i : Nat) (h : tables_1[i]? = some d) : d.before a0 Z = true := hw _ (List.mem_of_getElem? h)
/-- a body's contract, at the heap h0 -/
def OwnMet (l : Launch) (Z : State) (y : MethodName) (bytes : ByteArray) (maxL : Nat) (ret : Option FieldType) (ws : List Jvm.Cond) (rm : Room) (as' : List Value) (h0 : Heap) (Qc : Option Value → Heap → List Loc → Prop) : Prop :=
  MetFree l y (head1 (Jvm.Cond.code y bytes maxL ret :: ws) rm) (fun a U => a = as'.toArray ∧ Z.Warmed39 U.vm ∧ U.heap = h0) (fun _ _ _ _ _ => True) (fun _ U o U' => ∃ v L, o = .returned v ∧ Qc v U'.heap L ∧ FrameEnd U o U' L rm.cells rm.slots)
theorem own_body {y : MethodName} {bytes : ByteArray} {maxL : Nat} {ret : Option FieldType} {ws : List Jvm.Cond} {rm : Room} {as' : List Value} {h0 : Heap} {Qc : Option Value → Heap → List Loc → Prop} {Ls : Array Slot} (hpl : plainFor y = true) (hef : ∀ m, entryFrame m as'.toArray maxL = mkF m 0 Ls [])
    (k : ∀ (p : Program) (e : Env) (s : State) (m : MethodId) (below : List Frame) (meth : Method) (c : Code) (T : State), p.tables.exec = Jvm.exec → c.code = bytes → c.maxLocals = maxL → s.vm.findClass y.cls = some m.cls → meth.name = y.name → meth.sig.returnType = ret → meth.locks = false → Z.Warmed39 s.vm → Stand p l e rm s m as'.toArray below meth c T [] 0 0 → T.heap = h0 → Go p e below (fun o t L => FrameEnd s o t L rm.cells rm.slots) Qc T (mkF m 0 Ls [])) : OwnMet l Z y bytes maxL ret ws rm as' h0 Qc := by
  refine MetFree.of_bodySF hpl hisR ?_
  intro p e s m args below meth c s₁ Bd hml0 hP hK
  obtain ⟨rfl, hZ, hh⟩ := hP
  have e0 : s₁.heap = h0 := by rw [← hh, Bd.state]; rfl
  have g := k p e s m below meth c s₁ Bd.exec Bd.bytes hml0 (findClass_of_methodNamed Bd.named) (name_of_methodNamed Bd.named Bd.method).1 Bd.returns (BodyLoose.notSynchronized Bd) hZ (Stand.of_body Bd) e0
  rw [hef]
  exact g
theorem Go.mono {Q' : Option Value → Heap → List Loc → Prop} {g : JFrame} (k : Go p e below Fn Q' T g) (hq : ∀ v h L, Q' v h L → Q v h L) : Go p e below Fn Q T g := by
  obtain ⟨s2, o, h1, h2, h3, v, L, h4, h5, h6⟩ := k
  exact ⟨s2, o, h1, h2, h3, v, L, h4, hq _ _ _ h5, h6⟩

theorem g_iloadN (X : Stand p l e R s m args below meth c T locs cells slots) (hx : p.tables.exec = Jvm.exec) (q : Nat) {k : Fin 4} {v : Int32} (hd : decode c.code pc = .ok (.iload_n k, 1)) (hl : Ls[k.val]? = some (.val (.int v))) (hq : pc + 1 = q) (k : Go p e below Fn Q T (mkF m q Ls (.int v :: S))) : Go p e below Fn Q T (mkF m pc Ls (S)) := by
  subst hq; exact k.st fun _ z => XS.iloadN X.here hx rfl hd hl z
theorem g_iload (X : Stand p l e R s m args below meth c T locs cells slots) (hx : p.tables.exec = Jvm.exec) (q : Nat) {k : Nat} {v : Int32} (hd : decode c.code pc = .ok (.iload k, 2)) (hl : Ls[k]? = some (.val (.int v))) (hq : pc + 2 = q) (k : Go p e below Fn Q T (mkF m q Ls (.int v :: S))) : Go p e below Fn Q T (mkF m pc Ls (S)) := by
  subst hq; exact k.st fun _ z => XS.iload X.here hx rfl hd hl z
theorem g_istoreN (X : Stand p l e R s m args below meth c T locs cells slots) (hx : p.tables.exec = Jvm.exec) (q : Nat) {k : Fin 4} {v : Int32} (l' : Array Slot) (hd : decode c.code pc = .ok (.istore_n k, 1)) (hl : storeLocals Ls k.val (.int v) = some l') (hq : pc + 1 = q) (k : Go p e below Fn Q T (mkF m q l' (S))) : Go p e below Fn Q T (mkF m pc Ls (.int v :: S)) := by
  subst hq; exact k.st fun _ z => XS.istoreN X.here hx rfl hd rfl hl z
theorem g_istore (X : Stand p l e R s m args below meth c T locs cells slots) (hx : p.tables.exec = Jvm.exec) (q : Nat) {k : Nat} {v : Int32} (l' : Array Slot) (hd : decode c.code pc = .ok (.istore k, 2)) (hl : storeLocals Ls k (.int v) = some l') (hq : pc + 2 = q) (k : Go p e below Fn Q T (mkF m q l' (S))) : Go p e below Fn Q T (mkF m pc Ls (.int v :: S)) := by
  subst hq; exact k.st fun _ z => XS.istore X.here hx rfl hd rfl hl z
theorem g_lloadN (X : Stand p l e R s m args below meth c T locs cells slots) (hx : p.tables.exec = Jvm.exec) (q : Nat) {k : Fin 4} {v : Int64} (hd : decode c.code pc = .ok (.lload_n k, 1)) (hl : Ls[k.val]? = some (.val (.long v))) (hq : pc + 1 = q) (k : Go p e below Fn Q T (mkF m q Ls (.long v :: S))) : Go p e below Fn Q T (mkF m pc Ls (S)) := by
  subst hq; exact k.st fun _ z => XS.lloadN X.here hx rfl hd hl z
theorem g_lload (X : Stand p l e R s m args below meth c T locs cells slots) (hx : p.tables.exec = Jvm.exec) (q : Nat) {k : Nat} {v : Int64} (hd : decode c.code pc = .ok (.lload k, 2)) (hl : Ls[k]? = some (.val (.long v))) (hq : pc + 2 = q) (k : Go p e below Fn Q T (mkF m q Ls (.long v :: S))) : Go p e below Fn Q T (mkF m pc Ls (S)) := by
  subst hq; exact k.st fun _ z => XS.lload X.here hx rfl hd hl z
theorem g_lstoreN (X : Stand p l e R s m args below meth c T locs cells slots) (hx : p.tables.exec = Jvm.exec) (q : Nat) {k : Fin 4} {v : Int64} (l' : Array Slot) (hd : decode c.code pc = .ok (.lstore_n k, 1)) (hl : storeLocals Ls k.val (.long v) = some l') (hq : pc + 1 = q) (k : Go p e below Fn Q T (mkF m q l' (S))) : Go p e below Fn Q T (mkF m pc Ls (.long v :: S)) := by
  subst hq; exact k.st fun _ z => XS.lstoreN X.here hx rfl hd rfl hl z
theorem g_lstore (X : Stand p l e R s m args below meth c T locs cells slots) (hx : p.tables.exec = Jvm.exec) (q : Nat) {k : Nat} {v : Int64} (l' : Array Slot) (hd : decode c.code pc = .ok (.lstore k, 2)) (hl : storeLocals Ls k (.long v) = some l') (hq : pc + 2 = q) (k : Go p e below Fn Q T (mkF m q l' (S))) : Go p e below Fn Q T (mkF m pc Ls (.long v :: S)) := by
  subst hq; exact k.st fun _ z => XS.lstore X.here hx rfl hd rfl hl z
theorem g_aloadN (X : Stand p l e R s m args below meth c T locs cells slots) (hx : p.tables.exec = Jvm.exec) (q : Nat) {k : Fin 4} {v : Value} (hd : decode c.code pc = .ok (.aload_n k, 1)) (hl : Ls[k.val]? = some (.val v)) (hv : v.isRef = true) (hq : pc + 1 = q) (k : Go p e below Fn Q T (mkF m q Ls (v :: S))) : Go p e below Fn Q T (mkF m pc Ls (S)) := by
  subst hq; exact k.st fun _ z => XS.aloadN X.here hx rfl hd hl hv z
theorem g_aload (X : Stand p l e R s m args below meth c T locs cells slots) (hx : p.tables.exec = Jvm.exec) (q : Nat) {k : Nat} {v : Value} (hd : decode c.code pc = .ok (.aload k, 2)) (hl : Ls[k]? = some (.val v)) (hv : v.isRef = true) (hq : pc + 2 = q) (k : Go p e below Fn Q T (mkF m q Ls (v :: S))) : Go p e below Fn Q T (mkF m pc Ls (S)) := by
  subst hq; exact k.st fun _ z => XS.aload X.here hx rfl hd hl hv z
theorem g_astoreN (X : Stand p l e R s m args below meth c T locs cells slots) (hx : p.tables.exec = Jvm.exec) (q : Nat) {k : Fin 4} {v : Value} (l' : Array Slot) (hd : decode c.code pc = .ok (.astore_n k, 1)) (hv : v.isRef = true) (hl : storeLocals Ls k.val v = some l') (hq : pc + 1 = q) (k : Go p e below Fn Q T (mkF m q l' (S))) : Go p e below Fn Q T (mkF m pc Ls (v :: S)) := by
  subst hq; exact k.st fun _ z => XS.astoreN X.here hx rfl hd rfl hv hl z
theorem g_astore (X : Stand p l e R s m args below meth c T locs cells slots) (hx : p.tables.exec = Jvm.exec) (q : Nat) {k : Nat} {v : Value} (l' : Array Slot) (hd : decode c.code pc = .ok (.astore k, 2)) (hv : v.isRef = true) (hl : storeLocals Ls k v = some l') (hq : pc + 2 = q) (k : Go p e below Fn Q T (mkF m q l' (S))) : Go p e below Fn Q T (mkF m pc Ls (v :: S)) := by
  subst hq; exact k.st fun _ z => XS.astore X.here hx rfl hd rfl hv hl z
theorem g_iconst (X : Stand p l e R s m args below meth c T locs cells slots) (hx : p.tables.exec = Jvm.exec) (q : Nat) {i : Int} (v : Int32) (hd : decode c.code pc = .ok (.iconst i, 1)) (hv : Int32.ofInt i = v) (hq : pc + 1 = q) (k : Go p e below Fn Q T (mkF m q Ls (.int v :: S))) : Go p e below Fn Q T (mkF m pc Ls (S)) := by
  subst hq; exact k.st fun _ z => XS.iconst X.here hx rfl hd (hv ▸ z)
theorem g_bipush (X : Stand p l e R s m args below meth c T locs cells slots) (hx : p.tables.exec = Jvm.exec) (q : Nat) {i : Int} (v : Int32) (hd : decode c.code pc = .ok (.bipush i, 2)) (hv : (Int8.ofInt i).toInt32 = v) (hq : pc + 2 = q) (k : Go p e below Fn Q T (mkF m q Ls (.int v :: S))) : Go p e below Fn Q T (mkF m pc Ls (S)) := by
  subst hq; exact k.st fun _ z => XS.bipush X.here hx rfl hd (hv ▸ z)
theorem g_sipush (X : Stand p l e R s m args below meth c T locs cells slots) (hx : p.tables.exec = Jvm.exec) (q : Nat) {i : Int} (v : Int32) (hd : decode c.code pc = .ok (.sipush i, 3)) (hv : (Int16.ofInt i).toInt32 = v) (hq : pc + 3 = q) (k : Go p e below Fn Q T (mkF m q Ls (.int v :: S))) : Go p e below Fn Q T (mkF m pc Ls (S)) := by
  subst hq; exact k.st fun _ z => XS.sipush X.here hx rfl hd (hv ▸ z)
theorem g_lconst (X : Stand p l e R s m args below meth c T locs cells slots) (hx : p.tables.exec = Jvm.exec) (q : Nat) {k : Fin 2} (v : Int64) (hd : decode c.code pc = .ok (.lconst k, 1)) (hv : Int64.ofNat k = v) (hq : pc + 1 = q) (k : Go p e below Fn Q T (mkF m q Ls (.long v :: S))) : Go p e below Fn Q T (mkF m pc Ls (S)) := by
  subst hq; exact k.st fun _ z => XS.lconst X.here hx rfl hd (hv ▸ z)
theorem g_aconst_null (X : Stand p l e R s m args below meth c T locs cells slots) (hx : p.tables.exec = Jvm.exec) (q : Nat)  (hd : decode c.code pc = .ok (.aconst_null, 1))  (hq : pc + 1 = q) (k : Go p e below Fn Q T (mkF m q Ls (.null :: S))) : Go p e below Fn Q T (mkF m pc Ls (S)) := by
  subst hq; exact k.st fun _ z => XS.aconstNull X.here hx rfl hd z
theorem g_iadd (X : Stand p l e R s m args below meth c T locs cells slots) (hx : p.tables.exec = Jvm.exec) (q : Nat) {x y : Int32} (w : Int32) (hd : decode c.code pc = .ok (.iadd, 1)) (hv : x + y = w) (hq : pc + 1 = q) (k : Go p e below Fn Q T (mkF m q Ls (.int w :: S))) : Go p e below Fn Q T (mkF m pc Ls (.int y :: .int x :: S)) := by
  subst hq; exact k.st fun _ z => XS.iadd X.here hx rfl hd rfl (hv ▸ z)
theorem g_isub (X : Stand p l e R s m args below meth c T locs cells slots) (hx : p.tables.exec = Jvm.exec) (q : Nat) {x y : Int32} (w : Int32) (hd : decode c.code pc = .ok (.isub, 1)) (hv : x - y = w) (hq : pc + 1 = q) (k : Go p e below Fn Q T (mkF m q Ls (.int w :: S))) : Go p e below Fn Q T (mkF m pc Ls (.int y :: .int x :: S)) := by
  subst hq; exact k.st fun _ z => XS.isub X.here hx rfl hd rfl (hv ▸ z)
theorem g_imul (X : Stand p l e R s m args below meth c T locs cells slots) (hx : p.tables.exec = Jvm.exec) (q : Nat) {x y : Int32} (w : Int32) (hd : decode c.code pc = .ok (.imul, 1)) (hv : x * y = w) (hq : pc + 1 = q) (k : Go p e below Fn Q T (mkF m q Ls (.int w :: S))) : Go p e below Fn Q T (mkF m pc Ls (.int y :: .int x :: S)) := by
  subst hq; exact k.st fun _ z => XS.imul X.here hx rfl hd rfl (hv ▸ z)
theorem g_iand (X : Stand p l e R s m args below meth c T locs cells slots) (hx : p.tables.exec = Jvm.exec) (q : Nat) {x y : Int32} (w : Int32) (hd : decode c.code pc = .ok (.iand, 1)) (hv : x &&& y = w) (hq : pc + 1 = q) (k : Go p e below Fn Q T (mkF m q Ls (.int w :: S))) : Go p e below Fn Q T (mkF m pc Ls (.int y :: .int x :: S)) := by
  subst hq; exact k.st fun _ z => XS.iand X.here hx rfl hd rfl (hv ▸ z)
theorem g_ior (X : Stand p l e R s m args below meth c T locs cells slots) (hx : p.tables.exec = Jvm.exec) (q : Nat) {x y : Int32} (w : Int32) (hd : decode c.code pc = .ok (.ior, 1)) (hv : x ||| y = w) (hq : pc + 1 = q) (k : Go p e below Fn Q T (mkF m q Ls (.int w :: S))) : Go p e below Fn Q T (mkF m pc Ls (.int y :: .int x :: S)) := by
  subst hq; exact k.st fun _ z => XS.ior X.here hx rfl hd rfl (hv ▸ z)
theorem g_ixor (X : Stand p l e R s m args below meth c T locs cells slots) (hx : p.tables.exec = Jvm.exec) (q : Nat) {x y : Int32} (w : Int32) (hd : decode c.code pc = .ok (.ixor, 1)) (hv : x ^^^ y = w) (hq : pc + 1 = q) (k : Go p e below Fn Q T (mkF m q Ls (.int w :: S))) : Go p e below Fn Q T (mkF m pc Ls (.int y :: .int x :: S)) := by
  subst hq; exact k.st fun _ z => XS.ixor X.here hx rfl hd rfl (hv ▸ z)
theorem g_ishl (X : Stand p l e R s m args below meth c T locs cells slots) (hx : p.tables.exec = Jvm.exec) (q : Nat) {x y : Int32} (w : Int32) (hd : decode c.code pc = .ok (.ishl, 1)) (hv : x <<< (y &&& 31) = w) (hq : pc + 1 = q) (k : Go p e below Fn Q T (mkF m q Ls (.int w :: S))) : Go p e below Fn Q T (mkF m pc Ls (.int y :: .int x :: S)) := by
  subst hq; exact k.st fun _ z => XS.ishl X.here hx rfl hd rfl (hv ▸ z)
theorem g_ishr (X : Stand p l e R s m args below meth c T locs cells slots) (hx : p.tables.exec = Jvm.exec) (q : Nat) {x y : Int32} (w : Int32) (hd : decode c.code pc = .ok (.ishr, 1)) (hv : x >>> (y &&& 31) = w) (hq : pc + 1 = q) (k : Go p e below Fn Q T (mkF m q Ls (.int w :: S))) : Go p e below Fn Q T (mkF m pc Ls (.int y :: .int x :: S)) := by
  subst hq; exact k.st fun _ z => XS.ishr X.here hx rfl hd rfl (hv ▸ z)
theorem g_iushr (X : Stand p l e R s m args below meth c T locs cells slots) (hx : p.tables.exec = Jvm.exec) (q : Nat) {x y : Int32} (w : Int32) (hd : decode c.code pc = .ok (.iushr, 1)) (hv : (x.toUInt32 >>> (y &&& 31).toUInt32).toInt32 = w) (hq : pc + 1 = q) (k : Go p e below Fn Q T (mkF m q Ls (.int w :: S))) : Go p e below Fn Q T (mkF m pc Ls (.int y :: .int x :: S)) := by
  subst hq; exact k.st fun _ z => XS.iushr X.here hx rfl hd rfl (hv ▸ z)
theorem g_ladd (X : Stand p l e R s m args below meth c T locs cells slots) (hx : p.tables.exec = Jvm.exec) (q : Nat) {x y : Int64} (w : Int64) (hd : decode c.code pc = .ok (.ladd, 1)) (hv : x + y = w) (hq : pc + 1 = q) (k : Go p e below Fn Q T (mkF m q Ls (.long w :: S))) : Go p e below Fn Q T (mkF m pc Ls (.long y :: .long x :: S)) := by
  subst hq; exact k.st fun _ z => XS.ladd X.here hx rfl hd rfl (hv ▸ z)
theorem g_lsub (X : Stand p l e R s m args below meth c T locs cells slots) (hx : p.tables.exec = Jvm.exec) (q : Nat) {x y : Int64} (w : Int64) (hd : decode c.code pc = .ok (.lsub, 1)) (hv : x - y = w) (hq : pc + 1 = q) (k : Go p e below Fn Q T (mkF m q Ls (.long w :: S))) : Go p e below Fn Q T (mkF m pc Ls (.long y :: .long x :: S)) := by
  subst hq; exact k.st fun _ z => XS.lsub X.here hx rfl hd rfl (hv ▸ z)
theorem g_lmul (X : Stand p l e R s m args below meth c T locs cells slots) (hx : p.tables.exec = Jvm.exec) (q : Nat) {x y : Int64} (w : Int64) (hd : decode c.code pc = .ok (.lmul, 1)) (hv : x * y = w) (hq : pc + 1 = q) (k : Go p e below Fn Q T (mkF m q Ls (.long w :: S))) : Go p e below Fn Q T (mkF m pc Ls (.long y :: .long x :: S)) := by
  subst hq; exact k.st fun _ z => XS.lmul X.here hx rfl hd rfl (hv ▸ z)
theorem g_land (X : Stand p l e R s m args below meth c T locs cells slots) (hx : p.tables.exec = Jvm.exec) (q : Nat) {x y : Int64} (w : Int64) (hd : decode c.code pc = .ok (.land, 1)) (hv : x &&& y = w) (hq : pc + 1 = q) (k : Go p e below Fn Q T (mkF m q Ls (.long w :: S))) : Go p e below Fn Q T (mkF m pc Ls (.long y :: .long x :: S)) := by
  subst hq; exact k.st fun _ z => XS.land X.here hx rfl hd rfl (hv ▸ z)
theorem g_lor (X : Stand p l e R s m args below meth c T locs cells slots) (hx : p.tables.exec = Jvm.exec) (q : Nat) {x y : Int64} (w : Int64) (hd : decode c.code pc = .ok (.lor, 1)) (hv : x ||| y = w) (hq : pc + 1 = q) (k : Go p e below Fn Q T (mkF m q Ls (.long w :: S))) : Go p e below Fn Q T (mkF m pc Ls (.long y :: .long x :: S)) := by
  subst hq; exact k.st fun _ z => XS.lor X.here hx rfl hd rfl (hv ▸ z)
theorem g_lxor (X : Stand p l e R s m args below meth c T locs cells slots) (hx : p.tables.exec = Jvm.exec) (q : Nat) {x y : Int64} (w : Int64) (hd : decode c.code pc = .ok (.lxor, 1)) (hv : x ^^^ y = w) (hq : pc + 1 = q) (k : Go p e below Fn Q T (mkF m q Ls (.long w :: S))) : Go p e below Fn Q T (mkF m pc Ls (.long y :: .long x :: S)) := by
  subst hq; exact k.st fun _ z => XS.lxor X.here hx rfl hd rfl (hv ▸ z)
theorem g_lshl (X : Stand p l e R s m args below meth c T locs cells slots) (hx : p.tables.exec = Jvm.exec) (q : Nat) {x : Int64} {y : Int32} (w : Int64) (hd : decode c.code pc = .ok (.lshl, 1)) (hv : x <<< (y &&& 0x3f).toInt64 = w) (hq : pc + 1 = q) (k : Go p e below Fn Q T (mkF m q Ls (.long w :: S))) : Go p e below Fn Q T (mkF m pc Ls (.int y :: .long x :: S)) := by
  subst hq; exact k.st fun _ z => XS.lshl X.here hx rfl hd rfl (hv ▸ z)
theorem g_lshr (X : Stand p l e R s m args below meth c T locs cells slots) (hx : p.tables.exec = Jvm.exec) (q : Nat) {x : Int64} {y : Int32} (w : Int64) (hd : decode c.code pc = .ok (.lshr, 1)) (hv : x >>> (y &&& 0x3f).toInt64 = w) (hq : pc + 1 = q) (k : Go p e below Fn Q T (mkF m q Ls (.long w :: S))) : Go p e below Fn Q T (mkF m pc Ls (.int y :: .long x :: S)) := by
  subst hq; exact k.st fun _ z => XS.lshr X.here hx rfl hd rfl (hv ▸ z)
theorem g_lushr (X : Stand p l e R s m args below meth c T locs cells slots) (hx : p.tables.exec = Jvm.exec) (q : Nat) {x : Int64} {y : Int32} (w : Int64) (hd : decode c.code pc = .ok (.lushr, 1)) (hv : (x.toUInt64 >>> (y &&& 0x3f).toInt64.toUInt64).toInt64 = w) (hq : pc + 1 = q) (k : Go p e below Fn Q T (mkF m q Ls (.long w :: S))) : Go p e below Fn Q T (mkF m pc Ls (.int y :: .long x :: S)) := by
  subst hq; exact k.st fun _ z => XS.lushr X.here hx rfl hd rfl (hv ▸ z)
theorem g_lcmp (X : Stand p l e R s m args below meth c T locs cells slots) (hx : p.tables.exec = Jvm.exec) (q : Nat) {x y : Int64} (hd : decode c.code pc = .ok (.lcmp, 1))  (hq : pc + 1 = q) (k : Go p e below Fn Q T (mkF m q Ls (.int (lcmpW x y) :: S))) : Go p e below Fn Q T (mkF m pc Ls (.long y :: .long x :: S)) := by
  subst hq; exact k.st fun _ z => XS.lcmp X.here hx rfl hd rfl z
theorem g_idiv (X : Stand p l e R s m args below meth c T locs cells slots) (hx : p.tables.exec = Jvm.exec) (q : Nat) {x y : Int32} (w : Int32) (hd : decode c.code pc = .ok (.idiv, 1)) (hy : y ≠ 0) (hv : x / y = w) (hq : pc + 1 = q) (k : Go p e below Fn Q T (mkF m q Ls (.int w :: S))) : Go p e below Fn Q T (mkF m pc Ls (.int y :: .int x :: S)) := by
  subst hq; exact k.st fun _ z => XS.idiv X.here hx rfl hd rfl hy (hv ▸ z)
theorem g_irem (X : Stand p l e R s m args below meth c T locs cells slots) (hx : p.tables.exec = Jvm.exec) (q : Nat) {x y : Int32} (w : Int32) (hd : decode c.code pc = .ok (.irem, 1)) (hy : y ≠ 0) (hv : x % y = w) (hq : pc + 1 = q) (k : Go p e below Fn Q T (mkF m q Ls (.int w :: S))) : Go p e below Fn Q T (mkF m pc Ls (.int y :: .int x :: S)) := by
  subst hq; exact k.st fun _ z => iremM X hx rfl hd rfl hy (hv ▸ z)
theorem g_ldiv (X : Stand p l e R s m args below meth c T locs cells slots) (hx : p.tables.exec = Jvm.exec) (q : Nat) {x y : Int64} (w : Int64) (hd : decode c.code pc = .ok (.ldiv, 1)) (hy : y ≠ 0) (hv : x / y = w) (hq : pc + 1 = q) (k : Go p e below Fn Q T (mkF m q Ls (.long w :: S))) : Go p e below Fn Q T (mkF m pc Ls (.long y :: .long x :: S)) := by
  subst hq; exact k.st fun _ z => XS.ldiv X.here hx rfl hd rfl hy (hv ▸ z)
theorem g_ineg (X : Stand p l e R s m args below meth c T locs cells slots) (hx : p.tables.exec = Jvm.exec) (q : Nat) {x : Int32} (w : Int32) (hd : decode c.code pc = .ok (.ineg, 1)) (hv : -x = w) (hq : pc + 1 = q) (k : Go p e below Fn Q T (mkF m q Ls (.int w :: S))) : Go p e below Fn Q T (mkF m pc Ls (.int x :: S)) := by
  subst hq; exact k.st fun _ z => XS.ineg X.here hx rfl hd rfl (hv ▸ z)
theorem g_lneg (X : Stand p l e R s m args below meth c T locs cells slots) (hx : p.tables.exec = Jvm.exec) (q : Nat) {x : Int64} (w : Int64) (hd : decode c.code pc = .ok (.lneg, 1)) (hv : -x = w) (hq : pc + 1 = q) (k : Go p e below Fn Q T (mkF m q Ls (.long w :: S))) : Go p e below Fn Q T (mkF m pc Ls (.long x :: S)) := by
  subst hq; exact k.st fun _ z => XS.lneg X.here hx rfl hd rfl (hv ▸ z)
theorem g_i2l (X : Stand p l e R s m args below meth c T locs cells slots) (hx : p.tables.exec = Jvm.exec) (q : Nat) {x : Int32} (w : Int64) (hd : decode c.code pc = .ok (.i2l, 1)) (hv : x.toInt64 = w) (hq : pc + 1 = q) (k : Go p e below Fn Q T (mkF m q Ls (.long w :: S))) : Go p e below Fn Q T (mkF m pc Ls (.int x :: S)) := by
  subst hq; exact k.st fun _ z => XS.i2l X.here hx rfl hd rfl (hv ▸ z)
theorem g_l2i (X : Stand p l e R s m args below meth c T locs cells slots) (hx : p.tables.exec = Jvm.exec) (q : Nat) {x : Int64} (w : Int32) (hd : decode c.code pc = .ok (.l2i, 1)) (hv : x.toInt32 = w) (hq : pc + 1 = q) (k : Go p e below Fn Q T (mkF m q Ls (.int w :: S))) : Go p e below Fn Q T (mkF m pc Ls (.long x :: S)) := by
  subst hq; exact k.st fun _ z => XS.l2i X.here hx rfl hd rfl (hv ▸ z)
theorem g_i2c (X : Stand p l e R s m args below meth c T locs cells slots) (hx : p.tables.exec = Jvm.exec) (q : Nat) {x : Int32} (w : Int32) (hd : decode c.code pc = .ok (.i2c, 1)) (hv : x.toUInt32.toUInt16.toUInt32.toInt32 = w) (hq : pc + 1 = q) (k : Go p e below Fn Q T (mkF m q Ls (.int w :: S))) : Go p e below Fn Q T (mkF m pc Ls (.int x :: S)) := by
  subst hq; exact k.st fun _ z => XS.i2c X.here hx rfl hd rfl (hv ▸ z)
theorem g_i2b (X : Stand p l e R s m args below meth c T locs cells slots) (hx : p.tables.exec = Jvm.exec) (q : Nat) {x : Int32} (w : Int32) (hd : decode c.code pc = .ok (.i2b, 1)) (hv : x.toInt8.toInt32 = w) (hq : pc + 1 = q) (k : Go p e below Fn Q T (mkF m q Ls (.int w :: S))) : Go p e below Fn Q T (mkF m pc Ls (.int x :: S)) := by
  subst hq; exact k.st fun _ z => XS.i2b X.here hx rfl hd rfl (hv ▸ z)
theorem g_i2s (X : Stand p l e R s m args below meth c T locs cells slots) (hx : p.tables.exec = Jvm.exec) (q : Nat) {x : Int32} (w : Int32) (hd : decode c.code pc = .ok (.i2s, 1)) (hv : x.toInt16.toInt32 = w) (hq : pc + 1 = q) (k : Go p e below Fn Q T (mkF m q Ls (.int w :: S))) : Go p e below Fn Q T (mkF m pc Ls (.int x :: S)) := by
  subst hq; exact k.st fun _ z => XS.i2s X.here hx rfl hd rfl (hv ▸ z)
theorem g_dup (X : Stand p l e R s m args below meth c T locs cells slots) (hx : p.tables.exec = Jvm.exec) (q : Nat) {v : Value} (hd : decode c.code pc = .ok (.dup, 1)) (hc : v.category = 1) (hq : pc + 1 = q) (k : Go p e below Fn Q T (mkF m q Ls (v :: v :: S))) : Go p e below Fn Q T (mkF m pc Ls (v :: S)) := by
  subst hq; exact k.st fun _ z => XS.dup X.here hx rfl hd rfl hc z
theorem g_pop (X : Stand p l e R s m args below meth c T locs cells slots) (hx : p.tables.exec = Jvm.exec) (q : Nat) {v : Value} (hd : decode c.code pc = .ok (.pop, 1)) (hc : v.category = 1) (hq : pc + 1 = q) (k : Go p e below Fn Q T (mkF m q Ls (S))) : Go p e below Fn Q T (mkF m pc Ls (v :: S)) := by
  subst hq; exact k.st fun _ z => XS.pop X.here hx rfl hd rfl hc z
theorem g_dup_x1 (X : Stand p l e R s m args below meth c T locs cells slots) (hx : p.tables.exec = Jvm.exec) (q : Nat) {v w : Value} (hd : decode c.code pc = .ok (.dup_x1, 1)) (hc : v.category = 1) (hc' : w.category = 1) (hq : pc + 1 = q) (k : Go p e below Fn Q T (mkF m q Ls (v :: w :: v :: S))) : Go p e below Fn Q T (mkF m pc Ls (v :: w :: S)) := by
  subst hq; exact k.st fun _ z => XS.dupX1 X.here hx rfl hd rfl hc hc' z
theorem g_dup2L (X : Stand p l e R s m args below meth c T locs cells slots) (hx : p.tables.exec = Jvm.exec) (q : Nat) {x : Int64} (hd : decode c.code pc = .ok (.dup2, 1))  (hq : pc + 1 = q) (k : Go p e below Fn Q T (mkF m q Ls (.long x :: .long x :: S))) : Go p e below Fn Q T (mkF m pc Ls (.long x :: S)) := by
  subst hq; exact k.st fun _ z => Jvm.Free.XT.dup2L X.here hx rfl hd rfl z
theorem g_dup2 (X : Stand p l e R s m args below meth c T locs cells slots) (hx : p.tables.exec = Jvm.exec) (q : Nat) {v w : Value} (hd : decode c.code pc = .ok (.dup2, 1)) (hc : v.category = 1) (hc' : w.category = 1) (hq : pc + 1 = q) (k : Go p e below Fn Q T (mkF m q Ls (v :: w :: v :: w :: S))) : Go p e below Fn Q T (mkF m pc Ls (v :: w :: S)) := by
  subst hq; exact k.st fun _ z => Jvm.Free.XT.dup2 X.here hx rfl hd rfl hc hc' z
theorem g_iinc (X : Stand p l e R s m args below meth c T locs cells slots) (hx : p.tables.exec = Jvm.exec) (q : Nat) {k : Nat} {cst : Int} {x : Int32} (w : Int32) (l' : Array Slot) (hd : decode c.code pc = .ok (.iinc k cst, 3)) (hl : Ls[k]? = some (.val (.int x))) (hv : x + Int32.ofInt cst = w) (hl' : storeLocals Ls k (.int w) = some l') (hq : pc + 3 = q) (k : Go p e below Fn Q T (mkF m q l' (S))) : Go p e below Fn Q T (mkF m pc Ls (S)) := by
  subst hq; exact k.st fun _ z => XS.iinc X.here hx rfl hd hl (hv ▸ hl') z
theorem g_ldcI (X : Stand p l e R s m args below meth c T locs cells slots) (hx : p.tables.exec = Jvm.exec) (q : Nat) (hZ : Z.Warmed39 s.vm) {own : String} {index : Nat} {v : Int32} (hown : s.vm.findClass own = some m.cls) (w1 : (Jvm.Cond.constant own index v).before a0 Z = true) (hd : decode c.code pc = .ok (.ldc index, 2))  (hq : pc + 2 = q) (k : Go p e below Fn Q T (mkF m q Ls (.int v :: S))) : Go p e below Fn Q T (mkF m pc Ls (S)) := by
  subst hq; exact k.st fun _ z => X.ldcInt hx hown (mvT hZ w1) (g := mkF m pc Ls S) rfl hd _ z
theorem g_ldc2J (X : Stand p l e R s m args below meth c T locs cells slots) (hx : p.tables.exec = Jvm.exec) (q : Nat) (hZ : Z.Warmed39 s.vm) {own : String} {index : Nat} {v : Int64} (hown : s.vm.findClass own = some m.cls) (w1 : (Jvm.Cond.constantLong own index v).before a0 Z = true) (hd : decode c.code pc = .ok (.ldc2_w index, 3))  (hq : pc + 3 = q) (k : Go p e below Fn Q T (mkF m q Ls (.long v :: S))) : Go p e below Fn Q T (mkF m pc Ls (S)) := by
  subst hq; exact k.st fun _ z => X.ldc2Long hx hown (mvT hZ w1) (g := mkF m pc Ls S) rfl hd _ z
theorem g_goto (X : Stand p l e R s m args below meth c T locs cells slots) (hx : p.tables.exec = Jvm.exec) (q : Nat)  {o : Int} (hd : decode c.code pc = .ok (.goto o, 3))  (ho : 0 ≤ (pc : Int) + o) (hp : ((pc : Int) + o).toNat = q) (k : Go p e below Fn Q T (mkF m q Ls S)) : Go p e below Fn Q T (mkF m pc Ls (S)) := k.st fun _ z => XS.goto X.here hx rfl rfl hd ho hp z
theorem g_ifT (X : Stand p l e R s m args below meth c T locs cells slots) (hx : p.tables.exec = Jvm.exec) (q : Nat) {cd : ClassFile.Cond} {x : Int32} {o : Int} (hd : decode c.code pc = .ok (.ifCond cd o, 3)) (hc : ifCond.holds cd x = true) (ho : 0 ≤ (pc : Int) + o) (hp : ((pc : Int) + o).toNat = q) (k : Go p e below Fn Q T (mkF m q Ls S)) : Go p e below Fn Q T (mkF m pc Ls (.int x :: S)) := k.st fun _ z => XS.ifYes X.here hx rfl rfl hd rfl hc ho hp z
theorem g_ifF (X : Stand p l e R s m args below meth c T locs cells slots) (hx : p.tables.exec = Jvm.exec) (q : Nat) {cd : ClassFile.Cond} {x : Int32} {o : Int} (hd : decode c.code pc = .ok (.ifCond cd o, 3)) (hc : ifCond.holds cd x = false) (hq : pc + 3 = q) (k : Go p e below Fn Q T (mkF m q Ls S)) : Go p e below Fn Q T (mkF m pc Ls (.int x :: S)) := by
  subst hq; exact k.st fun _ z => XS.ifNo X.here hx rfl hd rfl hc z
theorem g_icT (X : Stand p l e R s m args below meth c T locs cells slots) (hx : p.tables.exec = Jvm.exec) (q : Nat) {cd : ClassFile.Cond} {x y : Int32} {o : Int} (hd : decode c.code pc = .ok (.if_icmp cd o, 3)) (hc : if_icmp.holds cd x y = true) (ho : 0 ≤ (pc : Int) + o) (hp : ((pc : Int) + o).toNat = q) (k : Go p e below Fn Q T (mkF m q Ls S)) : Go p e below Fn Q T (mkF m pc Ls (.int y :: .int x :: S)) := k.st fun _ z => XS.icmpYes X.here hx rfl rfl hd rfl hc ho hp z
theorem g_icF (X : Stand p l e R s m args below meth c T locs cells slots) (hx : p.tables.exec = Jvm.exec) (q : Nat) {cd : ClassFile.Cond} {x y : Int32} {o : Int} (hd : decode c.code pc = .ok (.if_icmp cd o, 3)) (hc : if_icmp.holds cd x y = false) (hq : pc + 3 = q) (k : Go p e below Fn Q T (mkF m q Ls S)) : Go p e below Fn Q T (mkF m pc Ls (.int y :: .int x :: S)) := by
  subst hq; exact k.st fun _ z => XS.icmpNo X.here hx rfl hd rfl hc z
theorem g_ifnullT (X : Stand p l e R s m args below meth c T locs cells slots) (hx : p.tables.exec = Jvm.exec) (q : Nat)  {o : Int} (hd : decode c.code pc = .ok (.ifnull o, 3))  (ho : 0 ≤ (pc : Int) + o) (hp : ((pc : Int) + o).toNat = q) (k : Go p e below Fn Q T (mkF m q Ls S)) : Go p e below Fn Q T (mkF m pc Ls (.null :: S)) := k.st fun _ z => XS.ifnullYes X.here hx rfl rfl hd rfl ho hp z
theorem g_ifnullF (X : Stand p l e R s m args below meth c T locs cells slots) (hx : p.tables.exec = Jvm.exec) (q : Nat) {b : Addr} {o : Int} (hd : decode c.code pc = .ok (.ifnull o, 3))  (hq : pc + 3 = q) (k : Go p e below Fn Q T (mkF m q Ls S)) : Go p e below Fn Q T (mkF m pc Ls (.ref b :: S)) := by
  subst hq; exact k.st fun _ z => XS.ifnullNo X.here hx rfl hd rfl z
theorem g_ifnonnullT (X : Stand p l e R s m args below meth c T locs cells slots) (hx : p.tables.exec = Jvm.exec) (q : Nat) {b : Addr} {o : Int} (hd : decode c.code pc = .ok (.ifnonnull o, 3))  (ho : 0 ≤ (pc : Int) + o) (hp : ((pc : Int) + o).toNat = q) (k : Go p e below Fn Q T (mkF m q Ls S)) : Go p e below Fn Q T (mkF m pc Ls (.ref b :: S)) := k.st fun _ z => XS.ifnonnullYes X.here hx rfl rfl hd rfl ho hp z
theorem g_ifnonnullF (X : Stand p l e R s m args below meth c T locs cells slots) (hx : p.tables.exec = Jvm.exec) (q : Nat)  {o : Int} (hd : decode c.code pc = .ok (.ifnonnull o, 3))  (hq : pc + 3 = q) (k : Go p e below Fn Q T (mkF m q Ls S)) : Go p e below Fn Q T (mkF m pc Ls (.null :: S)) := by
  subst hq; exact k.st fun _ z => XS.ifnonnullNo X.here hx rfl hd rfl z
theorem g_ac (X : Stand p l e R s m args below meth c T locs cells slots) (hx : p.tables.exec = Jvm.exec) (q : Nat) {cd : ACond} {v w : Value} {o : Int} (same : Bool) (hd : decode c.code pc = .ok (.if_acmp cd o, 3)) (h1 : v.isRef = true) (h2 : w.isRef = true) (hs : decide (v = w) = same) (ho : 0 ≤ (pc : Int) + o) (hp : q = if acV cd same = true then ((pc : Int) + o).toNat else pc + 3) (k : Go p e below Fn Q T (mkF m q Ls S)) : Go p e below Fn Q T (mkF m pc Ls (w :: v :: S)) := k.st fun _ z => Jvm.RoadKit.acmp X hx rfl h1 h2 rfl hd rfl hs ho hp z
theorem own_ltL {x y : Int64} (h : x < y) : ifCond.holds .lt (lcmpW x y) = true ∧ ifCond.holds .ge (lcmpW x y) = false ∧ ifCond.holds .gt (lcmpW y x) = true ∧ ifCond.holds .le (lcmpW y x) = false := by
  have h1 := (lw_lt x y).mpr h
  have h2 := (lw_gt y x).mpr h
  exact ⟨(if0 _ _).trans (tlt h1).1, (if0 _ _).trans (tlt h1).2.1, (if0 _ _).trans (tlt h2).2.2.1, (if0 _ _).trans (tlt h2).2.2.2⟩
theorem own_nltL {x y : Int64} (h : ¬ x < y) : ifCond.holds .lt (lcmpW x y) = false ∧ ifCond.holds .ge (lcmpW x y) = true ∧ ifCond.holds .gt (lcmpW y x) = false ∧ ifCond.holds .le (lcmpW y x) = true := by
  have h1 : ¬ lcmpW x y < 0 := fun q => h ((lw_lt x y).mp q)
  have h2 : ¬ 0 < lcmpW y x := fun q => h ((lw_gt y x).mp q)
  exact ⟨(if0 _ _).trans (flt h1).1, (if0 _ _).trans (flt h1).2.1, (if0 _ _).trans (flt h2).2.2.1, (if0 _ _).trans (flt h2).2.2.2⟩
theorem own_eqL {x y : Int64} (h : x = y) : ifCond.holds .eq (lcmpW x y) = true ∧ ifCond.holds .ne (lcmpW x y) = false := by
  have h1 := (lw_eq x y).mpr h
  exact ⟨(if0 _ _).trans (teq h1).1, (if0 _ _).trans (teq h1).2⟩
theorem own_neL {x y : Int64} (h : ¬ x = y) : ifCond.holds .eq (lcmpW x y) = false ∧ ifCond.holds .ne (lcmpW x y) = true := by
  have h1 : ¬ lcmpW x y = 0 := fun q => h ((lw_eq x y).mp q)
  exact ⟨(if0 _ _).trans (feq h1).1, (if0 _ _).trans (feq h1).2⟩
theorem g_ret (X : Stand p l e R s m args below meth c T locs cells slots) (hx : p.tables.exec = Jvm.exec) {t : FieldType} {i : Instr} {w : Value} (hret : meth.sig.returnType = some t) (hlk : meth.locks = false) (hn : narrow t w = w) (hi : (i = .ireturn ∧ (t = .int ∨ t = .boolean ∨ t = .byte ∨ t = .char ∨ t = .short) ∧ ∃ z, w = .int z) ∨ (i = .lreturn ∧ t = .long ∧ ∃ z, w = .long z) ∨ (i = .dreturn ∧ t = .double ∧ ∃ z, w = .double z) ∨ (i = .freturn ∧ t = .float ∧ ∃ z, w = .float z) ∨ (i = .areturn ∧ t.isReference = true ∧ w.isRef = true)) (hd : decode c.code pc = .ok (i, 1)) (hc : cells ≤ K) (hs : slots ≤ J) (hq : Q (some w) T.heap locs) : Go p e below (fun o t L => FrameEnd s o t L K J) Q T (mkF m pc Ls (w :: S)) := by
  obtain ⟨fs, hr, hrun, hended, hW, hsame⟩ := X.leave (v := some w) (fun h => by rw [hret] at h; cases h) hlk
  exact ⟨_, _, retOut X hx hret hn hi hd hr, hrun, hended, _, _, rfl, hq, ⟨_, rfl⟩, hW, hsame.mono hc hs⟩
theorem g_retI (X : Stand p l e R s m args below meth c T locs cells slots) (hx : p.tables.exec = Jvm.exec) {z : Int32} (hret : meth.sig.returnType = some .int) (hlk : meth.locks = false) (hd : decode c.code pc = .ok (.ireturn, 1)) (hc : cells ≤ K) (hs : slots ≤ J) (hq : Q (some (.int z)) T.heap locs) : Go p e below (fun o t L => FrameEnd s o t L K J) Q T (mkF m pc Ls (.int z :: S)) := g_ret X hx hret hlk rfl (Or.inl ⟨rfl, Or.inl rfl, _, rfl⟩) hd hc hs hq
theorem g_retZ (X : Stand p l e R s m args below meth c T locs cells slots) (hx : p.tables.exec = Jvm.exec) {z : Int32} (hret : meth.sig.returnType = some .boolean) (hlk : meth.locks = false) (hn : narrow .boolean (.int z) = .int z) (hd : decode c.code pc = .ok (.ireturn, 1)) (hc : cells ≤ K) (hs : slots ≤ J) (hq : Q (some (.int z)) T.heap locs) : Go p e below (fun o t L => FrameEnd s o t L K J) Q T (mkF m pc Ls (.int z :: S)) := g_ret X hx hret hlk hn (Or.inl ⟨rfl, Or.inr (Or.inl rfl), _, rfl⟩) hd hc hs hq
theorem g_retC (X : Stand p l e R s m args below meth c T locs cells slots) (hx : p.tables.exec = Jvm.exec) {z : Int32} (hret : meth.sig.returnType = some .char) (hlk : meth.locks = false) (hn : narrow .char (.int z) = .int z) (hd : decode c.code pc = .ok (.ireturn, 1)) (hc : cells ≤ K) (hs : slots ≤ J) (hq : Q (some (.int z)) T.heap locs) : Go p e below (fun o t L => FrameEnd s o t L K J) Q T (mkF m pc Ls (.int z :: S)) := g_ret X hx hret hlk hn (Or.inl ⟨rfl, Or.inr (Or.inr (Or.inr (Or.inl rfl))), _, rfl⟩) hd hc hs hq
theorem g_retB (X : Stand p l e R s m args below meth c T locs cells slots) (hx : p.tables.exec = Jvm.exec) {z : Int32} (hret : meth.sig.returnType = some .byte) (hlk : meth.locks = false) (hn : narrow .byte (.int z) = .int z) (hd : decode c.code pc = .ok (.ireturn, 1)) (hc : cells ≤ K) (hs : slots ≤ J) (hq : Q (some (.int z)) T.heap locs) : Go p e below (fun o t L => FrameEnd s o t L K J) Q T (mkF m pc Ls (.int z :: S)) := g_ret X hx hret hlk hn (Or.inl ⟨rfl, Or.inr (Or.inr (Or.inl rfl)), _, rfl⟩) hd hc hs hq
theorem g_retJ (X : Stand p l e R s m args below meth c T locs cells slots) (hx : p.tables.exec = Jvm.exec) {z : Int64} (hret : meth.sig.returnType = some .long) (hlk : meth.locks = false) (hd : decode c.code pc = .ok (.lreturn, 1)) (hc : cells ≤ K) (hs : slots ≤ J) (hq : Q (some (.long z)) T.heap locs) : Go p e below (fun o t L => FrameEnd s o t L K J) Q T (mkF m pc Ls (.long z :: S)) := g_ret X hx hret hlk rfl (Or.inr (Or.inl ⟨rfl, rfl, _, rfl⟩)) hd hc hs hq
theorem g_retA (X : Stand p l e R s m args below meth c T locs cells slots) (hx : p.tables.exec = Jvm.exec) {t : FieldType} {w : Value} (hret : meth.sig.returnType = some t) (hlk : meth.locks = false) (hr : t.isReference = true) (hw : w.isRef = true) (hn : narrow t w = w) (hd : decode c.code pc = .ok (.areturn, 1)) (hc : cells ≤ K) (hs : slots ≤ J) (hq : Q (some w) T.heap locs) : Go p e below (fun o t L => FrameEnd s o t L K J) Q T (mkF m pc Ls (w :: S)) := g_ret X hx hret hlk hn (Or.inr (Or.inr (Or.inr (Or.inr ⟨rfl, hr, hw⟩)))) hd hc hs hq
theorem g_retV (X : Stand p l e R s m args below meth c T locs cells slots) (hx : p.tables.exec = Jvm.exec) (hret : meth.sig.returnType = none) (hlk : meth.locks = false) (hd : decode c.code pc = .ok (.return_, 1)) (hc : cells ≤ K) (hs : slots ≤ J) (hq : Q none T.heap locs) : Go p e below (fun o t L => FrameEnd s o t L K J) Q T (mkF m pc Ls []) := by
  obtain ⟨fs, hr, hrun, hended, hW, hsame⟩ := X.leave (v := none) (fun _ => rfl) hlk
  exact ⟨_, _, X.returnOut hx hret hd hr, hrun, hended, _, _, rfl, hq, ⟨_, rfl⟩, hW, hsame.mono hc hs⟩
theorem g_getF (X : Stand p l e R s m args below meth c T locs cells slots) (hx : p.tables.exec = Jvm.exec) (q : Nat) (hZ : Z.Warmed39 s.vm) {own R0 O n d host : String} {index : Nat} (hown : s.vm.findClass own = some m.cls) (w1 : (Jvm.Cond.fieldLink own index R0 n d).before a0 Z = true ∨ (Jvm.Cond.fieldLinkNest own index R0 n d host).before a0 Z = true) (via : Via Z R0 O n d) (eT : T.heap = h) {a : Addr} {v : Value} (F : Fld Z h a O n d v) (hd : decode c.code pc = .ok (.getfield index, 3)) (hq : pc + 3 = q)
    (k : ∀ T', Stand p l e R s m args below meth c T' locs cells slots → T'.heap = h → Go p e below Fn Q T' (mkF m q Ls (v :: S))) : Go p e below Fn Q T (mkF m pc Ls (.ref a :: S)) := by
  obtain ⟨T', X', e', st⟩ := getF X hx hZ hown w1 via eT F (g := mkF m pc Ls (.ref a :: S)) rfl rfl hd
  subst hq; exact (k T' X' e').st st
theorem g_putF (X : Stand p l e R s m args below meth c T locs cells slots) (hx : p.tables.exec = Jvm.exec) (q : Nat) (hZ : Z.Warmed39 s.vm) {own R0 O n d host C : String} {index kk : Nat} {ty : FieldType} (hown : s.vm.findClass own = some m.cls) (w1 : (Jvm.Cond.fieldLink own index R0 n d).before a0 Z = true ∨ (Jvm.Cond.fieldLinkNest own index R0 n d host).before a0 Z = true) (via : Via Z R0 O n d) (eT : T.heap = h) {a : Addr} {v old : Value} (F : Fld Z h a O n d old) (E : Exa Z h a C)
    (L : (Jvm.Cond.lays C O n d).before a0 Z = true ∨ ((Jvm.Cond.laysFinal C O n d).before a0 Z = true ∧ own = O ∧ meth.name = "<init>")) (wi : (Jvm.Cond.instantiable C kk).before a0 Z = true) (hty : parseFieldDescriptor d = some ty) (hn : narrow ty v = v) (hf : fits ty v = true) (hd : decode c.code pc = .ok (.putfield index, 3)) (hq : pc + 3 = q)
    (k : ∀ T' h', Stand p l e R s m args below meth c T' (locs ++ [⟨a, Jvm.RoadKit.slotOf Z O n d⟩]) cells slots → T'.heap = h' → Wr h h' a (Jvm.RoadKit.slotOf Z O n d) v → Go p e below Fn Q T' (mkF m q Ls S)) : Go p e below Fn Q T (mkF m pc Ls (v :: .ref a :: S)) := by
  obtain ⟨T', h', X', e', W', st⟩ := putF X hx hZ hown w1 via eT F E L wi hty hn hf (g := mkF m pc Ls (v :: .ref a :: S)) rfl rfl hd
  subst hq; exact (k T' h' X' e' W').st st
theorem g_getS (X : Stand p l e R s m args below meth c T locs cells slots) (hx : p.tables.exec = Jvm.exec) (q : Nat) (hZ : Z.Warmed39 s.vm) {own R0 O n d host : String} {index : Nat} (hown : s.vm.findClass own = some m.cls) (w1 : (Jvm.Cond.fieldLink own index R0 n d).before a0 Z = true ∨ (Jvm.Cond.fieldLinkNest own index R0 n d host).before a0 Z = true) (via : Via Z R0 O n d) (eT : T.heap = h) {v : Value} (F : Sta Z h O n d v) (hd : decode c.code pc = .ok (.getstatic index, 3)) (hq : pc + 3 = q)
    (k : ∀ T', Stand p l e R s m args below meth c T' locs cells slots → T'.heap = h → Go p e below Fn Q T' (mkF m q Ls (v :: S))) : Go p e below Fn Q T (mkF m pc Ls S) := by
  obtain ⟨T', X', e', st⟩ := getS2 X hx hZ hown w1 via eT F (g := mkF m pc Ls S) rfl hd
  subst hq; exact (k T' X' e').st st
theorem g_new (X : Stand p l e R s m args below meth c T locs cells slots) (hx : p.tables.exec = Jvm.exec) (q : Nat) (hZ : Z.Warmed39 s.vm) {own C : String} {index n : Nat} (hown : s.vm.findClass own = some m.cls) (w1 : (Jvm.Cond.classLink own index C).before a0 Z = true) (wi : (Jvm.Cond.instantiable C n).before a0 Z = true) (wz : (Jvm.Cond.initialized C).before a0 Z = true) (eT : T.heap = h) (hd : decode c.code pc = .ok (.new index, 3)) (hc : cells + 1 ≤ R.cells) (hl : slots + n ≤ R.slots) (hq : pc + 3 = q)
    (k : ∀ T' h' b, b = h.size → Stand p l e R s m args below meth c T' locs (cells + 1) (slots + n) → T'.heap = h' → Ext h h' → Exa Z h' b C → (∀ {O nm d : String} {ty : FieldType}, Laid Z a0 C O nm d → parseFieldDescriptor d = some ty → Fld Z h' b O nm d (defaultValue ty)) → Go p e below Fn Q T' (mkF m q Ls (.ref b :: S))) : Go p e below Fn Q T (mkF m pc Ls S) := by
  obtain ⟨T', h', X', e', E', A', D', -, st⟩ := newO X hx hZ hown w1 wi wz eT (g := mkF m pc Ls S) rfl hd hc hl
  subst hq; exact (k T' h' _ rfl X' e' E' A' D').st st
theorem g_initO (X : Stand p l e R s m args below meth c T locs cells slots) (hx : p.tables.exec = Jvm.exec) (q : Nat) (hZ : Z.Warmed39 s.vm) {own : String} {index : Nat} (hown : s.vm.findClass own = some m.cls) (w1 : (Jvm.Cond.methodLink own index Lib.objectInit).before a0 Z = true) (w2 : (Jvm.Cond.instanceMethod Lib.objectInit).before a0 Z = true) (w3 : (Jvm.Cond.code Lib.objectInit ⟨#[0xb1]⟩ 1 none).before a0 Z = true) (eT : T.heap = h) (hml : Ls.size = c.maxLocals) {a : Addr} (hd : decode c.code pc = .ok (.invokespecial index, 3)) (hf : 1 ≤ R.frames) (W : Nat) (hW : (S.map fun v => v.category).sum ≤ W) (hl : W + 12 ≤ R.locals) (hq : pc + 3 = q)
    (k : ∀ T', Stand p l e R s m args below meth c T' locs cells slots → T'.heap = h → Go p e below Fn Q T' (mkF m q Ls S)) : Go p e below Fn Q T (mkF m pc Ls (.ref a :: S)) := by
  obtain ⟨T', X', e', st⟩ := initO X hx hZ hown w1 w2 w3 eT (g := mkF m pc Ls (.ref a :: S)) rfl hml rfl hd hf (W := W) (by show 2 * 0 + _ ≤ _; omega) hl
  subst hq; exact (k T' X' e').st st
theorem g_newP (X : Stand p l e R s m args below meth c T locs cells slots) (hx : p.tables.exec = Jvm.exec) (q : Nat) (hZ : Z.Warmed39 s.vm) {aty : ArrayType} (w1 : (Jvm.Cond.arrayClass (newarray.typeOf aty)).before a0 Z = true) (eT : T.heap = h) {n : Int32} (hd : decode c.code pc = .ok (.newarray aty, 2)) (hn : ¬ n < 0) (cap : Nat) (hcap : n.toNatClampNeg ≤ cap) (hb : cap * 8 ≤ 536870912) (hc : cells + 1 ≤ R.cells) (hl : slots + cap ≤ R.slots) (hq : pc + 2 = q)
    (k : ∀ T' h' b kA, b = h.size → Stand p l e R s m args below meth c T' locs (cells + 1) (slots + cap) → T'.heap = h' → Ext h h' → Arv Z h' b kA (newarray.typeOf aty) n [] (defaultValue (newarray.typeOf aty)) → Go p e below Fn Q T' (mkF m q Ls (.ref b :: S))) : Go p e below Fn Q T (mkF m pc Ls (.int n :: S)) := by
  obtain ⟨T', h', cA, X', e', E', A', st⟩ := newP X hx hZ w1 eT (g := mkF m pc Ls (.int n :: S)) rfl hd rfl hn hcap hb hc hl
  subst hq; exact (k T' h' _ cA rfl X' e' E' (Arv.new A' hn)).st st
theorem g_newR (X : Stand p l e R s m args below meth c T locs cells slots) (hx : p.tables.exec = Jvm.exec) (q : Nat) (hZ : Z.Warmed39 s.vm) {own C : String} {index : Nat} (hown : s.vm.findClass own = some m.cls) (w1 : (Jvm.Cond.classLink own index C).before a0 Z = true) (w2 : (Jvm.Cond.arrayOver (.object C)).before a0 Z = true) (eT : T.heap = h) {n : Int32} (hd : decode c.code pc = .ok (.anewarray index, 3)) (hn : ¬ n < 0) (cap : Nat) (hcap : n.toNatClampNeg ≤ cap) (hb : cap * 8 ≤ 536870912) (hc : cells + 1 ≤ R.cells) (hl : slots + cap ≤ R.slots) (hq : pc + 3 = q)
    (k : ∀ T' h' b kA, b = h.size → Stand p l e R s m args below meth c T' locs (cells + 1) (slots + cap) → T'.heap = h' → Ext h h' → Arv Z h' b kA (.object C) n [] .null → Ovr Z kA C → Go p e below Fn Q T' (mkF m q Ls (.ref b :: S))) : Go p e below Fn Q T (mkF m pc Ls (.int n :: S)) := by
  obtain ⟨T', h', cA, X', e', E', A', O', st⟩ := newR X hx hZ hown w1 w2 eT (g := mkF m pc Ls (.int n :: S)) rfl hd rfl hn hcap hb hc hl
  subst hq; exact (k T' h' _ cA rfl X' e' E' (Arv.new A' hn) O').st st
theorem g_iaload (X : Stand p l e R s m args below meth c T locs cells slots) (hx : p.tables.exec = Jvm.exec) (q : Nat) (hZ : Z.Warmed39 s.vm) (eT : T.heap = h) {a : Addr} {kA : ClassId} {n j : Int32} {vs : List Value} {dv v : Value} (V : Arv Z h a kA .int n vs dv) (hj : ¬ j < 0 ∧ j < n) (hv : vs.getD j.toNatClampNeg dv = v) (hd : decode c.code pc = .ok (.iaload, 1)) (hq : pc + 1 = q) (k : Go p e below Fn Q T (mkF m q Ls (v :: S))) : Go p e below Fn Q T (mkF m pc Ls (.int j :: .ref a :: S)) := by
  obtain ⟨cl, A, -, S', -, H', -⟩ := V
  subst hq
  exact k.st fun _ z => X.iaload hx (by rw [eT]; exact A.1) (State.isArrayOf_alike hZ.alike A.2.1) A.2.2 (inb_of S' hj) (H'.at (inb_of S' hj) hv) (g := mkF m pc Ls (.int j :: .ref a :: S)) rfl rfl hd _ z
theorem g_caload (X : Stand p l e R s m args below meth c T locs cells slots) (hx : p.tables.exec = Jvm.exec) (q : Nat) (hZ : Z.Warmed39 s.vm) (eT : T.heap = h) {a : Addr} {kA : ClassId} {n j : Int32} {vs : List Value} {dv v : Value} (V : Arv Z h a kA .char n vs dv) (hj : ¬ j < 0 ∧ j < n) (hv : vs.getD j.toNatClampNeg dv = v) (hd : decode c.code pc = .ok (.caload, 1)) (hq : pc + 1 = q) (k : Go p e below Fn Q T (mkF m q Ls (v :: S))) : Go p e below Fn Q T (mkF m pc Ls (.int j :: .ref a :: S)) := by
  obtain ⟨cl, A, -, S', -, H', -⟩ := V
  subst hq
  exact k.st fun _ z => X.caload hx (by rw [eT]; exact A.1) (State.isArrayOf_alike hZ.alike A.2.1) A.2.2 (inb_of S' hj) (H'.at (inb_of S' hj) hv) (g := mkF m pc Ls (.int j :: .ref a :: S)) rfl rfl hd _ z
theorem g_laload (X : Stand p l e R s m args below meth c T locs cells slots) (hx : p.tables.exec = Jvm.exec) (q : Nat) (hZ : Z.Warmed39 s.vm) (eT : T.heap = h) {a : Addr} {kA : ClassId} {n j : Int32} {vs : List Value} {dv v : Value} (V : Arv Z h a kA .long n vs dv) (hj : ¬ j < 0 ∧ j < n) (hv : vs.getD j.toNatClampNeg dv = v) (hd : decode c.code pc = .ok (.laload, 1)) (hq : pc + 1 = q) (k : Go p e below Fn Q T (mkF m q Ls (v :: S))) : Go p e below Fn Q T (mkF m pc Ls (.int j :: .ref a :: S)) := by
  obtain ⟨cl, A, -, S', -, H', -⟩ := V
  subst hq
  exact k.st fun _ z => X.laload hx (by rw [eT]; exact A.1) (State.isArrayOf_alike hZ.alike A.2.1) A.2.2 (inb_of S' hj) (H'.at (inb_of S' hj) hv) (g := mkF m pc Ls (.int j :: .ref a :: S)) rfl rfl hd _ z
theorem g_baload (X : Stand p l e R s m args below meth c T locs cells slots) (hx : p.tables.exec = Jvm.exec) (q : Nat) (hZ : Z.Warmed39 s.vm) (eT : T.heap = h) {a : Addr} {kA : ClassId} {n j : Int32} {vs : List Value} {dv v : Value} (V : Arv Z h a kA .byte n vs dv) (hj : ¬ j < 0 ∧ j < n) (hv : vs.getD j.toNatClampNeg dv = v) (hd : decode c.code pc = .ok (.baload, 1)) (hq : pc + 1 = q) (k : Go p e below Fn Q T (mkF m q Ls (v :: S))) : Go p e below Fn Q T (mkF m pc Ls (.int j :: .ref a :: S)) := by
  obtain ⟨cl, A, -, S', -, H', -⟩ := V
  subst hq
  exact k.st fun _ z => X.baloadBytes hx (by rw [eT]; exact A.1) (State.isArrayOf_alike hZ.alike A.2.1) A.2.2 (inb_of S' hj) (H'.at (inb_of S' hj) hv) (g := mkF m pc Ls (.int j :: .ref a :: S)) rfl rfl hd _ z
theorem g_aaload (X : Stand p l e R s m args below meth c T locs cells slots) (hx : p.tables.exec = Jvm.exec) (q : Nat) (hZ : Z.Warmed39 s.vm) (eT : T.heap = h) {a : Addr} {kA : ClassId} {C : String} {n j : Int32} {vs : List Value} {dv v : Value} (V : Arv Z h a kA (.object C) n vs dv) (hj : ¬ j < 0 ∧ j < n) (hv : vs.getD j.toNatClampNeg dv = v) (hd : decode c.code pc = .ok (.aaload, 1)) (hq : pc + 1 = q) (k : Go p e below Fn Q T (mkF m q Ls (v :: S))) : Go p e below Fn Q T (mkF m pc Ls (.int j :: .ref a :: S)) := by
  obtain ⟨cl, A, -, S', -, H', -⟩ := V
  subst hq
  exact k.st fun _ z => X.aaload hx (by rw [eT]; exact A.1) (State.isArrayOf_alike hZ.alike A.2.1) rfl A.2.2 (inb_of S' hj) (H'.at (inb_of S' hj) hv) (g := mkF m pc Ls (.int j :: .ref a :: S)) rfl rfl hd _ z
theorem g_arraylength (X : Stand p l e R s m args below meth c T locs cells slots) (hx : p.tables.exec = Jvm.exec) (q : Nat) (hZ : Z.Warmed39 s.vm) (eT : T.heap = h) {a : Addr} {kA : ClassId} {ty : FieldType} {n : Int32} {vs : List Value} {dv : Value} (V : Arv Z h a kA ty n vs dv) (hd : decode c.code pc = .ok (.arraylength, 1)) (hq : pc + 1 = q) (k : Go p e below Fn Q T (mkF m q Ls (.int n :: S))) : Go p e below Fn Q T (mkF m pc Ls (.ref a :: S)) := by
  obtain ⟨cl, A, -, S', N', -, -⟩ := V
  subst hq
  exact k.st fun _ z => X.arraylength hx (by rw [eT]; exact A.1) (State.isArrayOf_alike hZ.alike A.2.1) (g := mkF m pc Ls (.ref a :: S)) rfl rfl hd _ (by rw [len_of S' N']; exact z)
theorem g_aastore (X : Stand p l e R s m args below meth c T locs cells slots) (hx : p.tables.exec = Jvm.exec) (q : Nat) (hZ : Z.Warmed39 s.vm) (eT : T.heap = h) {a b : Addr} {kA : ClassId} {C : String} {n j : Int32} {vs : List Value} {dv : Value} (V : Arv Z h a kA (.object C) n vs dv) (O : Ovr Z kA C) (I : Ins Z h b C true) (i : Nat) (hi : j.toNatClampNeg = i) (hj : ¬ j < 0 ∧ j < n) (hl : i < vs.length) (hd : decode c.code pc = .ok (.aastore, 1)) (hq : pc + 1 = q)
    (k : ∀ T' h', Stand p l e R s m args below meth c T' (locs ++ [⟨a, j.toNatClampNeg⟩]) cells slots → T'.heap = h' → Wr h h' a j.toNatClampNeg (.ref b) → Arv Z h' a kA (.object C) n (vs.set i (.ref b)) dv → Go p e below Fn Q T' (mkF m q Ls S)) : Go p e below Fn Q T (mkF m pc Ls (.ref b :: .int j :: .ref a :: S)) := by
  obtain ⟨cl, A, q1, S', N', H', G'⟩ := V
  subst hq
  obtain ⟨T', h', X', e', W', st⟩ := stR X hx hZ eT A (j := j) (inb_of S' hj) rfl (Sto.ofV A q1 O I) (g := mkF m pc Ls (.ref b :: .int j :: .ref a :: S)) rfl rfl hd
  exact (k T' h' X' e' W' (Arv.set A q1 S' N' H' G' rfl W' i hi hl)).st st
theorem g_iastore (X : Stand p l e R s m args below meth c T locs cells slots) (hx : p.tables.exec = Jvm.exec) (q : Nat) (hZ : Z.Warmed39 s.vm) (eT : T.heap = h) {a : Addr} {kA : ClassId} {n j x : Int32} {vs : List Value} {dv : Value} (V : Arv Z h a kA .int n vs dv) (i : Nat) (hi : j.toNatClampNeg = i) (hj : ¬ j < 0 ∧ j < n) (hl : i < vs.length) (hd : decode c.code pc = .ok (.iastore, 1)) (hq : pc + 1 = q)
    (k : ∀ T' h', Stand p l e R s m args below meth c T' (locs ++ [⟨a, j.toNatClampNeg⟩]) cells slots → T'.heap = h' → Wr h h' a j.toNatClampNeg (.int x) → Arv Z h' a kA .int n (vs.set i (.int x)) dv → Go p e below Fn Q T' (mkF m q Ls S)) : Go p e below Fn Q T (mkF m pc Ls (.int x :: .int j :: .ref a :: S)) := by
  obtain ⟨cl, A, q1, S', N', H', G'⟩ := V
  subst hq
  obtain ⟨T', h', X', e', W', st⟩ := stI X hx hZ eT A (j := j) (inb_of S' hj) (g := mkF m pc Ls (.int x :: .int j :: .ref a :: S)) rfl rfl hd
  exact (k T' h' X' e' W' (Arv.set A q1 S' N' H' G' rfl W' i hi hl)).st st
theorem g_castore (X : Stand p l e R s m args below meth c T locs cells slots) (hx : p.tables.exec = Jvm.exec) (q : Nat) (hZ : Z.Warmed39 s.vm) (eT : T.heap = h) {a : Addr} {kA : ClassId} {n j x : Int32} {vs : List Value} {dv : Value} (V : Arv Z h a kA .char n vs dv) (i : Nat) (hi : j.toNatClampNeg = i) (hj : ¬ j < 0 ∧ j < n) (hl : i < vs.length) (hd : decode c.code pc = .ok (.castore, 1)) (hq : pc + 1 = q)
    (k : ∀ T' h', Stand p l e R s m args below meth c T' (locs ++ [⟨a, j.toNatClampNeg⟩]) cells slots → T'.heap = h' → Wr h h' a j.toNatClampNeg (.int (nar .char x)) → Arv Z h' a kA .char n (vs.set i (.int (nar .char x))) dv → Go p e below Fn Q T' (mkF m q Ls S)) : Go p e below Fn Q T (mkF m pc Ls (.int x :: .int j :: .ref a :: S)) := by
  obtain ⟨cl, A, q1, S', N', H', G'⟩ := V
  subst hq
  obtain ⟨T', h', X', e', W', st⟩ := stC X hx hZ eT A (j := j) (inb_of S' hj) (g := mkF m pc Ls (.int x :: .int j :: .ref a :: S)) rfl rfl hd
  exact (k T' h' X' e' W' (Arv.set A q1 S' N' H' G' (fits_nar_char _) W' i hi hl)).st st
theorem g_bastore (X : Stand p l e R s m args below meth c T locs cells slots) (hx : p.tables.exec = Jvm.exec) (q : Nat) (hZ : Z.Warmed39 s.vm) (eT : T.heap = h) {a : Addr} {kA : ClassId} {n j x : Int32} {vs : List Value} {dv : Value} (V : Arv Z h a kA .byte n vs dv) (i : Nat) (hi : j.toNatClampNeg = i) (hj : ¬ j < 0 ∧ j < n) (hl : i < vs.length) (hd : decode c.code pc = .ok (.bastore, 1)) (hq : pc + 1 = q)
    (k : ∀ T' h', Stand p l e R s m args below meth c T' (locs ++ [⟨a, j.toNatClampNeg⟩]) cells slots → T'.heap = h' → Wr h h' a j.toNatClampNeg (.int (nar .byte x)) → Arv Z h' a kA .byte n (vs.set i (.int (nar .byte x))) dv → Go p e below Fn Q T' (mkF m q Ls S)) : Go p e below Fn Q T (mkF m pc Ls (.int x :: .int j :: .ref a :: S)) := by
  obtain ⟨cl, A, q1, S', N', H', G'⟩ := V
  subst hq
  obtain ⟨T', h', X', e', W', st⟩ := stB X hx hZ eT A (j := j) (inb_of S' hj) (g := mkF m pc Ls (.int x :: .int j :: .ref a :: S)) rfl rfl hd
  exact (k T' h' X' e' W' (Arv.set A q1 S' N' H' G' (fits_nar_byte _) W' i hi hl)).st st
theorem g_callS (X : Stand p l e R s m args below meth c T locs cells slots) (hx : p.tables.exec = Jvm.exec) (q : Nat) (hZ : Z.Warmed39 s.vm) {own : String} {index : Nat} {y : MethodName} {bytes : ByteArray} {maxL : Nat} {ret : Option FieldType} {rm : Room} {Qc : Option Value → Heap → List Loc → Prop} (hown : s.vm.findClass own = some m.cls) (w1 : (Jvm.Cond.methodLink own index y).before a0 Z = true) (w2 : (Jvm.Cond.static y).before a0 Z = true) (w3 : (Jvm.Cond.initialized y.cls).before a0 Z = true) (w4 : (Jvm.Cond.code y bytes maxL ret).before a0 Z = true) (hy : y.cls ≠ "java/lang/invoke/MethodHandle" ∧ y.cls ≠ "java/lang/invoke/VarHandle") (argsL rest : List Value) (hM : OwnMet l Z y bytes maxL ret [] rm argsL h Qc)
    (eT : T.heap = h) (W : Nat) (hf : rm.frames + 1 ≤ R.frames) (hl : W + (maxL + 11) + rm.locals ≤ R.locals) (hc : cells + rm.cells ≤ R.cells) (hs : slots + rm.slots ≤ R.slots) (hml : Ls.size = c.maxLocals) (hlen : ∀ sig, parseMethodDescriptor y.desc = some sig → argsL.length = sig.parameters.length) (hd : decode c.code pc = .ok (.invokestatic index, 3)) (hst : S = argsL.reverse ++ rest) (hW : (rest.map fun v => v.category).sum ≤ W) (hq : pc + 3 = q) (k : ∀ v T' L', Stand p l e R s m args below meth c T' (locs ++ L') (cells + rm.cells) (slots + rm.slots) → Qc v T'.heap L' → Go p e below Fn Q T' (mkF m q Ls (v.toList ++ rest))) : Go p e below Fn Q T (mkF m pc Ls S) := by
  subst hst
  obtain ⟨v, _, ⟨T', L', k', n'⟩, -, X', ⟨Lc, hQ, l', y', z'⟩, st⟩ := Jvm.LawKit.callS X hx (y := y) hown (mvT hZ w1) (mvT hZ w2) (mvT hZ w3) (mvT hZ w4) hy (backOf (W := W) hM hZ w4 w3 hf hl) (g := mkF m pc Ls (argsL.reverse ++ rest)) rfl hml (argsL := argsL) (rest := rest) hlen rfl (by show 2 * 0 + _ ≤ _; omega) hd (fun _ _ => ⟨rfl, eT, hc, hs⟩)
  dsimp only [Pt.U, Pt.locs, Pt.cells, Pt.slots] at X' l' y' z' st hQ
  subst l' y' z' hq
  exact (k v T' Lc X' hQ).st st
theorem g_callI (X : Stand p l e R s m args below meth c T locs cells slots) (hx : p.tables.exec = Jvm.exec) (q : Nat) (hZ : Z.Warmed39 s.vm) {own : String} {index : Nat} {y : MethodName} {bytes : ByteArray} {maxL : Nat} {rm : Room} {Qc : Option Value → Heap → List Loc → Prop} (hy1 : y.name = "<init>") (hown : s.vm.findClass own = some m.cls) (w1 : (Jvm.Cond.methodLink own index y).before a0 Z = true) (w2 : (Jvm.Cond.instanceMethod y).before a0 Z = true) (w3 : (Jvm.Cond.initialized y.cls).before a0 Z = true) (w4 : (Jvm.Cond.code y bytes maxL none).before a0 Z = true) (hy : y.cls ≠ "java/lang/invoke/MethodHandle" ∧ y.cls ≠ "java/lang/invoke/VarHandle") (a : Addr) (argsL rest : List Value) (hM : OwnMet l Z y bytes maxL none [] rm (.ref a :: argsL) h Qc)
    (eT : T.heap = h) (W : Nat) (hf : rm.frames + 1 ≤ R.frames) (hl : W + (maxL + 11) + rm.locals ≤ R.locals) (hc : cells + rm.cells ≤ R.cells) (hs : slots + rm.slots ≤ R.slots) (hml : Ls.size = c.maxLocals) (hlen : ∀ sig, parseMethodDescriptor y.desc = some sig → argsL.length = sig.parameters.length) (hd : decode c.code pc = .ok (.invokespecial index, 3)) (hst : S = argsL.reverse ++ .ref a :: rest) (hW : (rest.map fun v => v.category).sum ≤ W) (hq : pc + 3 = q) (k : ∀ v T' L', Stand p l e R s m args below meth c T' (locs ++ L') (cells + rm.cells) (slots + rm.slots) → Qc v T'.heap L' → Go p e below Fn Q T' (mkF m q Ls (v.toList ++ rest))) : Go p e below Fn Q T (mkF m pc Ls S) := by
  subst hst
  obtain ⟨v, _, ⟨T', L', k', n'⟩, -, X', ⟨Lc, hQ, l', y', z'⟩, st⟩ := X.specialBack hx (y := y) hy1 hown (mvT hZ w1) (mvT hZ w2) (mvT hZ w4) hy (backOf (W := W) hM hZ w4 w3 hf hl) (g := mkF m pc Ls (argsL.reverse ++ .ref a :: rest)) rfl hml (Steps.refl _) (a := a) (argsL := argsL) (rest := rest) hlen rfl (by show 2 * 0 + _ ≤ _; omega) hd (fun _ _ => ⟨rfl, eT, hc, hs⟩)
  dsimp only [Pt.U, Pt.locs, Pt.cells, Pt.slots] at X' l' y' z' st hQ
  subst l' y' z' hq
  exact (k v T' Lc X' hQ).st fun _ z => st.trans z
theorem g_callV (X : Stand p l e R s m args below meth c T locs cells slots) (hx : p.tables.exec = Jvm.exec) (q : Nat) (hZ : Z.Warmed39 s.vm) {own C : String} {index : Nat} {y : MethodName} {bytes : ByteArray} {maxL : Nat} {ret : Option FieldType} {rm : Room} {Qc : Option Value → Heap → List Loc → Prop} (hown : s.vm.findClass own = some m.cls) (w1 : (Jvm.Cond.methodLink own index y).before a0 Z = true) (w2 : (Jvm.Cond.declares y).before a0 Z = true) (w5 : (Jvm.Cond.selects C y y).before a0 Z = true) (w6 : (Jvm.Cond.instanceMethod y).before a0 Z = true) (w3 : (Jvm.Cond.initialized y.cls).before a0 Z = true) (w4 : (Jvm.Cond.code y bytes maxL ret).before a0 Z = true) (hy : y.cls ≠ "java/lang/invoke/MethodHandle" ∧ y.cls ≠ "java/lang/invoke/VarHandle") (a : Addr) (E : Exa Z h a C) (argsL rest : List Value) (hM : OwnMet l Z y bytes maxL ret [] rm (.ref a :: argsL) h Qc)
    (eT : T.heap = h) (W : Nat) (hf : rm.frames + 1 ≤ R.frames) (hl : W + (maxL + 11) + rm.locals ≤ R.locals) (hc : cells + rm.cells ≤ R.cells) (hs : slots + rm.slots ≤ R.slots) (hml : Ls.size = c.maxLocals) (hlen : ∀ sig, parseMethodDescriptor y.desc = some sig → argsL.length = sig.parameters.length) (hd : decode c.code pc = .ok (.invokevirtual index, 3)) (hst : S = argsL.reverse ++ .ref a :: rest) (hW : (rest.map fun v => v.category).sum ≤ W) (hq : pc + 3 = q) (k : ∀ v T' L', Stand p l e R s m args below meth c T' (locs ++ L') (cells + rm.cells) (slots + rm.slots) → Qc v T'.heap L' → Go p e below Fn Q T' (mkF m q Ls (v.toList ++ rest))) : Go p e below Fn Q T (mkF m pc Ls S) := by
  subst hst
  obtain ⟨cq, kq, qa, qb, qc⟩ := isOf (T := T) hZ eT E
  obtain ⟨v, _, ⟨T', L', k', n'⟩, -, X', ⟨Lc, hQ, l', y', z'⟩, st⟩ := X.virtualBack hx (y := y) (z := y) hown (mvT hZ w1) (mvT hZ w2) (notFace_of_selects (args := #[]) (mvT hZ w5)) (mvT hZ w5) (mvT hZ w6) hy (backOf (W := W) hM hZ w4 w3 hf hl) qa qc (g := mkF m pc Ls (argsL.reverse ++ .ref a :: rest)) rfl hml (Steps.refl _) (argsL := argsL) (rest := rest) hlen rfl (by show 2 * 0 + _ ≤ _; omega) hd (fun _ _ => ⟨rfl, eT, hc, hs⟩)
  dsimp only [Pt.U, Pt.locs, Pt.cells, Pt.slots] at X' l' y' z' st hQ
  subst l' y' z' hq
  exact (k v T' Lc X' hQ).st fun _ z => st.trans z
theorem g_newPE (X : Stand p l e R s m args below meth c T locs cells slots) (hx : p.tables.exec = Jvm.exec) (q : Nat) (hZ : Z.Warmed39 s.vm) {aty : ArrayType} (w1 : (Jvm.Cond.arrayClass (newarray.typeOf aty)).before a0 Z = true) (eT : T.heap = h) {n : Int32} (hd : decode c.code pc = .ok (.newarray aty, 2)) (hn : ¬ n < 0) (cap : Nat) (hcap : n.toNatClampNeg ≤ cap) (hb : cap * 8 ≤ 536870912) (hc : cells + 1 ≤ R.cells) (hl : slots + cap ≤ R.slots) (ad : String) (had : "[" ++ (newarray.typeOf aty).toString = ad) (hq : pc + 2 = q)
    (k : ∀ T' h' b kA, b = h.size → Stand p l e R s m args below meth c T' locs (cells + 1) (slots + cap) → T'.heap = h' → Ext h h' → Arv Z h' b kA (newarray.typeOf aty) n [] (defaultValue (newarray.typeOf aty)) → Exa Z h' b ad → Go p e below Fn Q T' (mkF m q Ls (.ref b :: S))) : Go p e below Fn Q T (mkF m pc Ls (.int n :: S)) := by
  obtain ⟨T', h', cA, X', e', E', A', I', st⟩ := newPE X hx hZ w1 eT (g := mkF m pc Ls (.int n :: S)) rfl hd rfl hn hcap hb hc hl had
  subst hq; exact (k T' h' _ cA rfl X' e' E' (Arv.new A' hn) I').st st
theorem g_clone (X : Stand p l e R s m args below meth c T locs cells slots) (hx : p.tables.exec = Jvm.exec) (q : Nat) (hZ : Z.Warmed39 s.vm) {own ad : String} {index : Nat} (hown : s.vm.findClass own = some m.cls) (w1 : (Jvm.Cond.methodLink own index ⟨ad, "clone", "()Ljava/lang/Object;"⟩).before a0 Z = true) (w2 : (Jvm.Cond.sameMethod ad "java/lang/Object" "clone" "()Ljava/lang/Object;").before a0 Z = true) (w3 : (Jvm.Cond.native ⟨"java/lang/Object", "clone", "()Ljava/lang/Object;"⟩).before a0 Z = true) (w4 : (Jvm.Cond.instanceMethod ⟨"java/lang/Object", "clone", "()Ljava/lang/Object;"⟩).before a0 Z = true) (w5 : (Jvm.Cond.selects ad ⟨ad, "clone", "()Ljava/lang/Object;"⟩ ⟨"java/lang/Object", "clone", "()Ljava/lang/Object;"⟩).before a0 Z = true) (w6 : (Jvm.Cond.castable ad "java/lang/Cloneable").before a0 Z = true)
    (eT : T.heap = h) {a : Addr} {kA : ClassId} {ty : FieldType} {n : Int32} {vs : List Value} {dv : Value} (V : Arv Z h a kA ty n vs dv) (E : Exa Z h a ad) (hml : Ls.size = c.maxLocals) (hd : decode c.code pc = .ok (.invokevirtual index, 3)) (hf : 1 ≤ R.frames) (W cap : Nat) (hW : (S.map fun v => v.category).sum ≤ W) (hl : W + 14 ≤ R.locals) (hcap : n.toNatClampNeg ≤ cap) (hc : cells + 1 ≤ R.cells) (hsl : slots + cap ≤ R.slots) (hq : pc + 3 = q)
    (k : ∀ T' h' b, b = h.size → Stand p l e R s m args below meth c T' locs (cells + 1) (slots + cap) → T'.heap = h' → Ext h h' → Arv Z h' b kA ty n vs dv → Exa Z h' b ad → Go p e below Fn Q T' (mkF m q Ls (.ref b :: S))) : Go p e below Fn Q T (mkF m pc Ls (.ref a :: S)) := by
  obtain ⟨T', h', X', e', E', V', I', st⟩ := cloneH X hx hZ hown w1 w2 w3 w4 w5 w6 eT V.arh E (g := mkF m pc Ls (.ref a :: S)) rfl hml rfl hd hf (W := W) (by show 2 * 0 + _ ≤ _; omega) hl hcap hc hsl
  subst hq; exact (k T' h' _ rfl X' e' E' V' I').st st
theorem g_cast (X : Stand p l e R s m args below meth c T locs cells slots) (hx : p.tables.exec = Jvm.exec) (q : Nat) (hZ : Z.Warmed39 s.vm) {own C : String} {index : Nat} (hown : s.vm.findClass own = some m.cls) (w1 : (Jvm.Cond.classLink own index C).before a0 Z = true) (eT : T.heap = h) {a : Addr} (I : Ins Z h a C true) (hd : decode c.code pc = .ok (.checkcast index, 3)) (hq : pc + 3 = q)
    (k : ∀ T', Stand p l e R s m args below meth c T' locs cells slots → T'.heap = h → Go p e below Fn Q T' (mkF m q Ls (.ref a :: S))) : Go p e below Fn Q T (mkF m pc Ls (.ref a :: S)) := by
  obtain ⟨T', X', e', st⟩ := castY X hx hZ hown w1 eT I (g := mkF m pc Ls (.ref a :: S)) rfl rfl hd
  subst hq; exact (k T' X' e').st st
theorem g_callU (X : Stand p l e R s m args below meth c T locs cells slots) (hx : p.tables.exec = Jvm.exec) (q : Nat) (hZ : Z.Warmed39 s.vm) {own C owner : String} {index : Nat} {x y : MethodName} {bytes : ByteArray} {maxL : Nat} {ret : Option FieldType} {rm : Room} {Qc : Option Value → Heap → List Loc → Prop} (hown : s.vm.findClass own = some m.cls) (w1 : (Jvm.Cond.methodLink own index x).before a0 Z = true) (w2 : (Jvm.Cond.sameMethod x.cls owner x.name x.desc).before a0 Z = true) (w7 : (Jvm.Cond.declares ⟨owner, x.name, x.desc⟩).before a0 Z = true) (hy : owner ≠ "java/lang/invoke/MethodHandle" ∧ owner ≠ "java/lang/invoke/VarHandle") (w5 : (Jvm.Cond.selects C x y).before a0 Z = true) (w6 : (Jvm.Cond.instanceMethod y).before a0 Z = true) (w3 : (Jvm.Cond.initialized y.cls).before a0 Z = true) (w4 : (Jvm.Cond.code y bytes maxL ret).before a0 Z = true) (a : Addr) (E : Exa Z h a C) (argsL rest : List Value) (hM : OwnMet l Z y bytes maxL ret [] rm (.ref a :: argsL) h Qc)
    (eT : T.heap = h) (W : Nat) (hf : rm.frames + 1 ≤ R.frames) (hl : W + (maxL + 11) + rm.locals ≤ R.locals) (hc : cells + rm.cells ≤ R.cells) (hs : slots + rm.slots ≤ R.slots) (hml : Ls.size = c.maxLocals) (hlen : ∀ sig, parseMethodDescriptor x.desc = some sig → argsL.length = sig.parameters.length) (hd : decode c.code pc = .ok (.invokevirtual index, 3)) (hst : S = argsL.reverse ++ .ref a :: rest) (hW : (rest.map fun v => v.category).sum ≤ W) (hq : pc + 3 = q) (k : ∀ v T' L', Stand p l e R s m args below meth c T' (locs ++ L') (cells + rm.cells) (slots + rm.slots) → Qc v T'.heap L' → Go p e below Fn Q T' (mkF m q Ls (v.toList ++ rest))) : Go p e below Fn Q T (mkF m pc Ls S) := by
  subst hst
  obtain ⟨cq, kq, qa, qb, qc⟩ := isOf (T := T) hZ eT E
  obtain ⟨v, _, ⟨T', L', k', n'⟩, -, X', ⟨Lc, hQ, l', y', z'⟩, st⟩ := X.virtualBackUp hx (x := x) (y := y) hown (mvT hZ w1) (mvT hZ w2) (mvT hZ w7) hy (mvT hZ w5) (mvT hZ w6) (backOf (W := W) hM hZ w4 w3 hf hl) qa qc (g := mkF m pc Ls (argsL.reverse ++ .ref a :: rest)) rfl hml (Steps.refl _) (argsL := argsL) (rest := rest) hlen rfl (by show 2 * 0 + _ ≤ _; omega) hd (fun _ _ => ⟨rfl, eT, hc, hs⟩)
  dsimp only [Pt.U, Pt.locs, Pt.cells, Pt.slots] at X' l' y' z' st hQ
  subst l' y' z' hq
  exact (k v T' Lc X' hQ).st fun _ z => st.trans z
theorem g_callP (X : Stand p l e R s m args below meth c T locs cells slots) (hx : p.tables.exec = Jvm.exec) (q : Nat) (hZ : Z.Warmed39 s.vm) {own C0 : String} {index : Nat} {y y0 : MethodName} {bytes : ByteArray} {maxL : Nat} {ret : Option FieldType} {rm : Room} {Qc : Option Value → Heap → List Loc → Prop} (hown : s.vm.findClass own = some m.cls) (w1 : (Jvm.Cond.methodLink own index y).before a0 Z = true) (w6 : (Jvm.Cond.instanceMethod y).before a0 Z = true) (w8 : (Jvm.Cond.privateMethod y).before a0 Z = true) (w5 : (Jvm.Cond.selects C0 y0 y0).before a0 Z = true) (hc0 : y0.cls = y.cls) (w3 : (Jvm.Cond.initialized y.cls).before a0 Z = true) (w4 : (Jvm.Cond.code y bytes maxL ret).before a0 Z = true) (hy : y.cls ≠ "java/lang/invoke/MethodHandle" ∧ y.cls ≠ "java/lang/invoke/VarHandle") {C : String} (a : Addr) (E : Exa Z h a C) (argsL rest : List Value) (hM : OwnMet l Z y bytes maxL ret [] rm (.ref a :: argsL) h Qc)
    (eT : T.heap = h) (W : Nat) (hf : rm.frames + 1 ≤ R.frames) (hl : W + (maxL + 11) + rm.locals ≤ R.locals) (hc : cells + rm.cells ≤ R.cells) (hs : slots + rm.slots ≤ R.slots) (hml : Ls.size = c.maxLocals) (hlen : ∀ sig, parseMethodDescriptor y.desc = some sig → argsL.length = sig.parameters.length) (hd : decode c.code pc = .ok (.invokevirtual index, 3)) (hst : S = argsL.reverse ++ .ref a :: rest) (hW : (rest.map fun v => v.category).sum ≤ W) (hq : pc + 3 = q) (k : ∀ v T' L', Stand p l e R s m args below meth c T' (locs ++ L') (cells + rm.cells) (slots + rm.slots) → Qc v T'.heap L' → Go p e below Fn Q T' (mkF m q Ls (v.toList ++ rest))) : Go p e below Fn Q T (mkF m pc Ls S) := by
  subst hst
  have hpriv : s.PrivateAt y := Cond.privateMethod_at (mvP hZ w8 (args := #[]))
  have hsel : (Jvm.Cond.selects y.cls y y).before args s = true := by
    obtain ⟨c2, r2, m2, -, -, q3, -, kP, hkP, hkPi⟩ := Cond.selects_spec (mvT hZ w5 : (Jvm.Cond.selects C0 y0 y0).before args s = true)
    exact selects_self_of_private (hc0 ▸ findClass_of_methodNamed q3) hkP hkPi hpriv (mvT hZ w6) hy
  obtain ⟨cq, qa, qb⟩ := E.cell
  obtain ⟨v, _, ⟨T', L', k', n'⟩, -, X', ⟨Lc, hQ, l', y', z'⟩, st⟩ := X.privateBack hx (y := y) hown (mvT hZ w1) (mvT hZ w6) hsel hpriv (mvT hZ w4) hy (backOf (W := W) hM hZ w4 w3 hf hl) (g := mkF m pc Ls (argsL.reverse ++ .ref a :: rest)) rfl hml (Steps.refl _) (a := a) (by rw [eT]; exact qa) qb (argsL := argsL) (rest := rest) hlen rfl (by show 2 * 0 + _ ≤ _; omega) hd (fun _ _ => ⟨rfl, eT, hc, hs⟩)
  dsimp only [Pt.U, Pt.locs, Pt.cells, Pt.slots] at X' l' y' z' st hQ
  subst l' y' z' hq
  exact (k v T' Lc X' hQ).st fun _ z => st.trans z
theorem own_sta_keep {h' : Heap} {C n d : String} {v : Value} (F : Sta Z h C n d v) (Kp : Keep h h' []) : Sta Z h' C n d v := by
  obtain ⟨cf, i, k, f, st, cell, h1, h2, h3, h4, h5, r⟩ := F
  exact ⟨cf, i, k, f, st, cell, h1, h2, h3, h4, Kp.2.1 _ _ h5 nin0, r⟩
theorem own_plain {C : String} {x : Addr} (F : Exa Z h x C) : ∃ cl : Cell, h[x]? = some cl ∧ cl.vm.isStatics = false := by
  obtain ⟨c, _, h1, -, -, h4, -⟩ := F; exact ⟨c, h1, h4⟩
theorem own_sta_keep' {h' : Heap} {C n d : String} {v : Value} {x : Addr} (F : Sta Z h C n d v) (Kp : Keep h h' [x]) (hp : ∃ cl : Cell, h[x]? = some cl ∧ cl.vm.isStatics = false) : Sta Z h' C n d v := by
  obtain ⟨cf, i, k, f, st, cell, h1, h2, h3, h4, h5, h6, r⟩ := F
  obtain ⟨cl, q1, q2⟩ := hp
  have ne : st ≠ x := fun q => by rw [q] at h5; rw [q1] at h5; cases h5; rw [q2] at h6; cases h6
  exact ⟨cf, i, k, f, st, cell, h1, h2, h3, h4, Kp.2.1 _ _ h5 (ninS ne nin0), h6, r⟩
end OwnKit
section OwnWords
variable {args : Array Value} {first s : State} {o : Option Outcome} {idx : List Nat} {t u : Term} {Z : State} {a : Addr} {cl : Cell} {ty : FieldType}
theorem own_int_v {k : Int32} (h : (Jvm.Cond.eq t (.int k)).value args first o s idx = some true) : t.eval args first o idx s = some (.int k) := by
  simp only [Cond.value, Term.eval] at h
  cases ht : t.eval args first o idx s with
  | none => simp [ht] at h
  | some x => cases x <;> simp [ht] at h ⊢; exact h
theorem own_ref_v (h : (Jvm.Cond.eq t u).value args first o s idx = some true) (hu : u.eval args first o idx s = some (.ref a)) : t.eval args first o idx s = some (.ref a) := by
  simp only [Cond.value, hu] at h
  cases ht : t.eval args first o idx s with
  | none => simp [ht] at h
  | some x => cases x <;> simp [ht] at h ⊢; exact h
theorem own_fld {C n d : String} {k : Int32} (h : (Jvm.Cond.eq (.field t C n d) (.int k)).value args Z none Z [] = some true) (ht : t.eval args Z none [] Z = some (.ref a)) : Fld Z Z.heap a C n d (.int k) := Fld.start ((fld_at ht).symm.trans (own_int_v h))
theorem own_len {k : Int32} (h : (Jvm.Cond.eq (.length t) (.int k)).value args Z none Z [] = some true) (ht : t.eval args Z none [] Z = some (.ref a)) (A : Arr Z Z.heap a cl ty) : cl.slots.size < 2 ^ 31 ∧ cl.slots.size.toInt32 = k := by
  have h1 := own_int_v h
  have hA : Z.arrayAt? a = some cl := Arr.fin (Vm.Alike.refl _) A
  by_cases hl : cl.slots.size < 2 ^ 31
  · rw [len_f ht hA hl] at h1
    exact ⟨hl, by simpa using h1⟩
  · simp [Term.eval, ht, hA, hl] at h1
theorem own_elem {k : Int32} {v : Value} (h : (Term.elem t (.int k)).eval args Z none [] Z = some v) (ht : t.eval args Z none [] Z = some (.ref a)) (A : Arr Z Z.heap a cl ty) : cl.slots[k.toNatClampNeg]? = some v := (elem_in h ht (Term.int_eval k) A.1).2
end OwnWords
theorem own_nn (a : Int32) : ¬ (a &&& (2147483647 : Int32)) < 0 := by
  rw [Int32.lt_iff_toInt_lt]
  show ¬ (a &&& 2147483647).toBitVec.toInt < 0
  rw [Int32.toBitVec_and, BitVec.toInt_neg_iff]
  rw [Nat.not_le, BitVec.toNat_and]
  have : a.toBitVec.toNat &&& (2147483647 : Int32).toBitVec.toNat ≤ (2147483647 : Int32).toBitVec.toNat := Nat.and_le_right
  have e : (2147483647 : Int32).toBitVec.toNat = 2147483647 := by decide
  omega
theorem own_nnL (a : Int64) : ¬ (a &&& (9223372036854775807 : Int64)) < 0 := by
  rw [Int64.lt_iff_toInt_lt]
  show ¬ (a &&& 9223372036854775807).toBitVec.toInt < 0
  rw [Int64.toBitVec_and, BitVec.toInt_neg_iff]
  rw [Nat.not_le, BitVec.toNat_and]
  have : a.toBitVec.toNat &&& (9223372036854775807 : Int64).toBitVec.toNat ≤ (9223372036854775807 : Int64).toBitVec.toNat := Nat.and_le_right
  have e : (9223372036854775807 : Int64).toBitVec.toNat = 9223372036854775807 := by decide
  omega
theorem own_modb (a n : Int32) (ha : ¬ a < 0) (hn : 0 < n) : ¬ a % n < 0 ∧ a % n < n := by
  rw [Int32.lt_iff_toInt_lt] at *
  rw [Int32.lt_iff_toInt_lt] at *
  rw [Int32.toInt_mod]
  have z : (0 : Int32).toInt = 0 := rfl
  rw [z] at *
  have h1 := Int.tmod_nonneg n.toInt (Int.not_lt.mp ha)
  have h2 := Int.tmod_lt_of_pos a.toInt hn
  omega
def own_dig (c : Int32) : Int32 := if c < 48 then 0 else if 57 < c then 0 else 1
theorem own_sub48 (c : Int32) : (c - 48).toInt = c.toInt - 48 ∨ (c.toInt < -2147483600 ∧ (c - 48).toInt = c.toInt - 48 + 4294967296) := by
  have h1 := c.le_toInt; have h2 := c.toInt_lt
  have z : (48 : Int32).toInt = 48 := rfl
  rw [Int32.toInt_sub, z]
  by_cases h : c.toInt - 48 < -2147483648
  · right
    refine ⟨by omega, ?_⟩
    have e : (c.toInt - 48).bmod (2^32) = c.toInt - 48 + 4294967296 := by
      rw [← Int.add_bmod_right, Int.bmod_eq_of_le] <;> omega
    exact e
  · left
    rw [Int.bmod_eq_of_le] <;> omega
theorem own_dig_t {c : Int32} (h : ¬ own_dig c = 0) : ¬ c - 48 < 0 ∧ ¬ 9 < c - 48 := by
  unfold own_dig at h
  have z0 : (0 : Int32).toInt = 0 := rfl
  have z9 : (9 : Int32).toInt = 9 := rfl
  have z48 : (48 : Int32).toInt = 48 := rfl
  have z57 : (57 : Int32).toInt = 57 := rfl
  have e := own_sub48 c
  split at h
  · exact absurd rfl h
  · split at h
    · exact absurd rfl h
    · rename_i p q
      rw [Int32.lt_iff_toInt_lt] at *
      rw [Int32.lt_iff_toInt_lt] at *
      omega
theorem own_dig_f {c : Int32} (h : own_dig c = 0) : c - 48 < 0 ∨ 9 < c - 48 := by
  unfold own_dig at h
  have z0 : (0 : Int32).toInt = 0 := rfl
  have z9 : (9 : Int32).toInt = 9 := rfl
  have z48 : (48 : Int32).toInt = 48 := rfl
  have z57 : (57 : Int32).toInt = 57 := rfl
  have e := own_sub48 c
  have h1 := c.le_toInt; have h2 := c.toInt_lt
  rw [Int32.lt_iff_toInt_lt, Int32.lt_iff_toInt_lt]
  split at h
  · rename_i p
    rw [Int32.lt_iff_toInt_lt] at p
    omega
  · split at h
    · rename_i p q
      rw [Int32.lt_iff_toInt_lt] at q
      omega
    · exact absurd h (by decide)
theorem own_pn0 : plainName "gleanwell/NumberReadingSumDecimalDigitsPinLaw" = true := by first | (simp [plainName, overriddenIn]; done) | decide +kernel
theorem d1_0 : decode method_2_code 0 = .ok (.iload_n 0, 1) := by decide +kernel
theorem d1_1 : decode method_2_code 1 = .ok (.iconst 1, 1) := by decide +kernel
theorem d1_2 : decode method_2_code 2 = .ok (.iand, 1) := by decide +kernel
theorem d1_3 : decode method_2_code 3 = .ok (.ifCond .eq 14, 3) := by decide +kernel
theorem d1_17 : decode method_2_code 17 = .ok (.iload_n 0, 1) := by decide +kernel
theorem d1_18 : decode method_2_code 18 = .ok (.iconst 1, 1) := by decide +kernel
theorem d1_19 : decode method_2_code 19 = .ok (.iushr, 1) := by decide +kernel
theorem d1_20 : decode method_2_code 20 = .ok (.sipush 255, 3) := by decide +kernel
theorem d1_23 : decode method_2_code 23 = .ok (.iand, 1) := by decide +kernel
theorem d1_24 : decode method_2_code 24 = .ok (.i2c, 1) := by decide +kernel
theorem d1_25 : decode method_2_code 25 = .ok (.ireturn, 1) := by decide +kernel
theorem d1_6 : decode method_2_code 6 = .ok (.bipush 48, 2) := by decide +kernel
theorem d1_8 : decode method_2_code 8 = .ok (.iload_n 0, 1) := by decide +kernel
theorem d1_9 : decode method_2_code 9 = .ok (.iconst 1, 1) := by decide +kernel
theorem d1_10 : decode method_2_code 10 = .ok (.iushr, 1) := by decide +kernel
theorem d1_11 : decode method_2_code 11 = .ok (.bipush 10, 2) := by decide +kernel
theorem d1_13 : decode method_2_code 13 = .ok (.irem, 1) := by decide +kernel
theorem d1_14 : decode method_2_code 14 = .ok (.iadd, 1) := by decide +kernel
theorem d1_15 : decode method_2_code 15 = .ok (.i2c, 1) := by decide +kernel
theorem d1_16 : decode method_2_code 16 = .ok (.ireturn, 1) := by decide +kernel
set_option maxRecDepth 65536 in
set_option maxHeartbeats 40000000 in
theorem rm1 (l : Launch) (Z : State) (a0 : Array Value) (hw : ∀ d ∈ tables_1, d.before a0 Z = true) (x : Int32) (h0 : Heap) (n0 : Nat) (Z0 : n0 ≤ h0.size)  :
    OwnMet l Z (⟨"gleanwell/NumberReadingSumDecimalDigitsPinLaw", "draw", "(I)C"⟩ : MethodName) method_2_code 1 (some .char) [] ({ frames := 0, cells := 0, slots := 0, locals := 0 } : Room) [(.int x)] h0 (fun v h L => (∃ z : Int32, v = some (.int z)) ∧ Fr n0 L ∧ h = h0) := by
  refine own_body (Ls := #[.val (.int x)]) (plainFor_of_name own_pn0) (fun m => by first | (simp [entryFrame, mkF, argsToLocals, Value.category]; done) | rfl) (fun p e s m below meth cO T0 hx hby hml hown hnm hret hlk hZ X0 e0 => ?_)
  have hown : s.vm.findClass "gleanwell/NumberReadingSumDecimalDigitsPinLaw" = some m.cls := hown
  have N0 := Fr.nil n0
  refine g_iloadN X0 hx 1 (hb hby d1_0) rfl rfl ?_
  refine g_iconst X0 hx 2 (1 : Int32) (hb hby d1_1) (by decide) rfl ?_
  refine g_iand X0 hx 3 (x &&& (1 : Int32)) (hb hby d1_2) rfl rfl ?_
  by_cases hc1 : (x &&& (1 : Int32)) = (0 : Int32)
  · refine g_ifT X0 hx 17 (hb hby d1_3) ((if0 _ _).trans (teq hc1).1) (by decide) (by decide) ?_
    refine g_iloadN X0 hx 18 (hb hby d1_17) rfl rfl ?_
    refine g_iconst X0 hx 19 (1 : Int32) (hb hby d1_18) (by decide) rfl ?_
    refine g_iushr X0 hx 20 ((x.toUInt32 >>> ((1 : Int32) &&& 31).toUInt32).toInt32) (hb hby d1_19) rfl rfl ?_
    refine g_sipush X0 hx 23 (255 : Int32) (hb hby d1_20) (by decide) rfl ?_
    refine g_iand X0 hx 24 (((x.toUInt32 >>> ((1 : Int32) &&& 31).toUInt32).toInt32) &&& (255 : Int32)) (hb hby d1_23) rfl rfl ?_
    refine g_i2c X0 hx 25 ((((x.toUInt32 >>> ((1 : Int32) &&& 31).toUInt32).toInt32) &&& (255 : Int32)).toUInt32.toUInt16.toUInt32.toInt32) (hb hby d1_24) rfl rfl ?_
    exact g_retC X0 hx hret hlk (Jvm.Free.XT.narrow_c _) (hb hby d1_25) (by decide) (by decide) ⟨⟨_, rfl⟩, N0, e0⟩
  · refine g_ifF X0 hx 6 (hb hby d1_3) ((if0 _ _).trans (feq hc1).1) rfl ?_
    refine g_bipush X0 hx 8 (48 : Int32) (hb hby d1_6) (by decide) rfl ?_
    refine g_iloadN X0 hx 9 (hb hby d1_8) rfl rfl ?_
    refine g_iconst X0 hx 10 (1 : Int32) (hb hby d1_9) (by decide) rfl ?_
    refine g_iushr X0 hx 11 ((x.toUInt32 >>> ((1 : Int32) &&& 31).toUInt32).toInt32) (hb hby d1_10) rfl rfl ?_
    refine g_bipush X0 hx 13 (10 : Int32) (hb hby d1_11) (by decide) rfl ?_
    refine g_irem X0 hx 14 (((x.toUInt32 >>> ((1 : Int32) &&& 31).toUInt32).toInt32) % (10 : Int32)) (hb hby d1_13) (by decide) rfl rfl ?_
    refine g_iadd X0 hx 15 ((48 : Int32) + (((x.toUInt32 >>> ((1 : Int32) &&& 31).toUInt32).toInt32) % (10 : Int32))) (hb hby d1_14) rfl rfl ?_
    refine g_i2c X0 hx 16 (((48 : Int32) + (((x.toUInt32 >>> ((1 : Int32) &&& 31).toUInt32).toInt32) % (10 : Int32))).toUInt32.toUInt16.toUInt32.toInt32) (hb hby d1_15) rfl rfl ?_
    exact g_retC X0 hx hret hlk (Jvm.Free.XT.narrow_c _) (hb hby d1_16) (by decide) (by decide) ⟨⟨_, rfl⟩, N0, e0⟩
theorem d2_0 : decode method_3_code 0 = .ok (.iload_n 0, 1) := by decide +kernel
theorem d2_1 : decode method_3_code 1 = .ok (.bipush 48, 2) := by decide +kernel
theorem d2_3 : decode method_3_code 3 = .ok (.if_icmp .lt 13, 3) := by decide +kernel
theorem d2_16 : decode method_3_code 16 = .ok (.iconst 0, 1) := by decide +kernel
theorem d2_17 : decode method_3_code 17 = .ok (.ireturn, 1) := by decide +kernel
theorem d2_6 : decode method_3_code 6 = .ok (.iload_n 0, 1) := by decide +kernel
theorem d2_7 : decode method_3_code 7 = .ok (.bipush 57, 2) := by decide +kernel
theorem d2_9 : decode method_3_code 9 = .ok (.if_icmp .gt 7, 3) := by decide +kernel
theorem d2_12 : decode method_3_code 12 = .ok (.iconst 1, 1) := by decide +kernel
theorem d2_13 : decode method_3_code 13 = .ok (.goto 4, 3) := by decide +kernel
set_option maxRecDepth 65536 in
set_option maxHeartbeats 40000000 in
theorem rm2 (l : Launch) (Z : State) (a0 : Array Value) (hw : ∀ d ∈ tables_1, d.before a0 Z = true) (c : Int32) (h0 : Heap) (n0 : Nat) (Z0 : n0 ≤ h0.size)  :
    OwnMet l Z (⟨"gleanwell/NumberReadingSumDecimalDigitsPinLaw", "isDig", "(C)Z"⟩ : MethodName) method_3_code 1 (some .boolean) [] ({ frames := 0, cells := 0, slots := 0, locals := 0 } : Room) [(.int c)] h0 (fun v h L => v = some (.int (own_dig c)) ∧ Fr n0 L ∧ h = h0) := by
  refine own_body (Ls := #[.val (.int c)]) (plainFor_of_name own_pn0) (fun m => by first | (simp [entryFrame, mkF, argsToLocals, Value.category]; done) | rfl) (fun p e s m below meth cO T0 hx hby hml hown hnm hret hlk hZ X0 e0 => ?_)
  have hown : s.vm.findClass "gleanwell/NumberReadingSumDecimalDigitsPinLaw" = some m.cls := hown
  have N0 := Fr.nil n0
  refine g_iloadN X0 hx 1 (hb hby d2_0) rfl rfl ?_
  refine g_bipush X0 hx 3 (48 : Int32) (hb hby d2_1) (by decide) rfl ?_
  by_cases hc1 : c < (48 : Int32)
  · refine g_icT X0 hx 16 (hb hby d2_3) (tlt hc1).1 (by decide) (by decide) ?_
    refine g_iconst X0 hx 17 (0 : Int32) (hb hby d2_16) (by decide) rfl ?_
    exact g_retZ X0 hx hret hlk rfl (hb hby d2_17) (by decide) (by decide) ⟨by unfold own_dig; rw [if_pos hc1], N0, e0⟩
  · refine g_icF X0 hx 6 (hb hby d2_3) (flt hc1).1 rfl ?_
    refine g_iloadN X0 hx 7 (hb hby d2_6) rfl rfl ?_
    refine g_bipush X0 hx 9 (57 : Int32) (hb hby d2_7) (by decide) rfl ?_
    by_cases hc2 : (57 : Int32) < c
    · refine g_icT X0 hx 16 (hb hby d2_9) (tlt hc2).2.2.1 (by decide) (by decide) ?_
      refine g_iconst X0 hx 17 (0 : Int32) (hb hby d2_16) (by decide) rfl ?_
      exact g_retZ X0 hx hret hlk rfl (hb hby d2_17) (by decide) (by decide) ⟨by unfold own_dig; rw [if_neg hc1, if_pos hc2], N0, e0⟩
    · refine g_icF X0 hx 12 (hb hby d2_9) (flt hc2).2.2.1 rfl ?_
      refine g_iconst X0 hx 13 (1 : Int32) (hb hby d2_12) (by decide) rfl ?_
      refine g_goto X0 hx 17 (hb hby d2_13) (by decide) (by decide) ?_
      exact g_retZ X0 hx hret hlk rfl (hb hby d2_17) (by decide) (by decide) ⟨by unfold own_dig; rw [if_neg hc1, if_neg hc2], N0, e0⟩
theorem own_pn1 : plainName "gleanwell/Grammar$NumberReading" = true := by first | (simp [plainName, overriddenIn]; done) | decide +kernel
theorem d3_0 : decode prog_28_method_1_code 0 = .ok (.aload_n 0, 1) := by decide +kernel
theorem d3_1 : decode prog_28_method_1_code 1 = .ok (.invokespecial 3, 3) := by decide +kernel
theorem d3_4 : decode prog_28_method_1_code 4 = .ok (.return_, 1) := by decide +kernel
set_option maxRecDepth 65536 in
set_option maxHeartbeats 40000000 in
theorem rm3 (l : Launch) (Z : State) (a0 : Array Value) (hw : ∀ d ∈ tables_1, d.before a0 Z = true) (a : Addr) (h0 : Heap) (n0 : Nat) (Z0 : n0 ≤ h0.size)  :
    OwnMet l Z (⟨"gleanwell/Grammar$NumberReading", "<init>", "()V"⟩ : MethodName) prog_28_method_1_code 1 none [] ({ frames := 1, cells := 0, slots := 0, locals := 12 } : Room) [(.ref a)] h0 (fun v h L => v = none ∧ Fr n0 L ∧ h = h0) := by
  refine own_body (Ls := #[.val (.ref a)]) (plainFor_of_name own_pn1) (fun m => by first | (simp [entryFrame, mkF, argsToLocals, Value.category]; done) | rfl) (fun p e s m below meth cO T0 hx hby hml hown hnm hret hlk hZ X0 e0 => ?_)
  have hown : s.vm.findClass "gleanwell/Grammar$NumberReading" = some m.cls := hown
  have N0 := Fr.nil n0
  refine g_aloadN X0 hx 1 (hb hby d3_0) rfl rfl rfl ?_
  refine g_initO X0 hx 4 hZ hown (own_w hw 16 rfl) (own_w hw 17 rfl) (own_w hw 18 rfl) e0 (by rw [hml]; rfl) (hb hby d3_1) (by decide) 0 (Nat.le_of_eq rfl) (by decide) rfl (fun T1 X1 e1 => ?_)
  exact g_retV X1 hx hret hlk (hb hby d3_4) (by decide) (by decide) ⟨rfl, N0, e1⟩
theorem d5_0 : decode prog_28_method_5_code 0 = .ok (.lconst 0, 1) := by decide +kernel
theorem d5_1 : decode prog_28_method_5_code 1 = .ok (.lstore_n 3, 1) := by decide +kernel
theorem d5_2 : decode prog_28_method_5_code 2 = .ok (.iload_n 2, 1) := by decide +kernel
theorem d5_3 : decode prog_28_method_5_code 3 = .ok (.istore 5, 2) := by decide +kernel
theorem d5_5 : decode prog_28_method_5_code 5 = .ok (.aload_n 1, 1) := by decide +kernel
theorem d5_6 : decode prog_28_method_5_code 6 = .ok (.iload 5, 2) := by decide +kernel
theorem d5_8 : decode prog_28_method_5_code 8 = .ok (.caload, 1) := by decide +kernel
theorem d5_9 : decode prog_28_method_5_code 9 = .ok (.istore 6, 2) := by decide +kernel
theorem d5_11 : decode prog_28_method_5_code 11 = .ok (.iload 6, 2) := by decide +kernel
theorem d5_13 : decode prog_28_method_5_code 13 = .ok (.bipush 48, 2) := by decide +kernel
theorem d5_15 : decode prog_28_method_5_code 15 = .ok (.isub, 1) := by decide +kernel
theorem d5_16 : decode prog_28_method_5_code 16 = .ok (.istore 7, 2) := by decide +kernel
theorem d5_18 : decode prog_28_method_5_code 18 = .ok (.iload 7, 2) := by decide +kernel
theorem d5_20 : decode prog_28_method_5_code 20 = .ok (.ifCond .lt 35, 3) := by decide +kernel
theorem d5_55 : decode prog_28_method_5_code 55 = .ok (.aload_n 0, 1) := by decide +kernel
theorem d5_56 : decode prog_28_method_5_code 56 = .ok (.lload_n 3, 1) := by decide +kernel
theorem d5_57 : decode prog_28_method_5_code 57 = .ok (.putfield 52, 3) := by decide +kernel
theorem d5_60 : decode prog_28_method_5_code 60 = .ok (.iload 5, 2) := by decide +kernel
theorem d5_62 : decode prog_28_method_5_code 62 = .ok (.ireturn, 1) := by decide +kernel
theorem d5_23 : decode prog_28_method_5_code 23 = .ok (.iload 7, 2) := by decide +kernel
theorem d5_25 : decode prog_28_method_5_code 25 = .ok (.bipush 9, 2) := by decide +kernel
theorem d5_27 : decode prog_28_method_5_code 27 = .ok (.if_icmp .le 6, 3) := by decide +kernel
theorem d5_30 : decode prog_28_method_5_code 30 = .ok (.goto 25, 3) := by decide +kernel
set_option maxRecDepth 65536 in
set_option maxHeartbeats 40000000 in
theorem rm5_0_0 (l : Launch) (Z : State) (a0 : Array Value) (hw : ∀ d ∈ tables_1, d.before a0 Z = true) (a b : Addr) (c0 c1 c2 c3 c4 : Int32) (kA : ClassId) (u0 u1 u2 u3 u4 : Value) (h0 : Heap) (n0 : Nat) (Z0 : n0 ≤ h0.size) (g_a : n0 ≤ a) (E_a : Exa Z h0 a "gleanwell/Grammar$NumberReading") (F_decimalSum : Fld Z h0 a "gleanwell/Grammar$NumberReading" "decimalSum" "J" u0) (F_integerRadix : Fld Z h0 a "gleanwell/Grammar$NumberReading" "integerRadix" "I" u1) (F_integerKind : Fld Z h0 a "gleanwell/Grammar$NumberReading" "integerKind" "I" u2) (F_value : Fld Z h0 a "gleanwell/Grammar$NumberReading" "value" "J" u3) (F_realRead : Fld Z h0 a "gleanwell/Grammar$NumberReading" "realRead" "Z" u4) (V_b : Arv Z h0 b kA .char (6 : Int32) [(.int c0), (.int c1), (.int c2), (.int c3), (.int c4), (.int (32 : Int32))] (.int (0 : Int32))) (ne_a_b : a ≠ b) (hs0 : own_dig c0 = 0) :
    OwnMet l Z (⟨"gleanwell/Grammar$NumberReading", "sumDecimalDigits", "([CI)I"⟩ : MethodName) prog_28_method_5_code 8 (some .int) [] ({ frames := 0, cells := 0, slots := 0, locals := 0 } : Room) [(.ref a), (.ref b), (.int (0 : Int32))] h0 (fun v h L => v = some (.int 0) ∧ Fr n0 L ∧ Keep h0 h [a] ∧ Exa Z h a "gleanwell/Grammar$NumberReading" ∧ Fld Z h a "gleanwell/Grammar$NumberReading" "decimalSum" "J" (.long (0 : Int64)) ∧ Fld Z h a "gleanwell/Grammar$NumberReading" "integerRadix" "I" u1 ∧ Fld Z h a "gleanwell/Grammar$NumberReading" "integerKind" "I" u2 ∧ Fld Z h a "gleanwell/Grammar$NumberReading" "value" "J" u3 ∧ Fld Z h a "gleanwell/Grammar$NumberReading" "realRead" "Z" u4) := by
  refine own_body (Ls := #[.val (.ref a), .val (.ref b), .val (.int (0 : Int32)), .unset, .unset, .unset, .unset, .unset]) (plainFor_of_name own_pn1) (fun m => by first | (simp [entryFrame, mkF, argsToLocals, Value.category]; done) | rfl) (fun p e s m below meth cO T0 hx hby hml hown hnm hret hlk hZ X0 e0 => ?_)
  have hown : s.vm.findClass "gleanwell/Grammar$NumberReading" = some m.cls := hown
  have N0 := Fr.nil n0
  have K0 := Keep.refl h0 [a]
  refine g_lconst X0 hx 1 (0 : Int64) (hb hby d5_0) (by decide) rfl ?_
  refine g_lstoreN X0 hx 2 #[.val (.ref a), .val (.ref b), .val (.int (0 : Int32)), .val (.long (0 : Int64)), .second, .unset, .unset, .unset] (hb hby d5_1) rfl rfl ?_
  refine g_iloadN X0 hx 3 (hb hby d5_2) rfl rfl ?_
  refine g_istore X0 hx 5 #[.val (.ref a), .val (.ref b), .val (.int (0 : Int32)), .val (.long (0 : Int64)), .second, .val (.int (0 : Int32)), .unset, .unset] (hb hby d5_3) rfl rfl ?_
  refine g_aloadN X0 hx 6 (hb hby d5_5) rfl rfl rfl ?_
  refine g_iload X0 hx 8 (hb hby d5_6) rfl rfl ?_
  refine g_caload X0 hx 9 hZ e0 V_b ⟨by decide, by decide⟩ (show _ = (.int c0) from rfl) (hb hby d5_8) rfl ?_
  refine g_istore X0 hx 11 #[.val (.ref a), .val (.ref b), .val (.int (0 : Int32)), .val (.long (0 : Int64)), .second, .val (.int (0 : Int32)), .val (.int c0), .unset] (hb hby d5_9) rfl rfl ?_
  refine g_iload X0 hx 13 (hb hby d5_11) rfl rfl ?_
  refine g_bipush X0 hx 15 (48 : Int32) (hb hby d5_13) (by decide) rfl ?_
  refine g_isub X0 hx 16 (c0 - (48 : Int32)) (hb hby d5_15) rfl rfl ?_
  refine g_istore X0 hx 18 #[.val (.ref a), .val (.ref b), .val (.int (0 : Int32)), .val (.long (0 : Int64)), .second, .val (.int (0 : Int32)), .val (.int c0), .val (.int (c0 - (48 : Int32)))] (hb hby d5_16) rfl rfl ?_
  refine g_iload X0 hx 20 (hb hby d5_18) rfl rfl ?_
  by_cases hc1 : (c0 - (48 : Int32)) < (0 : Int32)
  · refine g_ifT X0 hx 55 (hb hby d5_20) ((if0 _ _).trans (tlt hc1).1) (by decide) (by decide) ?_
    refine g_aloadN X0 hx 56 (hb hby d5_55) rfl rfl rfl ?_
    refine g_lloadN X0 hx 57 (hb hby d5_56) rfl rfl ?_
    refine g_putF X0 hx 60 hZ hown (host := "") (Or.inl (own_w hw 25 rfl)) Via.refl e0 F_decimalSum E_a (Or.inl (own_w hw 26 rfl)) (own_w hw 11 rfl) (ty := .long) (by decide) rfl rfl (hb hby d5_57) rfl (fun T2 h2 X2 e2 W2 => ?_)
    have E_a := E_a.wr W2
    have F_decimalSum := F_decimalSum.same W2
    have F_integerRadix := F_integerRadix.other W2 (Or.inr (slot_ne (Or.inl (own_w hw 36 rfl)) (Or.inl (own_w hw 26 rfl)) (by decide) (t := .int) (t' := .long) (by decide) (by decide)))
    have F_integerKind := F_integerKind.other W2 (Or.inr (slot_ne (Or.inl (own_w hw 38 rfl)) (Or.inl (own_w hw 26 rfl)) (by decide) (t := .int) (t' := .long) (by decide) (by decide)))
    have F_value := F_value.other W2 (Or.inr (slot_ne (Or.inl (own_w hw 40 rfl)) (Or.inl (own_w hw 26 rfl)) (by decide) (t := .long) (t' := .long) (by decide) (by decide)))
    have F_realRead := F_realRead.other W2 (Or.inr (slot_ne (Or.inl (own_w hw 42 rfl)) (Or.inl (own_w hw 26 rfl)) (by decide) (t := .boolean) (t' := .long) (by decide) (by decide)))
    have V_b := V_b.other W2 (Ne.symm ne_a_b)
    have N2 := Fr.snoc X2 N0 g_a
    have Z2 : n0 ≤ h2.size := by rw [W2.size]; exact Z0
    have K2 := K0.wr W2 (Or.inl (List.mem_of_getElem? (i := 0) rfl))
    refine g_iload X2 hx 62 (hb hby d5_60) rfl rfl ?_
    exact g_retI X2 hx hret hlk (hb hby d5_62) (by decide) (by decide) (by rw [e2]; exact ⟨rfl, N2, K2, E_a, F_decimalSum, F_integerRadix, F_integerKind, F_value, F_realRead⟩)
  · refine g_ifF X0 hx 23 (hb hby d5_20) ((if0 _ _).trans (flt hc1).1) rfl ?_
    refine g_iload X0 hx 25 (hb hby d5_23) rfl rfl ?_
    refine g_bipush X0 hx 27 (9 : Int32) (hb hby d5_25) (by decide) rfl ?_
    have hk3 : (9 : Int32) < (c0 - (48 : Int32)) := (own_dig_f hs0).resolve_left hc1
    refine g_icF X0 hx 30 (hb hby d5_27) (tlt hk3).2.2.2 rfl ?_
    refine g_goto X0 hx 55 (hb hby d5_30) (by decide) (by decide) ?_
    refine g_aloadN X0 hx 56 (hb hby d5_55) rfl rfl rfl ?_
    refine g_lloadN X0 hx 57 (hb hby d5_56) rfl rfl ?_
    refine g_putF X0 hx 60 hZ hown (host := "") (Or.inl (own_w hw 25 rfl)) Via.refl e0 F_decimalSum E_a (Or.inl (own_w hw 26 rfl)) (own_w hw 11 rfl) (ty := .long) (by decide) rfl rfl (hb hby d5_57) rfl (fun T4 h4 X4 e4 W4 => ?_)
    have E_a := E_a.wr W4
    have F_decimalSum := F_decimalSum.same W4
    have F_integerRadix := F_integerRadix.other W4 (Or.inr (slot_ne (Or.inl (own_w hw 36 rfl)) (Or.inl (own_w hw 26 rfl)) (by decide) (t := .int) (t' := .long) (by decide) (by decide)))
    have F_integerKind := F_integerKind.other W4 (Or.inr (slot_ne (Or.inl (own_w hw 38 rfl)) (Or.inl (own_w hw 26 rfl)) (by decide) (t := .int) (t' := .long) (by decide) (by decide)))
    have F_value := F_value.other W4 (Or.inr (slot_ne (Or.inl (own_w hw 40 rfl)) (Or.inl (own_w hw 26 rfl)) (by decide) (t := .long) (t' := .long) (by decide) (by decide)))
    have F_realRead := F_realRead.other W4 (Or.inr (slot_ne (Or.inl (own_w hw 42 rfl)) (Or.inl (own_w hw 26 rfl)) (by decide) (t := .boolean) (t' := .long) (by decide) (by decide)))
    have V_b := V_b.other W4 (Ne.symm ne_a_b)
    have N4 := Fr.snoc X4 N0 g_a
    have Z4 : n0 ≤ h4.size := by rw [W4.size]; exact Z0
    have K4 := K0.wr W4 (Or.inl (List.mem_of_getElem? (i := 0) rfl))
    refine g_iload X4 hx 62 (hb hby d5_60) rfl rfl ?_
    exact g_retI X4 hx hret hlk (hb hby d5_62) (by decide) (by decide) (by rw [e4]; exact ⟨rfl, N4, K4, E_a, F_decimalSum, F_integerRadix, F_integerKind, F_value, F_realRead⟩)
theorem d5_33 : decode prog_28_method_5_code 33 = .ok (.ldc2_w 50, 3) := by decide +kernel
theorem d5_36 : decode prog_28_method_5_code 36 = .ok (.lload_n 3, 1) := by decide +kernel
theorem d5_37 : decode prog_28_method_5_code 37 = .ok (.lmul, 1) := by decide +kernel
theorem d5_38 : decode prog_28_method_5_code 38 = .ok (.iload 7, 2) := by decide +kernel
theorem d5_40 : decode prog_28_method_5_code 40 = .ok (.i2l, 1) := by decide +kernel
theorem d5_41 : decode prog_28_method_5_code 41 = .ok (.lsub, 1) := by decide +kernel
theorem d5_42 : decode prog_28_method_5_code 42 = .ok (.lstore_n 3, 1) := by decide +kernel
theorem d5_43 : decode prog_28_method_5_code 43 = .ok (.aload_n 1, 1) := by decide +kernel
theorem d5_44 : decode prog_28_method_5_code 44 = .ok (.iinc 5 1, 3) := by decide +kernel
theorem d5_47 : decode prog_28_method_5_code 47 = .ok (.iload 5, 2) := by decide +kernel
theorem d5_49 : decode prog_28_method_5_code 49 = .ok (.caload, 1) := by decide +kernel
theorem d5_50 : decode prog_28_method_5_code 50 = .ok (.istore 6, 2) := by decide +kernel
theorem d5_52 : decode prog_28_method_5_code 52 = .ok (.goto (-41), 3) := by decide +kernel
set_option maxRecDepth 65536 in
set_option maxHeartbeats 40000000 in
theorem rm5_0_1 (l : Launch) (Z : State) (a0 : Array Value) (hw : ∀ d ∈ tables_1, d.before a0 Z = true) (a b : Addr) (c0 c1 c2 c3 c4 : Int32) (kA : ClassId) (u0 u1 u2 u3 u4 : Value) (h0 : Heap) (n0 : Nat) (Z0 : n0 ≤ h0.size) (g_a : n0 ≤ a) (E_a : Exa Z h0 a "gleanwell/Grammar$NumberReading") (F_decimalSum : Fld Z h0 a "gleanwell/Grammar$NumberReading" "decimalSum" "J" u0) (F_integerRadix : Fld Z h0 a "gleanwell/Grammar$NumberReading" "integerRadix" "I" u1) (F_integerKind : Fld Z h0 a "gleanwell/Grammar$NumberReading" "integerKind" "I" u2) (F_value : Fld Z h0 a "gleanwell/Grammar$NumberReading" "value" "J" u3) (F_realRead : Fld Z h0 a "gleanwell/Grammar$NumberReading" "realRead" "Z" u4) (V_b : Arv Z h0 b kA .char (6 : Int32) [(.int c0), (.int c1), (.int c2), (.int c3), (.int c4), (.int (32 : Int32))] (.int (0 : Int32))) (ne_a_b : a ≠ b) (hd0 : ¬ own_dig c0 = 0) (hs1 : own_dig c1 = 0) :
    OwnMet l Z (⟨"gleanwell/Grammar$NumberReading", "sumDecimalDigits", "([CI)I"⟩ : MethodName) prog_28_method_5_code 8 (some .int) [] ({ frames := 0, cells := 0, slots := 0, locals := 0 } : Room) [(.ref a), (.ref b), (.int (0 : Int32))] h0 (fun v h L => v = some (.int 1) ∧ Fr n0 L ∧ Keep h0 h [a] ∧ Exa Z h a "gleanwell/Grammar$NumberReading" ∧ Fld Z h a "gleanwell/Grammar$NumberReading" "decimalSum" "J" (.long ((0 : Int64) - (c0 - (48 : Int32)).toInt64)) ∧ Fld Z h a "gleanwell/Grammar$NumberReading" "integerRadix" "I" u1 ∧ Fld Z h a "gleanwell/Grammar$NumberReading" "integerKind" "I" u2 ∧ Fld Z h a "gleanwell/Grammar$NumberReading" "value" "J" u3 ∧ Fld Z h a "gleanwell/Grammar$NumberReading" "realRead" "Z" u4) := by
  refine own_body (Ls := #[.val (.ref a), .val (.ref b), .val (.int (0 : Int32)), .unset, .unset, .unset, .unset, .unset]) (plainFor_of_name own_pn1) (fun m => by first | (simp [entryFrame, mkF, argsToLocals, Value.category]; done) | rfl) (fun p e s m below meth cO T0 hx hby hml hown hnm hret hlk hZ X0 e0 => ?_)
  have hown : s.vm.findClass "gleanwell/Grammar$NumberReading" = some m.cls := hown
  have N0 := Fr.nil n0
  have K0 := Keep.refl h0 [a]
  refine g_lconst X0 hx 1 (0 : Int64) (hb hby d5_0) (by decide) rfl ?_
  refine g_lstoreN X0 hx 2 #[.val (.ref a), .val (.ref b), .val (.int (0 : Int32)), .val (.long (0 : Int64)), .second, .unset, .unset, .unset] (hb hby d5_1) rfl rfl ?_
  refine g_iloadN X0 hx 3 (hb hby d5_2) rfl rfl ?_
  refine g_istore X0 hx 5 #[.val (.ref a), .val (.ref b), .val (.int (0 : Int32)), .val (.long (0 : Int64)), .second, .val (.int (0 : Int32)), .unset, .unset] (hb hby d5_3) rfl rfl ?_
  refine g_aloadN X0 hx 6 (hb hby d5_5) rfl rfl rfl ?_
  refine g_iload X0 hx 8 (hb hby d5_6) rfl rfl ?_
  refine g_caload X0 hx 9 hZ e0 V_b ⟨by decide, by decide⟩ (show _ = (.int c0) from rfl) (hb hby d5_8) rfl ?_
  refine g_istore X0 hx 11 #[.val (.ref a), .val (.ref b), .val (.int (0 : Int32)), .val (.long (0 : Int64)), .second, .val (.int (0 : Int32)), .val (.int c0), .unset] (hb hby d5_9) rfl rfl ?_
  refine g_iload X0 hx 13 (hb hby d5_11) rfl rfl ?_
  refine g_bipush X0 hx 15 (48 : Int32) (hb hby d5_13) (by decide) rfl ?_
  refine g_isub X0 hx 16 (c0 - (48 : Int32)) (hb hby d5_15) rfl rfl ?_
  refine g_istore X0 hx 18 #[.val (.ref a), .val (.ref b), .val (.int (0 : Int32)), .val (.long (0 : Int64)), .second, .val (.int (0 : Int32)), .val (.int c0), .val (.int (c0 - (48 : Int32)))] (hb hby d5_16) rfl rfl ?_
  refine g_iload X0 hx 20 (hb hby d5_18) rfl rfl ?_
  have hk1 : ¬ ((c0 - (48 : Int32)) < (0 : Int32)) := (own_dig_t hd0).1
  refine g_ifF X0 hx 23 (hb hby d5_20) ((if0 _ _).trans (flt hk1).1) rfl ?_
  refine g_iload X0 hx 25 (hb hby d5_23) rfl rfl ?_
  refine g_bipush X0 hx 27 (9 : Int32) (hb hby d5_25) (by decide) rfl ?_
  have hk2 : ¬ ((9 : Int32) < (c0 - (48 : Int32))) := (own_dig_t hd0).2
  refine g_icT X0 hx 33 (hb hby d5_27) (flt hk2).2.2.2 (by decide) (by decide) ?_
  refine g_ldc2J X0 hx 36 hZ hown (own_w hw 24 rfl) (hb hby d5_33) rfl ?_
  refine g_lloadN X0 hx 37 (hb hby d5_36) rfl rfl ?_
  refine g_lmul X0 hx 38 (0 : Int64) (hb hby d5_37) (by decide) rfl ?_
  refine g_iload X0 hx 40 (hb hby d5_38) rfl rfl ?_
  refine g_i2l X0 hx 41 ((c0 - (48 : Int32)).toInt64) (hb hby d5_40) rfl rfl ?_
  refine g_lsub X0 hx 42 ((0 : Int64) - ((c0 - (48 : Int32)).toInt64)) (hb hby d5_41) rfl rfl ?_
  refine g_lstoreN X0 hx 43 #[.val (.ref a), .val (.ref b), .val (.int (0 : Int32)), .val (.long ((0 : Int64) - ((c0 - (48 : Int32)).toInt64))), .second, .val (.int (0 : Int32)), .val (.int c0), .val (.int (c0 - (48 : Int32)))] (hb hby d5_42) rfl rfl ?_
  refine g_aloadN X0 hx 44 (hb hby d5_43) rfl rfl rfl ?_
  refine g_iinc X0 hx 47 (1 : Int32) #[.val (.ref a), .val (.ref b), .val (.int (0 : Int32)), .val (.long ((0 : Int64) - ((c0 - (48 : Int32)).toInt64))), .second, .val (.int (1 : Int32)), .val (.int c0), .val (.int (c0 - (48 : Int32)))] (hb hby d5_44) rfl (by decide) rfl rfl ?_
  refine g_iload X0 hx 49 (hb hby d5_47) rfl rfl ?_
  refine g_caload X0 hx 50 hZ e0 V_b ⟨by decide, by decide⟩ (show _ = (.int c1) from rfl) (hb hby d5_49) rfl ?_
  refine g_istore X0 hx 52 #[.val (.ref a), .val (.ref b), .val (.int (0 : Int32)), .val (.long ((0 : Int64) - ((c0 - (48 : Int32)).toInt64))), .second, .val (.int (1 : Int32)), .val (.int c1), .val (.int (c0 - (48 : Int32)))] (hb hby d5_50) rfl rfl ?_
  refine g_goto X0 hx 11 (hb hby d5_52) (by decide) (by decide) ?_
  refine g_iload X0 hx 13 (hb hby d5_11) rfl rfl ?_
  refine g_bipush X0 hx 15 (48 : Int32) (hb hby d5_13) (by decide) rfl ?_
  refine g_isub X0 hx 16 (c1 - (48 : Int32)) (hb hby d5_15) rfl rfl ?_
  refine g_istore X0 hx 18 #[.val (.ref a), .val (.ref b), .val (.int (0 : Int32)), .val (.long ((0 : Int64) - ((c0 - (48 : Int32)).toInt64))), .second, .val (.int (1 : Int32)), .val (.int c1), .val (.int (c1 - (48 : Int32)))] (hb hby d5_16) rfl rfl ?_
  refine g_iload X0 hx 20 (hb hby d5_18) rfl rfl ?_
  by_cases hc3 : (c1 - (48 : Int32)) < (0 : Int32)
  · refine g_ifT X0 hx 55 (hb hby d5_20) ((if0 _ _).trans (tlt hc3).1) (by decide) (by decide) ?_
    refine g_aloadN X0 hx 56 (hb hby d5_55) rfl rfl rfl ?_
    refine g_lloadN X0 hx 57 (hb hby d5_56) rfl rfl ?_
    refine g_putF X0 hx 60 hZ hown (host := "") (Or.inl (own_w hw 25 rfl)) Via.refl e0 F_decimalSum E_a (Or.inl (own_w hw 26 rfl)) (own_w hw 11 rfl) (ty := .long) (by decide) rfl rfl (hb hby d5_57) rfl (fun T4 h4 X4 e4 W4 => ?_)
    have E_a := E_a.wr W4
    have F_decimalSum := F_decimalSum.same W4
    have F_integerRadix := F_integerRadix.other W4 (Or.inr (slot_ne (Or.inl (own_w hw 36 rfl)) (Or.inl (own_w hw 26 rfl)) (by decide) (t := .int) (t' := .long) (by decide) (by decide)))
    have F_integerKind := F_integerKind.other W4 (Or.inr (slot_ne (Or.inl (own_w hw 38 rfl)) (Or.inl (own_w hw 26 rfl)) (by decide) (t := .int) (t' := .long) (by decide) (by decide)))
    have F_value := F_value.other W4 (Or.inr (slot_ne (Or.inl (own_w hw 40 rfl)) (Or.inl (own_w hw 26 rfl)) (by decide) (t := .long) (t' := .long) (by decide) (by decide)))
    have F_realRead := F_realRead.other W4 (Or.inr (slot_ne (Or.inl (own_w hw 42 rfl)) (Or.inl (own_w hw 26 rfl)) (by decide) (t := .boolean) (t' := .long) (by decide) (by decide)))
    have V_b := V_b.other W4 (Ne.symm ne_a_b)
    have N4 := Fr.snoc X4 N0 g_a
    have Z4 : n0 ≤ h4.size := by rw [W4.size]; exact Z0
    have K4 := K0.wr W4 (Or.inl (List.mem_of_getElem? (i := 0) rfl))
    refine g_iload X4 hx 62 (hb hby d5_60) rfl rfl ?_
    exact g_retI X4 hx hret hlk (hb hby d5_62) (by decide) (by decide) (by rw [e4]; exact ⟨rfl, N4, K4, E_a, F_decimalSum, F_integerRadix, F_integerKind, F_value, F_realRead⟩)
  · refine g_ifF X0 hx 23 (hb hby d5_20) ((if0 _ _).trans (flt hc3).1) rfl ?_
    refine g_iload X0 hx 25 (hb hby d5_23) rfl rfl ?_
    refine g_bipush X0 hx 27 (9 : Int32) (hb hby d5_25) (by decide) rfl ?_
    have hk5 : (9 : Int32) < (c1 - (48 : Int32)) := (own_dig_f hs1).resolve_left hc3
    refine g_icF X0 hx 30 (hb hby d5_27) (tlt hk5).2.2.2 rfl ?_
    refine g_goto X0 hx 55 (hb hby d5_30) (by decide) (by decide) ?_
    refine g_aloadN X0 hx 56 (hb hby d5_55) rfl rfl rfl ?_
    refine g_lloadN X0 hx 57 (hb hby d5_56) rfl rfl ?_
    refine g_putF X0 hx 60 hZ hown (host := "") (Or.inl (own_w hw 25 rfl)) Via.refl e0 F_decimalSum E_a (Or.inl (own_w hw 26 rfl)) (own_w hw 11 rfl) (ty := .long) (by decide) rfl rfl (hb hby d5_57) rfl (fun T6 h6 X6 e6 W6 => ?_)
    have E_a := E_a.wr W6
    have F_decimalSum := F_decimalSum.same W6
    have F_integerRadix := F_integerRadix.other W6 (Or.inr (slot_ne (Or.inl (own_w hw 36 rfl)) (Or.inl (own_w hw 26 rfl)) (by decide) (t := .int) (t' := .long) (by decide) (by decide)))
    have F_integerKind := F_integerKind.other W6 (Or.inr (slot_ne (Or.inl (own_w hw 38 rfl)) (Or.inl (own_w hw 26 rfl)) (by decide) (t := .int) (t' := .long) (by decide) (by decide)))
    have F_value := F_value.other W6 (Or.inr (slot_ne (Or.inl (own_w hw 40 rfl)) (Or.inl (own_w hw 26 rfl)) (by decide) (t := .long) (t' := .long) (by decide) (by decide)))
    have F_realRead := F_realRead.other W6 (Or.inr (slot_ne (Or.inl (own_w hw 42 rfl)) (Or.inl (own_w hw 26 rfl)) (by decide) (t := .boolean) (t' := .long) (by decide) (by decide)))
    have V_b := V_b.other W6 (Ne.symm ne_a_b)
    have N6 := Fr.snoc X6 N0 g_a
    have Z6 : n0 ≤ h6.size := by rw [W6.size]; exact Z0
    have K6 := K0.wr W6 (Or.inl (List.mem_of_getElem? (i := 0) rfl))
    refine g_iload X6 hx 62 (hb hby d5_60) rfl rfl ?_
    exact g_retI X6 hx hret hlk (hb hby d5_62) (by decide) (by decide) (by rw [e6]; exact ⟨rfl, N6, K6, E_a, F_decimalSum, F_integerRadix, F_integerKind, F_value, F_realRead⟩)
set_option maxRecDepth 65536 in
set_option maxHeartbeats 40000000 in
theorem rm5_0_2 (l : Launch) (Z : State) (a0 : Array Value) (hw : ∀ d ∈ tables_1, d.before a0 Z = true) (a b : Addr) (c0 c1 c2 c3 c4 : Int32) (kA : ClassId) (u0 u1 u2 u3 u4 : Value) (h0 : Heap) (n0 : Nat) (Z0 : n0 ≤ h0.size) (g_a : n0 ≤ a) (E_a : Exa Z h0 a "gleanwell/Grammar$NumberReading") (F_decimalSum : Fld Z h0 a "gleanwell/Grammar$NumberReading" "decimalSum" "J" u0) (F_integerRadix : Fld Z h0 a "gleanwell/Grammar$NumberReading" "integerRadix" "I" u1) (F_integerKind : Fld Z h0 a "gleanwell/Grammar$NumberReading" "integerKind" "I" u2) (F_value : Fld Z h0 a "gleanwell/Grammar$NumberReading" "value" "J" u3) (F_realRead : Fld Z h0 a "gleanwell/Grammar$NumberReading" "realRead" "Z" u4) (V_b : Arv Z h0 b kA .char (6 : Int32) [(.int c0), (.int c1), (.int c2), (.int c3), (.int c4), (.int (32 : Int32))] (.int (0 : Int32))) (ne_a_b : a ≠ b) (hd0 : ¬ own_dig c0 = 0) (hd1 : ¬ own_dig c1 = 0) (hs2 : own_dig c2 = 0) :
    OwnMet l Z (⟨"gleanwell/Grammar$NumberReading", "sumDecimalDigits", "([CI)I"⟩ : MethodName) prog_28_method_5_code 8 (some .int) [] ({ frames := 0, cells := 0, slots := 0, locals := 0 } : Room) [(.ref a), (.ref b), (.int (0 : Int32))] h0 (fun v h L => v = some (.int 2) ∧ Fr n0 L ∧ Keep h0 h [a] ∧ Exa Z h a "gleanwell/Grammar$NumberReading" ∧ Fld Z h a "gleanwell/Grammar$NumberReading" "decimalSum" "J" (.long ((10 : Int64) * ((0 : Int64) - (c0 - (48 : Int32)).toInt64) - (c1 - (48 : Int32)).toInt64)) ∧ Fld Z h a "gleanwell/Grammar$NumberReading" "integerRadix" "I" u1 ∧ Fld Z h a "gleanwell/Grammar$NumberReading" "integerKind" "I" u2 ∧ Fld Z h a "gleanwell/Grammar$NumberReading" "value" "J" u3 ∧ Fld Z h a "gleanwell/Grammar$NumberReading" "realRead" "Z" u4) := by
  refine own_body (Ls := #[.val (.ref a), .val (.ref b), .val (.int (0 : Int32)), .unset, .unset, .unset, .unset, .unset]) (plainFor_of_name own_pn1) (fun m => by first | (simp [entryFrame, mkF, argsToLocals, Value.category]; done) | rfl) (fun p e s m below meth cO T0 hx hby hml hown hnm hret hlk hZ X0 e0 => ?_)
  have hown : s.vm.findClass "gleanwell/Grammar$NumberReading" = some m.cls := hown
  have N0 := Fr.nil n0
  have K0 := Keep.refl h0 [a]
  refine g_lconst X0 hx 1 (0 : Int64) (hb hby d5_0) (by decide) rfl ?_
  refine g_lstoreN X0 hx 2 #[.val (.ref a), .val (.ref b), .val (.int (0 : Int32)), .val (.long (0 : Int64)), .second, .unset, .unset, .unset] (hb hby d5_1) rfl rfl ?_
  refine g_iloadN X0 hx 3 (hb hby d5_2) rfl rfl ?_
  refine g_istore X0 hx 5 #[.val (.ref a), .val (.ref b), .val (.int (0 : Int32)), .val (.long (0 : Int64)), .second, .val (.int (0 : Int32)), .unset, .unset] (hb hby d5_3) rfl rfl ?_
  refine g_aloadN X0 hx 6 (hb hby d5_5) rfl rfl rfl ?_
  refine g_iload X0 hx 8 (hb hby d5_6) rfl rfl ?_
  refine g_caload X0 hx 9 hZ e0 V_b ⟨by decide, by decide⟩ (show _ = (.int c0) from rfl) (hb hby d5_8) rfl ?_
  refine g_istore X0 hx 11 #[.val (.ref a), .val (.ref b), .val (.int (0 : Int32)), .val (.long (0 : Int64)), .second, .val (.int (0 : Int32)), .val (.int c0), .unset] (hb hby d5_9) rfl rfl ?_
  refine g_iload X0 hx 13 (hb hby d5_11) rfl rfl ?_
  refine g_bipush X0 hx 15 (48 : Int32) (hb hby d5_13) (by decide) rfl ?_
  refine g_isub X0 hx 16 (c0 - (48 : Int32)) (hb hby d5_15) rfl rfl ?_
  refine g_istore X0 hx 18 #[.val (.ref a), .val (.ref b), .val (.int (0 : Int32)), .val (.long (0 : Int64)), .second, .val (.int (0 : Int32)), .val (.int c0), .val (.int (c0 - (48 : Int32)))] (hb hby d5_16) rfl rfl ?_
  refine g_iload X0 hx 20 (hb hby d5_18) rfl rfl ?_
  have hk1 : ¬ ((c0 - (48 : Int32)) < (0 : Int32)) := (own_dig_t hd0).1
  refine g_ifF X0 hx 23 (hb hby d5_20) ((if0 _ _).trans (flt hk1).1) rfl ?_
  refine g_iload X0 hx 25 (hb hby d5_23) rfl rfl ?_
  refine g_bipush X0 hx 27 (9 : Int32) (hb hby d5_25) (by decide) rfl ?_
  have hk2 : ¬ ((9 : Int32) < (c0 - (48 : Int32))) := (own_dig_t hd0).2
  refine g_icT X0 hx 33 (hb hby d5_27) (flt hk2).2.2.2 (by decide) (by decide) ?_
  refine g_ldc2J X0 hx 36 hZ hown (own_w hw 24 rfl) (hb hby d5_33) rfl ?_
  refine g_lloadN X0 hx 37 (hb hby d5_36) rfl rfl ?_
  refine g_lmul X0 hx 38 (0 : Int64) (hb hby d5_37) (by decide) rfl ?_
  refine g_iload X0 hx 40 (hb hby d5_38) rfl rfl ?_
  refine g_i2l X0 hx 41 ((c0 - (48 : Int32)).toInt64) (hb hby d5_40) rfl rfl ?_
  refine g_lsub X0 hx 42 ((0 : Int64) - ((c0 - (48 : Int32)).toInt64)) (hb hby d5_41) rfl rfl ?_
  refine g_lstoreN X0 hx 43 #[.val (.ref a), .val (.ref b), .val (.int (0 : Int32)), .val (.long ((0 : Int64) - ((c0 - (48 : Int32)).toInt64))), .second, .val (.int (0 : Int32)), .val (.int c0), .val (.int (c0 - (48 : Int32)))] (hb hby d5_42) rfl rfl ?_
  refine g_aloadN X0 hx 44 (hb hby d5_43) rfl rfl rfl ?_
  refine g_iinc X0 hx 47 (1 : Int32) #[.val (.ref a), .val (.ref b), .val (.int (0 : Int32)), .val (.long ((0 : Int64) - ((c0 - (48 : Int32)).toInt64))), .second, .val (.int (1 : Int32)), .val (.int c0), .val (.int (c0 - (48 : Int32)))] (hb hby d5_44) rfl (by decide) rfl rfl ?_
  refine g_iload X0 hx 49 (hb hby d5_47) rfl rfl ?_
  refine g_caload X0 hx 50 hZ e0 V_b ⟨by decide, by decide⟩ (show _ = (.int c1) from rfl) (hb hby d5_49) rfl ?_
  refine g_istore X0 hx 52 #[.val (.ref a), .val (.ref b), .val (.int (0 : Int32)), .val (.long ((0 : Int64) - ((c0 - (48 : Int32)).toInt64))), .second, .val (.int (1 : Int32)), .val (.int c1), .val (.int (c0 - (48 : Int32)))] (hb hby d5_50) rfl rfl ?_
  refine g_goto X0 hx 11 (hb hby d5_52) (by decide) (by decide) ?_
  refine g_iload X0 hx 13 (hb hby d5_11) rfl rfl ?_
  refine g_bipush X0 hx 15 (48 : Int32) (hb hby d5_13) (by decide) rfl ?_
  refine g_isub X0 hx 16 (c1 - (48 : Int32)) (hb hby d5_15) rfl rfl ?_
  refine g_istore X0 hx 18 #[.val (.ref a), .val (.ref b), .val (.int (0 : Int32)), .val (.long ((0 : Int64) - ((c0 - (48 : Int32)).toInt64))), .second, .val (.int (1 : Int32)), .val (.int c1), .val (.int (c1 - (48 : Int32)))] (hb hby d5_16) rfl rfl ?_
  refine g_iload X0 hx 20 (hb hby d5_18) rfl rfl ?_
  have hk3 : ¬ ((c1 - (48 : Int32)) < (0 : Int32)) := (own_dig_t hd1).1
  refine g_ifF X0 hx 23 (hb hby d5_20) ((if0 _ _).trans (flt hk3).1) rfl ?_
  refine g_iload X0 hx 25 (hb hby d5_23) rfl rfl ?_
  refine g_bipush X0 hx 27 (9 : Int32) (hb hby d5_25) (by decide) rfl ?_
  have hk4 : ¬ ((9 : Int32) < (c1 - (48 : Int32))) := (own_dig_t hd1).2
  refine g_icT X0 hx 33 (hb hby d5_27) (flt hk4).2.2.2 (by decide) (by decide) ?_
  refine g_ldc2J X0 hx 36 hZ hown (own_w hw 24 rfl) (hb hby d5_33) rfl ?_
  refine g_lloadN X0 hx 37 (hb hby d5_36) rfl rfl ?_
  refine g_lmul X0 hx 38 ((10 : Int64) * ((0 : Int64) - ((c0 - (48 : Int32)).toInt64))) (hb hby d5_37) rfl rfl ?_
  refine g_iload X0 hx 40 (hb hby d5_38) rfl rfl ?_
  refine g_i2l X0 hx 41 ((c1 - (48 : Int32)).toInt64) (hb hby d5_40) rfl rfl ?_
  refine g_lsub X0 hx 42 (((10 : Int64) * ((0 : Int64) - ((c0 - (48 : Int32)).toInt64))) - ((c1 - (48 : Int32)).toInt64)) (hb hby d5_41) rfl rfl ?_
  refine g_lstoreN X0 hx 43 #[.val (.ref a), .val (.ref b), .val (.int (0 : Int32)), .val (.long (((10 : Int64) * ((0 : Int64) - ((c0 - (48 : Int32)).toInt64))) - ((c1 - (48 : Int32)).toInt64))), .second, .val (.int (1 : Int32)), .val (.int c1), .val (.int (c1 - (48 : Int32)))] (hb hby d5_42) rfl rfl ?_
  refine g_aloadN X0 hx 44 (hb hby d5_43) rfl rfl rfl ?_
  refine g_iinc X0 hx 47 (2 : Int32) #[.val (.ref a), .val (.ref b), .val (.int (0 : Int32)), .val (.long (((10 : Int64) * ((0 : Int64) - ((c0 - (48 : Int32)).toInt64))) - ((c1 - (48 : Int32)).toInt64))), .second, .val (.int (2 : Int32)), .val (.int c1), .val (.int (c1 - (48 : Int32)))] (hb hby d5_44) rfl (by decide) rfl rfl ?_
  refine g_iload X0 hx 49 (hb hby d5_47) rfl rfl ?_
  refine g_caload X0 hx 50 hZ e0 V_b ⟨by decide, by decide⟩ (show _ = (.int c2) from rfl) (hb hby d5_49) rfl ?_
  refine g_istore X0 hx 52 #[.val (.ref a), .val (.ref b), .val (.int (0 : Int32)), .val (.long (((10 : Int64) * ((0 : Int64) - ((c0 - (48 : Int32)).toInt64))) - ((c1 - (48 : Int32)).toInt64))), .second, .val (.int (2 : Int32)), .val (.int c2), .val (.int (c1 - (48 : Int32)))] (hb hby d5_50) rfl rfl ?_
  refine g_goto X0 hx 11 (hb hby d5_52) (by decide) (by decide) ?_
  refine g_iload X0 hx 13 (hb hby d5_11) rfl rfl ?_
  refine g_bipush X0 hx 15 (48 : Int32) (hb hby d5_13) (by decide) rfl ?_
  refine g_isub X0 hx 16 (c2 - (48 : Int32)) (hb hby d5_15) rfl rfl ?_
  refine g_istore X0 hx 18 #[.val (.ref a), .val (.ref b), .val (.int (0 : Int32)), .val (.long (((10 : Int64) * ((0 : Int64) - ((c0 - (48 : Int32)).toInt64))) - ((c1 - (48 : Int32)).toInt64))), .second, .val (.int (2 : Int32)), .val (.int c2), .val (.int (c2 - (48 : Int32)))] (hb hby d5_16) rfl rfl ?_
  refine g_iload X0 hx 20 (hb hby d5_18) rfl rfl ?_
  by_cases hc5 : (c2 - (48 : Int32)) < (0 : Int32)
  · refine g_ifT X0 hx 55 (hb hby d5_20) ((if0 _ _).trans (tlt hc5).1) (by decide) (by decide) ?_
    refine g_aloadN X0 hx 56 (hb hby d5_55) rfl rfl rfl ?_
    refine g_lloadN X0 hx 57 (hb hby d5_56) rfl rfl ?_
    refine g_putF X0 hx 60 hZ hown (host := "") (Or.inl (own_w hw 25 rfl)) Via.refl e0 F_decimalSum E_a (Or.inl (own_w hw 26 rfl)) (own_w hw 11 rfl) (ty := .long) (by decide) rfl rfl (hb hby d5_57) rfl (fun T6 h6 X6 e6 W6 => ?_)
    have E_a := E_a.wr W6
    have F_decimalSum := F_decimalSum.same W6
    have F_integerRadix := F_integerRadix.other W6 (Or.inr (slot_ne (Or.inl (own_w hw 36 rfl)) (Or.inl (own_w hw 26 rfl)) (by decide) (t := .int) (t' := .long) (by decide) (by decide)))
    have F_integerKind := F_integerKind.other W6 (Or.inr (slot_ne (Or.inl (own_w hw 38 rfl)) (Or.inl (own_w hw 26 rfl)) (by decide) (t := .int) (t' := .long) (by decide) (by decide)))
    have F_value := F_value.other W6 (Or.inr (slot_ne (Or.inl (own_w hw 40 rfl)) (Or.inl (own_w hw 26 rfl)) (by decide) (t := .long) (t' := .long) (by decide) (by decide)))
    have F_realRead := F_realRead.other W6 (Or.inr (slot_ne (Or.inl (own_w hw 42 rfl)) (Or.inl (own_w hw 26 rfl)) (by decide) (t := .boolean) (t' := .long) (by decide) (by decide)))
    have V_b := V_b.other W6 (Ne.symm ne_a_b)
    have N6 := Fr.snoc X6 N0 g_a
    have Z6 : n0 ≤ h6.size := by rw [W6.size]; exact Z0
    have K6 := K0.wr W6 (Or.inl (List.mem_of_getElem? (i := 0) rfl))
    refine g_iload X6 hx 62 (hb hby d5_60) rfl rfl ?_
    exact g_retI X6 hx hret hlk (hb hby d5_62) (by decide) (by decide) (by rw [e6]; exact ⟨rfl, N6, K6, E_a, F_decimalSum, F_integerRadix, F_integerKind, F_value, F_realRead⟩)
  · refine g_ifF X0 hx 23 (hb hby d5_20) ((if0 _ _).trans (flt hc5).1) rfl ?_
    refine g_iload X0 hx 25 (hb hby d5_23) rfl rfl ?_
    refine g_bipush X0 hx 27 (9 : Int32) (hb hby d5_25) (by decide) rfl ?_
    have hk7 : (9 : Int32) < (c2 - (48 : Int32)) := (own_dig_f hs2).resolve_left hc5
    refine g_icF X0 hx 30 (hb hby d5_27) (tlt hk7).2.2.2 rfl ?_
    refine g_goto X0 hx 55 (hb hby d5_30) (by decide) (by decide) ?_
    refine g_aloadN X0 hx 56 (hb hby d5_55) rfl rfl rfl ?_
    refine g_lloadN X0 hx 57 (hb hby d5_56) rfl rfl ?_
    refine g_putF X0 hx 60 hZ hown (host := "") (Or.inl (own_w hw 25 rfl)) Via.refl e0 F_decimalSum E_a (Or.inl (own_w hw 26 rfl)) (own_w hw 11 rfl) (ty := .long) (by decide) rfl rfl (hb hby d5_57) rfl (fun T8 h8 X8 e8 W8 => ?_)
    have E_a := E_a.wr W8
    have F_decimalSum := F_decimalSum.same W8
    have F_integerRadix := F_integerRadix.other W8 (Or.inr (slot_ne (Or.inl (own_w hw 36 rfl)) (Or.inl (own_w hw 26 rfl)) (by decide) (t := .int) (t' := .long) (by decide) (by decide)))
    have F_integerKind := F_integerKind.other W8 (Or.inr (slot_ne (Or.inl (own_w hw 38 rfl)) (Or.inl (own_w hw 26 rfl)) (by decide) (t := .int) (t' := .long) (by decide) (by decide)))
    have F_value := F_value.other W8 (Or.inr (slot_ne (Or.inl (own_w hw 40 rfl)) (Or.inl (own_w hw 26 rfl)) (by decide) (t := .long) (t' := .long) (by decide) (by decide)))
    have F_realRead := F_realRead.other W8 (Or.inr (slot_ne (Or.inl (own_w hw 42 rfl)) (Or.inl (own_w hw 26 rfl)) (by decide) (t := .boolean) (t' := .long) (by decide) (by decide)))
    have V_b := V_b.other W8 (Ne.symm ne_a_b)
    have N8 := Fr.snoc X8 N0 g_a
    have Z8 : n0 ≤ h8.size := by rw [W8.size]; exact Z0
    have K8 := K0.wr W8 (Or.inl (List.mem_of_getElem? (i := 0) rfl))
    refine g_iload X8 hx 62 (hb hby d5_60) rfl rfl ?_
    exact g_retI X8 hx hret hlk (hb hby d5_62) (by decide) (by decide) (by rw [e8]; exact ⟨rfl, N8, K8, E_a, F_decimalSum, F_integerRadix, F_integerKind, F_value, F_realRead⟩)
set_option maxRecDepth 65536 in
set_option maxHeartbeats 40000000 in
theorem rm5_0_3 (l : Launch) (Z : State) (a0 : Array Value) (hw : ∀ d ∈ tables_1, d.before a0 Z = true) (a b : Addr) (c0 c1 c2 c3 c4 : Int32) (kA : ClassId) (u0 u1 u2 u3 u4 : Value) (h0 : Heap) (n0 : Nat) (Z0 : n0 ≤ h0.size) (g_a : n0 ≤ a) (E_a : Exa Z h0 a "gleanwell/Grammar$NumberReading") (F_decimalSum : Fld Z h0 a "gleanwell/Grammar$NumberReading" "decimalSum" "J" u0) (F_integerRadix : Fld Z h0 a "gleanwell/Grammar$NumberReading" "integerRadix" "I" u1) (F_integerKind : Fld Z h0 a "gleanwell/Grammar$NumberReading" "integerKind" "I" u2) (F_value : Fld Z h0 a "gleanwell/Grammar$NumberReading" "value" "J" u3) (F_realRead : Fld Z h0 a "gleanwell/Grammar$NumberReading" "realRead" "Z" u4) (V_b : Arv Z h0 b kA .char (6 : Int32) [(.int c0), (.int c1), (.int c2), (.int c3), (.int c4), (.int (32 : Int32))] (.int (0 : Int32))) (ne_a_b : a ≠ b) (hd0 : ¬ own_dig c0 = 0) (hd1 : ¬ own_dig c1 = 0) (hd2 : ¬ own_dig c2 = 0) (hs3 : own_dig c3 = 0) :
    OwnMet l Z (⟨"gleanwell/Grammar$NumberReading", "sumDecimalDigits", "([CI)I"⟩ : MethodName) prog_28_method_5_code 8 (some .int) [] ({ frames := 0, cells := 0, slots := 0, locals := 0 } : Room) [(.ref a), (.ref b), (.int (0 : Int32))] h0 (fun v h L => v = some (.int 3) ∧ Fr n0 L ∧ Keep h0 h [a] ∧ Exa Z h a "gleanwell/Grammar$NumberReading" ∧ Fld Z h a "gleanwell/Grammar$NumberReading" "decimalSum" "J" (.long ((10 : Int64) * ((10 : Int64) * ((0 : Int64) - (c0 - (48 : Int32)).toInt64) - (c1 - (48 : Int32)).toInt64) - (c2 - (48 : Int32)).toInt64)) ∧ Fld Z h a "gleanwell/Grammar$NumberReading" "integerRadix" "I" u1 ∧ Fld Z h a "gleanwell/Grammar$NumberReading" "integerKind" "I" u2 ∧ Fld Z h a "gleanwell/Grammar$NumberReading" "value" "J" u3 ∧ Fld Z h a "gleanwell/Grammar$NumberReading" "realRead" "Z" u4) := by
  refine own_body (Ls := #[.val (.ref a), .val (.ref b), .val (.int (0 : Int32)), .unset, .unset, .unset, .unset, .unset]) (plainFor_of_name own_pn1) (fun m => by first | (simp [entryFrame, mkF, argsToLocals, Value.category]; done) | rfl) (fun p e s m below meth cO T0 hx hby hml hown hnm hret hlk hZ X0 e0 => ?_)
  have hown : s.vm.findClass "gleanwell/Grammar$NumberReading" = some m.cls := hown
  have N0 := Fr.nil n0
  have K0 := Keep.refl h0 [a]
  refine g_lconst X0 hx 1 (0 : Int64) (hb hby d5_0) (by decide) rfl ?_
  refine g_lstoreN X0 hx 2 #[.val (.ref a), .val (.ref b), .val (.int (0 : Int32)), .val (.long (0 : Int64)), .second, .unset, .unset, .unset] (hb hby d5_1) rfl rfl ?_
  refine g_iloadN X0 hx 3 (hb hby d5_2) rfl rfl ?_
  refine g_istore X0 hx 5 #[.val (.ref a), .val (.ref b), .val (.int (0 : Int32)), .val (.long (0 : Int64)), .second, .val (.int (0 : Int32)), .unset, .unset] (hb hby d5_3) rfl rfl ?_
  refine g_aloadN X0 hx 6 (hb hby d5_5) rfl rfl rfl ?_
  refine g_iload X0 hx 8 (hb hby d5_6) rfl rfl ?_
  refine g_caload X0 hx 9 hZ e0 V_b ⟨by decide, by decide⟩ (show _ = (.int c0) from rfl) (hb hby d5_8) rfl ?_
  refine g_istore X0 hx 11 #[.val (.ref a), .val (.ref b), .val (.int (0 : Int32)), .val (.long (0 : Int64)), .second, .val (.int (0 : Int32)), .val (.int c0), .unset] (hb hby d5_9) rfl rfl ?_
  refine g_iload X0 hx 13 (hb hby d5_11) rfl rfl ?_
  refine g_bipush X0 hx 15 (48 : Int32) (hb hby d5_13) (by decide) rfl ?_
  refine g_isub X0 hx 16 (c0 - (48 : Int32)) (hb hby d5_15) rfl rfl ?_
  refine g_istore X0 hx 18 #[.val (.ref a), .val (.ref b), .val (.int (0 : Int32)), .val (.long (0 : Int64)), .second, .val (.int (0 : Int32)), .val (.int c0), .val (.int (c0 - (48 : Int32)))] (hb hby d5_16) rfl rfl ?_
  refine g_iload X0 hx 20 (hb hby d5_18) rfl rfl ?_
  have hk1 : ¬ ((c0 - (48 : Int32)) < (0 : Int32)) := (own_dig_t hd0).1
  refine g_ifF X0 hx 23 (hb hby d5_20) ((if0 _ _).trans (flt hk1).1) rfl ?_
  refine g_iload X0 hx 25 (hb hby d5_23) rfl rfl ?_
  refine g_bipush X0 hx 27 (9 : Int32) (hb hby d5_25) (by decide) rfl ?_
  have hk2 : ¬ ((9 : Int32) < (c0 - (48 : Int32))) := (own_dig_t hd0).2
  refine g_icT X0 hx 33 (hb hby d5_27) (flt hk2).2.2.2 (by decide) (by decide) ?_
  refine g_ldc2J X0 hx 36 hZ hown (own_w hw 24 rfl) (hb hby d5_33) rfl ?_
  refine g_lloadN X0 hx 37 (hb hby d5_36) rfl rfl ?_
  refine g_lmul X0 hx 38 (0 : Int64) (hb hby d5_37) (by decide) rfl ?_
  refine g_iload X0 hx 40 (hb hby d5_38) rfl rfl ?_
  refine g_i2l X0 hx 41 ((c0 - (48 : Int32)).toInt64) (hb hby d5_40) rfl rfl ?_
  refine g_lsub X0 hx 42 ((0 : Int64) - ((c0 - (48 : Int32)).toInt64)) (hb hby d5_41) rfl rfl ?_
  refine g_lstoreN X0 hx 43 #[.val (.ref a), .val (.ref b), .val (.int (0 : Int32)), .val (.long ((0 : Int64) - ((c0 - (48 : Int32)).toInt64))), .second, .val (.int (0 : Int32)), .val (.int c0), .val (.int (c0 - (48 : Int32)))] (hb hby d5_42) rfl rfl ?_
  refine g_aloadN X0 hx 44 (hb hby d5_43) rfl rfl rfl ?_
  refine g_iinc X0 hx 47 (1 : Int32) #[.val (.ref a), .val (.ref b), .val (.int (0 : Int32)), .val (.long ((0 : Int64) - ((c0 - (48 : Int32)).toInt64))), .second, .val (.int (1 : Int32)), .val (.int c0), .val (.int (c0 - (48 : Int32)))] (hb hby d5_44) rfl (by decide) rfl rfl ?_
  refine g_iload X0 hx 49 (hb hby d5_47) rfl rfl ?_
  refine g_caload X0 hx 50 hZ e0 V_b ⟨by decide, by decide⟩ (show _ = (.int c1) from rfl) (hb hby d5_49) rfl ?_
  refine g_istore X0 hx 52 #[.val (.ref a), .val (.ref b), .val (.int (0 : Int32)), .val (.long ((0 : Int64) - ((c0 - (48 : Int32)).toInt64))), .second, .val (.int (1 : Int32)), .val (.int c1), .val (.int (c0 - (48 : Int32)))] (hb hby d5_50) rfl rfl ?_
  refine g_goto X0 hx 11 (hb hby d5_52) (by decide) (by decide) ?_
  refine g_iload X0 hx 13 (hb hby d5_11) rfl rfl ?_
  refine g_bipush X0 hx 15 (48 : Int32) (hb hby d5_13) (by decide) rfl ?_
  refine g_isub X0 hx 16 (c1 - (48 : Int32)) (hb hby d5_15) rfl rfl ?_
  refine g_istore X0 hx 18 #[.val (.ref a), .val (.ref b), .val (.int (0 : Int32)), .val (.long ((0 : Int64) - ((c0 - (48 : Int32)).toInt64))), .second, .val (.int (1 : Int32)), .val (.int c1), .val (.int (c1 - (48 : Int32)))] (hb hby d5_16) rfl rfl ?_
  refine g_iload X0 hx 20 (hb hby d5_18) rfl rfl ?_
  have hk3 : ¬ ((c1 - (48 : Int32)) < (0 : Int32)) := (own_dig_t hd1).1
  refine g_ifF X0 hx 23 (hb hby d5_20) ((if0 _ _).trans (flt hk3).1) rfl ?_
  refine g_iload X0 hx 25 (hb hby d5_23) rfl rfl ?_
  refine g_bipush X0 hx 27 (9 : Int32) (hb hby d5_25) (by decide) rfl ?_
  have hk4 : ¬ ((9 : Int32) < (c1 - (48 : Int32))) := (own_dig_t hd1).2
  refine g_icT X0 hx 33 (hb hby d5_27) (flt hk4).2.2.2 (by decide) (by decide) ?_
  refine g_ldc2J X0 hx 36 hZ hown (own_w hw 24 rfl) (hb hby d5_33) rfl ?_
  refine g_lloadN X0 hx 37 (hb hby d5_36) rfl rfl ?_
  refine g_lmul X0 hx 38 ((10 : Int64) * ((0 : Int64) - ((c0 - (48 : Int32)).toInt64))) (hb hby d5_37) rfl rfl ?_
  refine g_iload X0 hx 40 (hb hby d5_38) rfl rfl ?_
  refine g_i2l X0 hx 41 ((c1 - (48 : Int32)).toInt64) (hb hby d5_40) rfl rfl ?_
  refine g_lsub X0 hx 42 (((10 : Int64) * ((0 : Int64) - ((c0 - (48 : Int32)).toInt64))) - ((c1 - (48 : Int32)).toInt64)) (hb hby d5_41) rfl rfl ?_
  refine g_lstoreN X0 hx 43 #[.val (.ref a), .val (.ref b), .val (.int (0 : Int32)), .val (.long (((10 : Int64) * ((0 : Int64) - ((c0 - (48 : Int32)).toInt64))) - ((c1 - (48 : Int32)).toInt64))), .second, .val (.int (1 : Int32)), .val (.int c1), .val (.int (c1 - (48 : Int32)))] (hb hby d5_42) rfl rfl ?_
  refine g_aloadN X0 hx 44 (hb hby d5_43) rfl rfl rfl ?_
  refine g_iinc X0 hx 47 (2 : Int32) #[.val (.ref a), .val (.ref b), .val (.int (0 : Int32)), .val (.long (((10 : Int64) * ((0 : Int64) - ((c0 - (48 : Int32)).toInt64))) - ((c1 - (48 : Int32)).toInt64))), .second, .val (.int (2 : Int32)), .val (.int c1), .val (.int (c1 - (48 : Int32)))] (hb hby d5_44) rfl (by decide) rfl rfl ?_
  refine g_iload X0 hx 49 (hb hby d5_47) rfl rfl ?_
  refine g_caload X0 hx 50 hZ e0 V_b ⟨by decide, by decide⟩ (show _ = (.int c2) from rfl) (hb hby d5_49) rfl ?_
  refine g_istore X0 hx 52 #[.val (.ref a), .val (.ref b), .val (.int (0 : Int32)), .val (.long (((10 : Int64) * ((0 : Int64) - ((c0 - (48 : Int32)).toInt64))) - ((c1 - (48 : Int32)).toInt64))), .second, .val (.int (2 : Int32)), .val (.int c2), .val (.int (c1 - (48 : Int32)))] (hb hby d5_50) rfl rfl ?_
  refine g_goto X0 hx 11 (hb hby d5_52) (by decide) (by decide) ?_
  refine g_iload X0 hx 13 (hb hby d5_11) rfl rfl ?_
  refine g_bipush X0 hx 15 (48 : Int32) (hb hby d5_13) (by decide) rfl ?_
  refine g_isub X0 hx 16 (c2 - (48 : Int32)) (hb hby d5_15) rfl rfl ?_
  refine g_istore X0 hx 18 #[.val (.ref a), .val (.ref b), .val (.int (0 : Int32)), .val (.long (((10 : Int64) * ((0 : Int64) - ((c0 - (48 : Int32)).toInt64))) - ((c1 - (48 : Int32)).toInt64))), .second, .val (.int (2 : Int32)), .val (.int c2), .val (.int (c2 - (48 : Int32)))] (hb hby d5_16) rfl rfl ?_
  refine g_iload X0 hx 20 (hb hby d5_18) rfl rfl ?_
  have hk5 : ¬ ((c2 - (48 : Int32)) < (0 : Int32)) := (own_dig_t hd2).1
  refine g_ifF X0 hx 23 (hb hby d5_20) ((if0 _ _).trans (flt hk5).1) rfl ?_
  refine g_iload X0 hx 25 (hb hby d5_23) rfl rfl ?_
  refine g_bipush X0 hx 27 (9 : Int32) (hb hby d5_25) (by decide) rfl ?_
  have hk6 : ¬ ((9 : Int32) < (c2 - (48 : Int32))) := (own_dig_t hd2).2
  refine g_icT X0 hx 33 (hb hby d5_27) (flt hk6).2.2.2 (by decide) (by decide) ?_
  refine g_ldc2J X0 hx 36 hZ hown (own_w hw 24 rfl) (hb hby d5_33) rfl ?_
  refine g_lloadN X0 hx 37 (hb hby d5_36) rfl rfl ?_
  refine g_lmul X0 hx 38 ((10 : Int64) * (((10 : Int64) * ((0 : Int64) - ((c0 - (48 : Int32)).toInt64))) - ((c1 - (48 : Int32)).toInt64))) (hb hby d5_37) rfl rfl ?_
  refine g_iload X0 hx 40 (hb hby d5_38) rfl rfl ?_
  refine g_i2l X0 hx 41 ((c2 - (48 : Int32)).toInt64) (hb hby d5_40) rfl rfl ?_
  refine g_lsub X0 hx 42 (((10 : Int64) * (((10 : Int64) * ((0 : Int64) - ((c0 - (48 : Int32)).toInt64))) - ((c1 - (48 : Int32)).toInt64))) - ((c2 - (48 : Int32)).toInt64)) (hb hby d5_41) rfl rfl ?_
  refine g_lstoreN X0 hx 43 #[.val (.ref a), .val (.ref b), .val (.int (0 : Int32)), .val (.long (((10 : Int64) * (((10 : Int64) * ((0 : Int64) - ((c0 - (48 : Int32)).toInt64))) - ((c1 - (48 : Int32)).toInt64))) - ((c2 - (48 : Int32)).toInt64))), .second, .val (.int (2 : Int32)), .val (.int c2), .val (.int (c2 - (48 : Int32)))] (hb hby d5_42) rfl rfl ?_
  refine g_aloadN X0 hx 44 (hb hby d5_43) rfl rfl rfl ?_
  refine g_iinc X0 hx 47 (3 : Int32) #[.val (.ref a), .val (.ref b), .val (.int (0 : Int32)), .val (.long (((10 : Int64) * (((10 : Int64) * ((0 : Int64) - ((c0 - (48 : Int32)).toInt64))) - ((c1 - (48 : Int32)).toInt64))) - ((c2 - (48 : Int32)).toInt64))), .second, .val (.int (3 : Int32)), .val (.int c2), .val (.int (c2 - (48 : Int32)))] (hb hby d5_44) rfl (by decide) rfl rfl ?_
  refine g_iload X0 hx 49 (hb hby d5_47) rfl rfl ?_
  refine g_caload X0 hx 50 hZ e0 V_b ⟨by decide, by decide⟩ (show _ = (.int c3) from rfl) (hb hby d5_49) rfl ?_
  refine g_istore X0 hx 52 #[.val (.ref a), .val (.ref b), .val (.int (0 : Int32)), .val (.long (((10 : Int64) * (((10 : Int64) * ((0 : Int64) - ((c0 - (48 : Int32)).toInt64))) - ((c1 - (48 : Int32)).toInt64))) - ((c2 - (48 : Int32)).toInt64))), .second, .val (.int (3 : Int32)), .val (.int c3), .val (.int (c2 - (48 : Int32)))] (hb hby d5_50) rfl rfl ?_
  refine g_goto X0 hx 11 (hb hby d5_52) (by decide) (by decide) ?_
  refine g_iload X0 hx 13 (hb hby d5_11) rfl rfl ?_
  refine g_bipush X0 hx 15 (48 : Int32) (hb hby d5_13) (by decide) rfl ?_
  refine g_isub X0 hx 16 (c3 - (48 : Int32)) (hb hby d5_15) rfl rfl ?_
  refine g_istore X0 hx 18 #[.val (.ref a), .val (.ref b), .val (.int (0 : Int32)), .val (.long (((10 : Int64) * (((10 : Int64) * ((0 : Int64) - ((c0 - (48 : Int32)).toInt64))) - ((c1 - (48 : Int32)).toInt64))) - ((c2 - (48 : Int32)).toInt64))), .second, .val (.int (3 : Int32)), .val (.int c3), .val (.int (c3 - (48 : Int32)))] (hb hby d5_16) rfl rfl ?_
  refine g_iload X0 hx 20 (hb hby d5_18) rfl rfl ?_
  by_cases hc7 : (c3 - (48 : Int32)) < (0 : Int32)
  · refine g_ifT X0 hx 55 (hb hby d5_20) ((if0 _ _).trans (tlt hc7).1) (by decide) (by decide) ?_
    refine g_aloadN X0 hx 56 (hb hby d5_55) rfl rfl rfl ?_
    refine g_lloadN X0 hx 57 (hb hby d5_56) rfl rfl ?_
    refine g_putF X0 hx 60 hZ hown (host := "") (Or.inl (own_w hw 25 rfl)) Via.refl e0 F_decimalSum E_a (Or.inl (own_w hw 26 rfl)) (own_w hw 11 rfl) (ty := .long) (by decide) rfl rfl (hb hby d5_57) rfl (fun T8 h8 X8 e8 W8 => ?_)
    have E_a := E_a.wr W8
    have F_decimalSum := F_decimalSum.same W8
    have F_integerRadix := F_integerRadix.other W8 (Or.inr (slot_ne (Or.inl (own_w hw 36 rfl)) (Or.inl (own_w hw 26 rfl)) (by decide) (t := .int) (t' := .long) (by decide) (by decide)))
    have F_integerKind := F_integerKind.other W8 (Or.inr (slot_ne (Or.inl (own_w hw 38 rfl)) (Or.inl (own_w hw 26 rfl)) (by decide) (t := .int) (t' := .long) (by decide) (by decide)))
    have F_value := F_value.other W8 (Or.inr (slot_ne (Or.inl (own_w hw 40 rfl)) (Or.inl (own_w hw 26 rfl)) (by decide) (t := .long) (t' := .long) (by decide) (by decide)))
    have F_realRead := F_realRead.other W8 (Or.inr (slot_ne (Or.inl (own_w hw 42 rfl)) (Or.inl (own_w hw 26 rfl)) (by decide) (t := .boolean) (t' := .long) (by decide) (by decide)))
    have V_b := V_b.other W8 (Ne.symm ne_a_b)
    have N8 := Fr.snoc X8 N0 g_a
    have Z8 : n0 ≤ h8.size := by rw [W8.size]; exact Z0
    have K8 := K0.wr W8 (Or.inl (List.mem_of_getElem? (i := 0) rfl))
    refine g_iload X8 hx 62 (hb hby d5_60) rfl rfl ?_
    exact g_retI X8 hx hret hlk (hb hby d5_62) (by decide) (by decide) (by rw [e8]; exact ⟨rfl, N8, K8, E_a, F_decimalSum, F_integerRadix, F_integerKind, F_value, F_realRead⟩)
  · refine g_ifF X0 hx 23 (hb hby d5_20) ((if0 _ _).trans (flt hc7).1) rfl ?_
    refine g_iload X0 hx 25 (hb hby d5_23) rfl rfl ?_
    refine g_bipush X0 hx 27 (9 : Int32) (hb hby d5_25) (by decide) rfl ?_
    have hk9 : (9 : Int32) < (c3 - (48 : Int32)) := (own_dig_f hs3).resolve_left hc7
    refine g_icF X0 hx 30 (hb hby d5_27) (tlt hk9).2.2.2 rfl ?_
    refine g_goto X0 hx 55 (hb hby d5_30) (by decide) (by decide) ?_
    refine g_aloadN X0 hx 56 (hb hby d5_55) rfl rfl rfl ?_
    refine g_lloadN X0 hx 57 (hb hby d5_56) rfl rfl ?_
    refine g_putF X0 hx 60 hZ hown (host := "") (Or.inl (own_w hw 25 rfl)) Via.refl e0 F_decimalSum E_a (Or.inl (own_w hw 26 rfl)) (own_w hw 11 rfl) (ty := .long) (by decide) rfl rfl (hb hby d5_57) rfl (fun T10 h10 X10 e10 W10 => ?_)
    have E_a := E_a.wr W10
    have F_decimalSum := F_decimalSum.same W10
    have F_integerRadix := F_integerRadix.other W10 (Or.inr (slot_ne (Or.inl (own_w hw 36 rfl)) (Or.inl (own_w hw 26 rfl)) (by decide) (t := .int) (t' := .long) (by decide) (by decide)))
    have F_integerKind := F_integerKind.other W10 (Or.inr (slot_ne (Or.inl (own_w hw 38 rfl)) (Or.inl (own_w hw 26 rfl)) (by decide) (t := .int) (t' := .long) (by decide) (by decide)))
    have F_value := F_value.other W10 (Or.inr (slot_ne (Or.inl (own_w hw 40 rfl)) (Or.inl (own_w hw 26 rfl)) (by decide) (t := .long) (t' := .long) (by decide) (by decide)))
    have F_realRead := F_realRead.other W10 (Or.inr (slot_ne (Or.inl (own_w hw 42 rfl)) (Or.inl (own_w hw 26 rfl)) (by decide) (t := .boolean) (t' := .long) (by decide) (by decide)))
    have V_b := V_b.other W10 (Ne.symm ne_a_b)
    have N10 := Fr.snoc X10 N0 g_a
    have Z10 : n0 ≤ h10.size := by rw [W10.size]; exact Z0
    have K10 := K0.wr W10 (Or.inl (List.mem_of_getElem? (i := 0) rfl))
    refine g_iload X10 hx 62 (hb hby d5_60) rfl rfl ?_
    exact g_retI X10 hx hret hlk (hb hby d5_62) (by decide) (by decide) (by rw [e10]; exact ⟨rfl, N10, K10, E_a, F_decimalSum, F_integerRadix, F_integerKind, F_value, F_realRead⟩)
set_option maxRecDepth 65536 in
set_option maxHeartbeats 40000000 in
theorem rm5_0_4 (l : Launch) (Z : State) (a0 : Array Value) (hw : ∀ d ∈ tables_1, d.before a0 Z = true) (a b : Addr) (c0 c1 c2 c3 c4 : Int32) (kA : ClassId) (u0 u1 u2 u3 u4 : Value) (h0 : Heap) (n0 : Nat) (Z0 : n0 ≤ h0.size) (g_a : n0 ≤ a) (E_a : Exa Z h0 a "gleanwell/Grammar$NumberReading") (F_decimalSum : Fld Z h0 a "gleanwell/Grammar$NumberReading" "decimalSum" "J" u0) (F_integerRadix : Fld Z h0 a "gleanwell/Grammar$NumberReading" "integerRadix" "I" u1) (F_integerKind : Fld Z h0 a "gleanwell/Grammar$NumberReading" "integerKind" "I" u2) (F_value : Fld Z h0 a "gleanwell/Grammar$NumberReading" "value" "J" u3) (F_realRead : Fld Z h0 a "gleanwell/Grammar$NumberReading" "realRead" "Z" u4) (V_b : Arv Z h0 b kA .char (6 : Int32) [(.int c0), (.int c1), (.int c2), (.int c3), (.int c4), (.int (32 : Int32))] (.int (0 : Int32))) (ne_a_b : a ≠ b) (hd0 : ¬ own_dig c0 = 0) (hd1 : ¬ own_dig c1 = 0) (hd2 : ¬ own_dig c2 = 0) (hd3 : ¬ own_dig c3 = 0) (hs4 : own_dig c4 = 0) :
    OwnMet l Z (⟨"gleanwell/Grammar$NumberReading", "sumDecimalDigits", "([CI)I"⟩ : MethodName) prog_28_method_5_code 8 (some .int) [] ({ frames := 0, cells := 0, slots := 0, locals := 0 } : Room) [(.ref a), (.ref b), (.int (0 : Int32))] h0 (fun v h L => v = some (.int 4) ∧ Fr n0 L ∧ Keep h0 h [a] ∧ Exa Z h a "gleanwell/Grammar$NumberReading" ∧ Fld Z h a "gleanwell/Grammar$NumberReading" "decimalSum" "J" (.long ((10 : Int64) * ((10 : Int64) * ((10 : Int64) * ((0 : Int64) - (c0 - (48 : Int32)).toInt64) - (c1 - (48 : Int32)).toInt64) - (c2 - (48 : Int32)).toInt64) - (c3 - (48 : Int32)).toInt64)) ∧ Fld Z h a "gleanwell/Grammar$NumberReading" "integerRadix" "I" u1 ∧ Fld Z h a "gleanwell/Grammar$NumberReading" "integerKind" "I" u2 ∧ Fld Z h a "gleanwell/Grammar$NumberReading" "value" "J" u3 ∧ Fld Z h a "gleanwell/Grammar$NumberReading" "realRead" "Z" u4) := by
  refine own_body (Ls := #[.val (.ref a), .val (.ref b), .val (.int (0 : Int32)), .unset, .unset, .unset, .unset, .unset]) (plainFor_of_name own_pn1) (fun m => by first | (simp [entryFrame, mkF, argsToLocals, Value.category]; done) | rfl) (fun p e s m below meth cO T0 hx hby hml hown hnm hret hlk hZ X0 e0 => ?_)
  have hown : s.vm.findClass "gleanwell/Grammar$NumberReading" = some m.cls := hown
  have N0 := Fr.nil n0
  have K0 := Keep.refl h0 [a]
  refine g_lconst X0 hx 1 (0 : Int64) (hb hby d5_0) (by decide) rfl ?_
  refine g_lstoreN X0 hx 2 #[.val (.ref a), .val (.ref b), .val (.int (0 : Int32)), .val (.long (0 : Int64)), .second, .unset, .unset, .unset] (hb hby d5_1) rfl rfl ?_
  refine g_iloadN X0 hx 3 (hb hby d5_2) rfl rfl ?_
  refine g_istore X0 hx 5 #[.val (.ref a), .val (.ref b), .val (.int (0 : Int32)), .val (.long (0 : Int64)), .second, .val (.int (0 : Int32)), .unset, .unset] (hb hby d5_3) rfl rfl ?_
  refine g_aloadN X0 hx 6 (hb hby d5_5) rfl rfl rfl ?_
  refine g_iload X0 hx 8 (hb hby d5_6) rfl rfl ?_
  refine g_caload X0 hx 9 hZ e0 V_b ⟨by decide, by decide⟩ (show _ = (.int c0) from rfl) (hb hby d5_8) rfl ?_
  refine g_istore X0 hx 11 #[.val (.ref a), .val (.ref b), .val (.int (0 : Int32)), .val (.long (0 : Int64)), .second, .val (.int (0 : Int32)), .val (.int c0), .unset] (hb hby d5_9) rfl rfl ?_
  refine g_iload X0 hx 13 (hb hby d5_11) rfl rfl ?_
  refine g_bipush X0 hx 15 (48 : Int32) (hb hby d5_13) (by decide) rfl ?_
  refine g_isub X0 hx 16 (c0 - (48 : Int32)) (hb hby d5_15) rfl rfl ?_
  refine g_istore X0 hx 18 #[.val (.ref a), .val (.ref b), .val (.int (0 : Int32)), .val (.long (0 : Int64)), .second, .val (.int (0 : Int32)), .val (.int c0), .val (.int (c0 - (48 : Int32)))] (hb hby d5_16) rfl rfl ?_
  refine g_iload X0 hx 20 (hb hby d5_18) rfl rfl ?_
  have hk1 : ¬ ((c0 - (48 : Int32)) < (0 : Int32)) := (own_dig_t hd0).1
  refine g_ifF X0 hx 23 (hb hby d5_20) ((if0 _ _).trans (flt hk1).1) rfl ?_
  refine g_iload X0 hx 25 (hb hby d5_23) rfl rfl ?_
  refine g_bipush X0 hx 27 (9 : Int32) (hb hby d5_25) (by decide) rfl ?_
  have hk2 : ¬ ((9 : Int32) < (c0 - (48 : Int32))) := (own_dig_t hd0).2
  refine g_icT X0 hx 33 (hb hby d5_27) (flt hk2).2.2.2 (by decide) (by decide) ?_
  refine g_ldc2J X0 hx 36 hZ hown (own_w hw 24 rfl) (hb hby d5_33) rfl ?_
  refine g_lloadN X0 hx 37 (hb hby d5_36) rfl rfl ?_
  refine g_lmul X0 hx 38 (0 : Int64) (hb hby d5_37) (by decide) rfl ?_
  refine g_iload X0 hx 40 (hb hby d5_38) rfl rfl ?_
  refine g_i2l X0 hx 41 ((c0 - (48 : Int32)).toInt64) (hb hby d5_40) rfl rfl ?_
  refine g_lsub X0 hx 42 ((0 : Int64) - ((c0 - (48 : Int32)).toInt64)) (hb hby d5_41) rfl rfl ?_
  refine g_lstoreN X0 hx 43 #[.val (.ref a), .val (.ref b), .val (.int (0 : Int32)), .val (.long ((0 : Int64) - ((c0 - (48 : Int32)).toInt64))), .second, .val (.int (0 : Int32)), .val (.int c0), .val (.int (c0 - (48 : Int32)))] (hb hby d5_42) rfl rfl ?_
  refine g_aloadN X0 hx 44 (hb hby d5_43) rfl rfl rfl ?_
  refine g_iinc X0 hx 47 (1 : Int32) #[.val (.ref a), .val (.ref b), .val (.int (0 : Int32)), .val (.long ((0 : Int64) - ((c0 - (48 : Int32)).toInt64))), .second, .val (.int (1 : Int32)), .val (.int c0), .val (.int (c0 - (48 : Int32)))] (hb hby d5_44) rfl (by decide) rfl rfl ?_
  refine g_iload X0 hx 49 (hb hby d5_47) rfl rfl ?_
  refine g_caload X0 hx 50 hZ e0 V_b ⟨by decide, by decide⟩ (show _ = (.int c1) from rfl) (hb hby d5_49) rfl ?_
  refine g_istore X0 hx 52 #[.val (.ref a), .val (.ref b), .val (.int (0 : Int32)), .val (.long ((0 : Int64) - ((c0 - (48 : Int32)).toInt64))), .second, .val (.int (1 : Int32)), .val (.int c1), .val (.int (c0 - (48 : Int32)))] (hb hby d5_50) rfl rfl ?_
  refine g_goto X0 hx 11 (hb hby d5_52) (by decide) (by decide) ?_
  refine g_iload X0 hx 13 (hb hby d5_11) rfl rfl ?_
  refine g_bipush X0 hx 15 (48 : Int32) (hb hby d5_13) (by decide) rfl ?_
  refine g_isub X0 hx 16 (c1 - (48 : Int32)) (hb hby d5_15) rfl rfl ?_
  refine g_istore X0 hx 18 #[.val (.ref a), .val (.ref b), .val (.int (0 : Int32)), .val (.long ((0 : Int64) - ((c0 - (48 : Int32)).toInt64))), .second, .val (.int (1 : Int32)), .val (.int c1), .val (.int (c1 - (48 : Int32)))] (hb hby d5_16) rfl rfl ?_
  refine g_iload X0 hx 20 (hb hby d5_18) rfl rfl ?_
  have hk3 : ¬ ((c1 - (48 : Int32)) < (0 : Int32)) := (own_dig_t hd1).1
  refine g_ifF X0 hx 23 (hb hby d5_20) ((if0 _ _).trans (flt hk3).1) rfl ?_
  refine g_iload X0 hx 25 (hb hby d5_23) rfl rfl ?_
  refine g_bipush X0 hx 27 (9 : Int32) (hb hby d5_25) (by decide) rfl ?_
  have hk4 : ¬ ((9 : Int32) < (c1 - (48 : Int32))) := (own_dig_t hd1).2
  refine g_icT X0 hx 33 (hb hby d5_27) (flt hk4).2.2.2 (by decide) (by decide) ?_
  refine g_ldc2J X0 hx 36 hZ hown (own_w hw 24 rfl) (hb hby d5_33) rfl ?_
  refine g_lloadN X0 hx 37 (hb hby d5_36) rfl rfl ?_
  refine g_lmul X0 hx 38 ((10 : Int64) * ((0 : Int64) - ((c0 - (48 : Int32)).toInt64))) (hb hby d5_37) rfl rfl ?_
  refine g_iload X0 hx 40 (hb hby d5_38) rfl rfl ?_
  refine g_i2l X0 hx 41 ((c1 - (48 : Int32)).toInt64) (hb hby d5_40) rfl rfl ?_
  refine g_lsub X0 hx 42 (((10 : Int64) * ((0 : Int64) - ((c0 - (48 : Int32)).toInt64))) - ((c1 - (48 : Int32)).toInt64)) (hb hby d5_41) rfl rfl ?_
  refine g_lstoreN X0 hx 43 #[.val (.ref a), .val (.ref b), .val (.int (0 : Int32)), .val (.long (((10 : Int64) * ((0 : Int64) - ((c0 - (48 : Int32)).toInt64))) - ((c1 - (48 : Int32)).toInt64))), .second, .val (.int (1 : Int32)), .val (.int c1), .val (.int (c1 - (48 : Int32)))] (hb hby d5_42) rfl rfl ?_
  refine g_aloadN X0 hx 44 (hb hby d5_43) rfl rfl rfl ?_
  refine g_iinc X0 hx 47 (2 : Int32) #[.val (.ref a), .val (.ref b), .val (.int (0 : Int32)), .val (.long (((10 : Int64) * ((0 : Int64) - ((c0 - (48 : Int32)).toInt64))) - ((c1 - (48 : Int32)).toInt64))), .second, .val (.int (2 : Int32)), .val (.int c1), .val (.int (c1 - (48 : Int32)))] (hb hby d5_44) rfl (by decide) rfl rfl ?_
  refine g_iload X0 hx 49 (hb hby d5_47) rfl rfl ?_
  refine g_caload X0 hx 50 hZ e0 V_b ⟨by decide, by decide⟩ (show _ = (.int c2) from rfl) (hb hby d5_49) rfl ?_
  refine g_istore X0 hx 52 #[.val (.ref a), .val (.ref b), .val (.int (0 : Int32)), .val (.long (((10 : Int64) * ((0 : Int64) - ((c0 - (48 : Int32)).toInt64))) - ((c1 - (48 : Int32)).toInt64))), .second, .val (.int (2 : Int32)), .val (.int c2), .val (.int (c1 - (48 : Int32)))] (hb hby d5_50) rfl rfl ?_
  refine g_goto X0 hx 11 (hb hby d5_52) (by decide) (by decide) ?_
  refine g_iload X0 hx 13 (hb hby d5_11) rfl rfl ?_
  refine g_bipush X0 hx 15 (48 : Int32) (hb hby d5_13) (by decide) rfl ?_
  refine g_isub X0 hx 16 (c2 - (48 : Int32)) (hb hby d5_15) rfl rfl ?_
  refine g_istore X0 hx 18 #[.val (.ref a), .val (.ref b), .val (.int (0 : Int32)), .val (.long (((10 : Int64) * ((0 : Int64) - ((c0 - (48 : Int32)).toInt64))) - ((c1 - (48 : Int32)).toInt64))), .second, .val (.int (2 : Int32)), .val (.int c2), .val (.int (c2 - (48 : Int32)))] (hb hby d5_16) rfl rfl ?_
  refine g_iload X0 hx 20 (hb hby d5_18) rfl rfl ?_
  have hk5 : ¬ ((c2 - (48 : Int32)) < (0 : Int32)) := (own_dig_t hd2).1
  refine g_ifF X0 hx 23 (hb hby d5_20) ((if0 _ _).trans (flt hk5).1) rfl ?_
  refine g_iload X0 hx 25 (hb hby d5_23) rfl rfl ?_
  refine g_bipush X0 hx 27 (9 : Int32) (hb hby d5_25) (by decide) rfl ?_
  have hk6 : ¬ ((9 : Int32) < (c2 - (48 : Int32))) := (own_dig_t hd2).2
  refine g_icT X0 hx 33 (hb hby d5_27) (flt hk6).2.2.2 (by decide) (by decide) ?_
  refine g_ldc2J X0 hx 36 hZ hown (own_w hw 24 rfl) (hb hby d5_33) rfl ?_
  refine g_lloadN X0 hx 37 (hb hby d5_36) rfl rfl ?_
  refine g_lmul X0 hx 38 ((10 : Int64) * (((10 : Int64) * ((0 : Int64) - ((c0 - (48 : Int32)).toInt64))) - ((c1 - (48 : Int32)).toInt64))) (hb hby d5_37) rfl rfl ?_
  refine g_iload X0 hx 40 (hb hby d5_38) rfl rfl ?_
  refine g_i2l X0 hx 41 ((c2 - (48 : Int32)).toInt64) (hb hby d5_40) rfl rfl ?_
  refine g_lsub X0 hx 42 (((10 : Int64) * (((10 : Int64) * ((0 : Int64) - ((c0 - (48 : Int32)).toInt64))) - ((c1 - (48 : Int32)).toInt64))) - ((c2 - (48 : Int32)).toInt64)) (hb hby d5_41) rfl rfl ?_
  refine g_lstoreN X0 hx 43 #[.val (.ref a), .val (.ref b), .val (.int (0 : Int32)), .val (.long (((10 : Int64) * (((10 : Int64) * ((0 : Int64) - ((c0 - (48 : Int32)).toInt64))) - ((c1 - (48 : Int32)).toInt64))) - ((c2 - (48 : Int32)).toInt64))), .second, .val (.int (2 : Int32)), .val (.int c2), .val (.int (c2 - (48 : Int32)))] (hb hby d5_42) rfl rfl ?_
  refine g_aloadN X0 hx 44 (hb hby d5_43) rfl rfl rfl ?_
  refine g_iinc X0 hx 47 (3 : Int32) #[.val (.ref a), .val (.ref b), .val (.int (0 : Int32)), .val (.long (((10 : Int64) * (((10 : Int64) * ((0 : Int64) - ((c0 - (48 : Int32)).toInt64))) - ((c1 - (48 : Int32)).toInt64))) - ((c2 - (48 : Int32)).toInt64))), .second, .val (.int (3 : Int32)), .val (.int c2), .val (.int (c2 - (48 : Int32)))] (hb hby d5_44) rfl (by decide) rfl rfl ?_
  refine g_iload X0 hx 49 (hb hby d5_47) rfl rfl ?_
  refine g_caload X0 hx 50 hZ e0 V_b ⟨by decide, by decide⟩ (show _ = (.int c3) from rfl) (hb hby d5_49) rfl ?_
  refine g_istore X0 hx 52 #[.val (.ref a), .val (.ref b), .val (.int (0 : Int32)), .val (.long (((10 : Int64) * (((10 : Int64) * ((0 : Int64) - ((c0 - (48 : Int32)).toInt64))) - ((c1 - (48 : Int32)).toInt64))) - ((c2 - (48 : Int32)).toInt64))), .second, .val (.int (3 : Int32)), .val (.int c3), .val (.int (c2 - (48 : Int32)))] (hb hby d5_50) rfl rfl ?_
  refine g_goto X0 hx 11 (hb hby d5_52) (by decide) (by decide) ?_
  refine g_iload X0 hx 13 (hb hby d5_11) rfl rfl ?_
  refine g_bipush X0 hx 15 (48 : Int32) (hb hby d5_13) (by decide) rfl ?_
  refine g_isub X0 hx 16 (c3 - (48 : Int32)) (hb hby d5_15) rfl rfl ?_
  refine g_istore X0 hx 18 #[.val (.ref a), .val (.ref b), .val (.int (0 : Int32)), .val (.long (((10 : Int64) * (((10 : Int64) * ((0 : Int64) - ((c0 - (48 : Int32)).toInt64))) - ((c1 - (48 : Int32)).toInt64))) - ((c2 - (48 : Int32)).toInt64))), .second, .val (.int (3 : Int32)), .val (.int c3), .val (.int (c3 - (48 : Int32)))] (hb hby d5_16) rfl rfl ?_
  refine g_iload X0 hx 20 (hb hby d5_18) rfl rfl ?_
  have hk7 : ¬ ((c3 - (48 : Int32)) < (0 : Int32)) := (own_dig_t hd3).1
  refine g_ifF X0 hx 23 (hb hby d5_20) ((if0 _ _).trans (flt hk7).1) rfl ?_
  refine g_iload X0 hx 25 (hb hby d5_23) rfl rfl ?_
  refine g_bipush X0 hx 27 (9 : Int32) (hb hby d5_25) (by decide) rfl ?_
  have hk8 : ¬ ((9 : Int32) < (c3 - (48 : Int32))) := (own_dig_t hd3).2
  refine g_icT X0 hx 33 (hb hby d5_27) (flt hk8).2.2.2 (by decide) (by decide) ?_
  refine g_ldc2J X0 hx 36 hZ hown (own_w hw 24 rfl) (hb hby d5_33) rfl ?_
  refine g_lloadN X0 hx 37 (hb hby d5_36) rfl rfl ?_
  refine g_lmul X0 hx 38 ((10 : Int64) * (((10 : Int64) * (((10 : Int64) * ((0 : Int64) - ((c0 - (48 : Int32)).toInt64))) - ((c1 - (48 : Int32)).toInt64))) - ((c2 - (48 : Int32)).toInt64))) (hb hby d5_37) rfl rfl ?_
  refine g_iload X0 hx 40 (hb hby d5_38) rfl rfl ?_
  refine g_i2l X0 hx 41 ((c3 - (48 : Int32)).toInt64) (hb hby d5_40) rfl rfl ?_
  refine g_lsub X0 hx 42 (((10 : Int64) * (((10 : Int64) * (((10 : Int64) * ((0 : Int64) - ((c0 - (48 : Int32)).toInt64))) - ((c1 - (48 : Int32)).toInt64))) - ((c2 - (48 : Int32)).toInt64))) - ((c3 - (48 : Int32)).toInt64)) (hb hby d5_41) rfl rfl ?_
  refine g_lstoreN X0 hx 43 #[.val (.ref a), .val (.ref b), .val (.int (0 : Int32)), .val (.long (((10 : Int64) * (((10 : Int64) * (((10 : Int64) * ((0 : Int64) - ((c0 - (48 : Int32)).toInt64))) - ((c1 - (48 : Int32)).toInt64))) - ((c2 - (48 : Int32)).toInt64))) - ((c3 - (48 : Int32)).toInt64))), .second, .val (.int (3 : Int32)), .val (.int c3), .val (.int (c3 - (48 : Int32)))] (hb hby d5_42) rfl rfl ?_
  refine g_aloadN X0 hx 44 (hb hby d5_43) rfl rfl rfl ?_
  refine g_iinc X0 hx 47 (4 : Int32) #[.val (.ref a), .val (.ref b), .val (.int (0 : Int32)), .val (.long (((10 : Int64) * (((10 : Int64) * (((10 : Int64) * ((0 : Int64) - ((c0 - (48 : Int32)).toInt64))) - ((c1 - (48 : Int32)).toInt64))) - ((c2 - (48 : Int32)).toInt64))) - ((c3 - (48 : Int32)).toInt64))), .second, .val (.int (4 : Int32)), .val (.int c3), .val (.int (c3 - (48 : Int32)))] (hb hby d5_44) rfl (by decide) rfl rfl ?_
  refine g_iload X0 hx 49 (hb hby d5_47) rfl rfl ?_
  refine g_caload X0 hx 50 hZ e0 V_b ⟨by decide, by decide⟩ (show _ = (.int c4) from rfl) (hb hby d5_49) rfl ?_
  refine g_istore X0 hx 52 #[.val (.ref a), .val (.ref b), .val (.int (0 : Int32)), .val (.long (((10 : Int64) * (((10 : Int64) * (((10 : Int64) * ((0 : Int64) - ((c0 - (48 : Int32)).toInt64))) - ((c1 - (48 : Int32)).toInt64))) - ((c2 - (48 : Int32)).toInt64))) - ((c3 - (48 : Int32)).toInt64))), .second, .val (.int (4 : Int32)), .val (.int c4), .val (.int (c3 - (48 : Int32)))] (hb hby d5_50) rfl rfl ?_
  refine g_goto X0 hx 11 (hb hby d5_52) (by decide) (by decide) ?_
  refine g_iload X0 hx 13 (hb hby d5_11) rfl rfl ?_
  refine g_bipush X0 hx 15 (48 : Int32) (hb hby d5_13) (by decide) rfl ?_
  refine g_isub X0 hx 16 (c4 - (48 : Int32)) (hb hby d5_15) rfl rfl ?_
  refine g_istore X0 hx 18 #[.val (.ref a), .val (.ref b), .val (.int (0 : Int32)), .val (.long (((10 : Int64) * (((10 : Int64) * (((10 : Int64) * ((0 : Int64) - ((c0 - (48 : Int32)).toInt64))) - ((c1 - (48 : Int32)).toInt64))) - ((c2 - (48 : Int32)).toInt64))) - ((c3 - (48 : Int32)).toInt64))), .second, .val (.int (4 : Int32)), .val (.int c4), .val (.int (c4 - (48 : Int32)))] (hb hby d5_16) rfl rfl ?_
  refine g_iload X0 hx 20 (hb hby d5_18) rfl rfl ?_
  by_cases hc9 : (c4 - (48 : Int32)) < (0 : Int32)
  · refine g_ifT X0 hx 55 (hb hby d5_20) ((if0 _ _).trans (tlt hc9).1) (by decide) (by decide) ?_
    refine g_aloadN X0 hx 56 (hb hby d5_55) rfl rfl rfl ?_
    refine g_lloadN X0 hx 57 (hb hby d5_56) rfl rfl ?_
    refine g_putF X0 hx 60 hZ hown (host := "") (Or.inl (own_w hw 25 rfl)) Via.refl e0 F_decimalSum E_a (Or.inl (own_w hw 26 rfl)) (own_w hw 11 rfl) (ty := .long) (by decide) rfl rfl (hb hby d5_57) rfl (fun T10 h10 X10 e10 W10 => ?_)
    have E_a := E_a.wr W10
    have F_decimalSum := F_decimalSum.same W10
    have F_integerRadix := F_integerRadix.other W10 (Or.inr (slot_ne (Or.inl (own_w hw 36 rfl)) (Or.inl (own_w hw 26 rfl)) (by decide) (t := .int) (t' := .long) (by decide) (by decide)))
    have F_integerKind := F_integerKind.other W10 (Or.inr (slot_ne (Or.inl (own_w hw 38 rfl)) (Or.inl (own_w hw 26 rfl)) (by decide) (t := .int) (t' := .long) (by decide) (by decide)))
    have F_value := F_value.other W10 (Or.inr (slot_ne (Or.inl (own_w hw 40 rfl)) (Or.inl (own_w hw 26 rfl)) (by decide) (t := .long) (t' := .long) (by decide) (by decide)))
    have F_realRead := F_realRead.other W10 (Or.inr (slot_ne (Or.inl (own_w hw 42 rfl)) (Or.inl (own_w hw 26 rfl)) (by decide) (t := .boolean) (t' := .long) (by decide) (by decide)))
    have V_b := V_b.other W10 (Ne.symm ne_a_b)
    have N10 := Fr.snoc X10 N0 g_a
    have Z10 : n0 ≤ h10.size := by rw [W10.size]; exact Z0
    have K10 := K0.wr W10 (Or.inl (List.mem_of_getElem? (i := 0) rfl))
    refine g_iload X10 hx 62 (hb hby d5_60) rfl rfl ?_
    exact g_retI X10 hx hret hlk (hb hby d5_62) (by decide) (by decide) (by rw [e10]; exact ⟨rfl, N10, K10, E_a, F_decimalSum, F_integerRadix, F_integerKind, F_value, F_realRead⟩)
  · refine g_ifF X0 hx 23 (hb hby d5_20) ((if0 _ _).trans (flt hc9).1) rfl ?_
    refine g_iload X0 hx 25 (hb hby d5_23) rfl rfl ?_
    refine g_bipush X0 hx 27 (9 : Int32) (hb hby d5_25) (by decide) rfl ?_
    have hk11 : (9 : Int32) < (c4 - (48 : Int32)) := (own_dig_f hs4).resolve_left hc9
    refine g_icF X0 hx 30 (hb hby d5_27) (tlt hk11).2.2.2 rfl ?_
    refine g_goto X0 hx 55 (hb hby d5_30) (by decide) (by decide) ?_
    refine g_aloadN X0 hx 56 (hb hby d5_55) rfl rfl rfl ?_
    refine g_lloadN X0 hx 57 (hb hby d5_56) rfl rfl ?_
    refine g_putF X0 hx 60 hZ hown (host := "") (Or.inl (own_w hw 25 rfl)) Via.refl e0 F_decimalSum E_a (Or.inl (own_w hw 26 rfl)) (own_w hw 11 rfl) (ty := .long) (by decide) rfl rfl (hb hby d5_57) rfl (fun T12 h12 X12 e12 W12 => ?_)
    have E_a := E_a.wr W12
    have F_decimalSum := F_decimalSum.same W12
    have F_integerRadix := F_integerRadix.other W12 (Or.inr (slot_ne (Or.inl (own_w hw 36 rfl)) (Or.inl (own_w hw 26 rfl)) (by decide) (t := .int) (t' := .long) (by decide) (by decide)))
    have F_integerKind := F_integerKind.other W12 (Or.inr (slot_ne (Or.inl (own_w hw 38 rfl)) (Or.inl (own_w hw 26 rfl)) (by decide) (t := .int) (t' := .long) (by decide) (by decide)))
    have F_value := F_value.other W12 (Or.inr (slot_ne (Or.inl (own_w hw 40 rfl)) (Or.inl (own_w hw 26 rfl)) (by decide) (t := .long) (t' := .long) (by decide) (by decide)))
    have F_realRead := F_realRead.other W12 (Or.inr (slot_ne (Or.inl (own_w hw 42 rfl)) (Or.inl (own_w hw 26 rfl)) (by decide) (t := .boolean) (t' := .long) (by decide) (by decide)))
    have V_b := V_b.other W12 (Ne.symm ne_a_b)
    have N12 := Fr.snoc X12 N0 g_a
    have Z12 : n0 ≤ h12.size := by rw [W12.size]; exact Z0
    have K12 := K0.wr W12 (Or.inl (List.mem_of_getElem? (i := 0) rfl))
    refine g_iload X12 hx 62 (hb hby d5_60) rfl rfl ?_
    exact g_retI X12 hx hret hlk (hb hby d5_62) (by decide) (by decide) (by rw [e12]; exact ⟨rfl, N12, K12, E_a, F_decimalSum, F_integerRadix, F_integerKind, F_value, F_realRead⟩)
set_option maxRecDepth 65536 in
set_option maxHeartbeats 40000000 in
theorem rm5_0_5 (l : Launch) (Z : State) (a0 : Array Value) (hw : ∀ d ∈ tables_1, d.before a0 Z = true) (a b : Addr) (c0 c1 c2 c3 c4 : Int32) (kA : ClassId) (u0 u1 u2 u3 u4 : Value) (h0 : Heap) (n0 : Nat) (Z0 : n0 ≤ h0.size) (g_a : n0 ≤ a) (E_a : Exa Z h0 a "gleanwell/Grammar$NumberReading") (F_decimalSum : Fld Z h0 a "gleanwell/Grammar$NumberReading" "decimalSum" "J" u0) (F_integerRadix : Fld Z h0 a "gleanwell/Grammar$NumberReading" "integerRadix" "I" u1) (F_integerKind : Fld Z h0 a "gleanwell/Grammar$NumberReading" "integerKind" "I" u2) (F_value : Fld Z h0 a "gleanwell/Grammar$NumberReading" "value" "J" u3) (F_realRead : Fld Z h0 a "gleanwell/Grammar$NumberReading" "realRead" "Z" u4) (V_b : Arv Z h0 b kA .char (6 : Int32) [(.int c0), (.int c1), (.int c2), (.int c3), (.int c4), (.int (32 : Int32))] (.int (0 : Int32))) (ne_a_b : a ≠ b) (hd0 : ¬ own_dig c0 = 0) (hd1 : ¬ own_dig c1 = 0) (hd2 : ¬ own_dig c2 = 0) (hd3 : ¬ own_dig c3 = 0) (hd4 : ¬ own_dig c4 = 0) :
    OwnMet l Z (⟨"gleanwell/Grammar$NumberReading", "sumDecimalDigits", "([CI)I"⟩ : MethodName) prog_28_method_5_code 8 (some .int) [] ({ frames := 0, cells := 0, slots := 0, locals := 0 } : Room) [(.ref a), (.ref b), (.int (0 : Int32))] h0 (fun v h L => v = some (.int 5) ∧ Fr n0 L ∧ Keep h0 h [a] ∧ Exa Z h a "gleanwell/Grammar$NumberReading" ∧ Fld Z h a "gleanwell/Grammar$NumberReading" "decimalSum" "J" (.long ((10 : Int64) * ((10 : Int64) * ((10 : Int64) * ((10 : Int64) * ((0 : Int64) - (c0 - (48 : Int32)).toInt64) - (c1 - (48 : Int32)).toInt64) - (c2 - (48 : Int32)).toInt64) - (c3 - (48 : Int32)).toInt64) - (c4 - (48 : Int32)).toInt64)) ∧ Fld Z h a "gleanwell/Grammar$NumberReading" "integerRadix" "I" u1 ∧ Fld Z h a "gleanwell/Grammar$NumberReading" "integerKind" "I" u2 ∧ Fld Z h a "gleanwell/Grammar$NumberReading" "value" "J" u3 ∧ Fld Z h a "gleanwell/Grammar$NumberReading" "realRead" "Z" u4) := by
  refine own_body (Ls := #[.val (.ref a), .val (.ref b), .val (.int (0 : Int32)), .unset, .unset, .unset, .unset, .unset]) (plainFor_of_name own_pn1) (fun m => by first | (simp [entryFrame, mkF, argsToLocals, Value.category]; done) | rfl) (fun p e s m below meth cO T0 hx hby hml hown hnm hret hlk hZ X0 e0 => ?_)
  have hown : s.vm.findClass "gleanwell/Grammar$NumberReading" = some m.cls := hown
  have N0 := Fr.nil n0
  have K0 := Keep.refl h0 [a]
  refine g_lconst X0 hx 1 (0 : Int64) (hb hby d5_0) (by decide) rfl ?_
  refine g_lstoreN X0 hx 2 #[.val (.ref a), .val (.ref b), .val (.int (0 : Int32)), .val (.long (0 : Int64)), .second, .unset, .unset, .unset] (hb hby d5_1) rfl rfl ?_
  refine g_iloadN X0 hx 3 (hb hby d5_2) rfl rfl ?_
  refine g_istore X0 hx 5 #[.val (.ref a), .val (.ref b), .val (.int (0 : Int32)), .val (.long (0 : Int64)), .second, .val (.int (0 : Int32)), .unset, .unset] (hb hby d5_3) rfl rfl ?_
  refine g_aloadN X0 hx 6 (hb hby d5_5) rfl rfl rfl ?_
  refine g_iload X0 hx 8 (hb hby d5_6) rfl rfl ?_
  refine g_caload X0 hx 9 hZ e0 V_b ⟨by decide, by decide⟩ (show _ = (.int c0) from rfl) (hb hby d5_8) rfl ?_
  refine g_istore X0 hx 11 #[.val (.ref a), .val (.ref b), .val (.int (0 : Int32)), .val (.long (0 : Int64)), .second, .val (.int (0 : Int32)), .val (.int c0), .unset] (hb hby d5_9) rfl rfl ?_
  refine g_iload X0 hx 13 (hb hby d5_11) rfl rfl ?_
  refine g_bipush X0 hx 15 (48 : Int32) (hb hby d5_13) (by decide) rfl ?_
  refine g_isub X0 hx 16 (c0 - (48 : Int32)) (hb hby d5_15) rfl rfl ?_
  refine g_istore X0 hx 18 #[.val (.ref a), .val (.ref b), .val (.int (0 : Int32)), .val (.long (0 : Int64)), .second, .val (.int (0 : Int32)), .val (.int c0), .val (.int (c0 - (48 : Int32)))] (hb hby d5_16) rfl rfl ?_
  refine g_iload X0 hx 20 (hb hby d5_18) rfl rfl ?_
  have hk1 : ¬ ((c0 - (48 : Int32)) < (0 : Int32)) := (own_dig_t hd0).1
  refine g_ifF X0 hx 23 (hb hby d5_20) ((if0 _ _).trans (flt hk1).1) rfl ?_
  refine g_iload X0 hx 25 (hb hby d5_23) rfl rfl ?_
  refine g_bipush X0 hx 27 (9 : Int32) (hb hby d5_25) (by decide) rfl ?_
  have hk2 : ¬ ((9 : Int32) < (c0 - (48 : Int32))) := (own_dig_t hd0).2
  refine g_icT X0 hx 33 (hb hby d5_27) (flt hk2).2.2.2 (by decide) (by decide) ?_
  refine g_ldc2J X0 hx 36 hZ hown (own_w hw 24 rfl) (hb hby d5_33) rfl ?_
  refine g_lloadN X0 hx 37 (hb hby d5_36) rfl rfl ?_
  refine g_lmul X0 hx 38 (0 : Int64) (hb hby d5_37) (by decide) rfl ?_
  refine g_iload X0 hx 40 (hb hby d5_38) rfl rfl ?_
  refine g_i2l X0 hx 41 ((c0 - (48 : Int32)).toInt64) (hb hby d5_40) rfl rfl ?_
  refine g_lsub X0 hx 42 ((0 : Int64) - ((c0 - (48 : Int32)).toInt64)) (hb hby d5_41) rfl rfl ?_
  refine g_lstoreN X0 hx 43 #[.val (.ref a), .val (.ref b), .val (.int (0 : Int32)), .val (.long ((0 : Int64) - ((c0 - (48 : Int32)).toInt64))), .second, .val (.int (0 : Int32)), .val (.int c0), .val (.int (c0 - (48 : Int32)))] (hb hby d5_42) rfl rfl ?_
  refine g_aloadN X0 hx 44 (hb hby d5_43) rfl rfl rfl ?_
  refine g_iinc X0 hx 47 (1 : Int32) #[.val (.ref a), .val (.ref b), .val (.int (0 : Int32)), .val (.long ((0 : Int64) - ((c0 - (48 : Int32)).toInt64))), .second, .val (.int (1 : Int32)), .val (.int c0), .val (.int (c0 - (48 : Int32)))] (hb hby d5_44) rfl (by decide) rfl rfl ?_
  refine g_iload X0 hx 49 (hb hby d5_47) rfl rfl ?_
  refine g_caload X0 hx 50 hZ e0 V_b ⟨by decide, by decide⟩ (show _ = (.int c1) from rfl) (hb hby d5_49) rfl ?_
  refine g_istore X0 hx 52 #[.val (.ref a), .val (.ref b), .val (.int (0 : Int32)), .val (.long ((0 : Int64) - ((c0 - (48 : Int32)).toInt64))), .second, .val (.int (1 : Int32)), .val (.int c1), .val (.int (c0 - (48 : Int32)))] (hb hby d5_50) rfl rfl ?_
  refine g_goto X0 hx 11 (hb hby d5_52) (by decide) (by decide) ?_
  refine g_iload X0 hx 13 (hb hby d5_11) rfl rfl ?_
  refine g_bipush X0 hx 15 (48 : Int32) (hb hby d5_13) (by decide) rfl ?_
  refine g_isub X0 hx 16 (c1 - (48 : Int32)) (hb hby d5_15) rfl rfl ?_
  refine g_istore X0 hx 18 #[.val (.ref a), .val (.ref b), .val (.int (0 : Int32)), .val (.long ((0 : Int64) - ((c0 - (48 : Int32)).toInt64))), .second, .val (.int (1 : Int32)), .val (.int c1), .val (.int (c1 - (48 : Int32)))] (hb hby d5_16) rfl rfl ?_
  refine g_iload X0 hx 20 (hb hby d5_18) rfl rfl ?_
  have hk3 : ¬ ((c1 - (48 : Int32)) < (0 : Int32)) := (own_dig_t hd1).1
  refine g_ifF X0 hx 23 (hb hby d5_20) ((if0 _ _).trans (flt hk3).1) rfl ?_
  refine g_iload X0 hx 25 (hb hby d5_23) rfl rfl ?_
  refine g_bipush X0 hx 27 (9 : Int32) (hb hby d5_25) (by decide) rfl ?_
  have hk4 : ¬ ((9 : Int32) < (c1 - (48 : Int32))) := (own_dig_t hd1).2
  refine g_icT X0 hx 33 (hb hby d5_27) (flt hk4).2.2.2 (by decide) (by decide) ?_
  refine g_ldc2J X0 hx 36 hZ hown (own_w hw 24 rfl) (hb hby d5_33) rfl ?_
  refine g_lloadN X0 hx 37 (hb hby d5_36) rfl rfl ?_
  refine g_lmul X0 hx 38 ((10 : Int64) * ((0 : Int64) - ((c0 - (48 : Int32)).toInt64))) (hb hby d5_37) rfl rfl ?_
  refine g_iload X0 hx 40 (hb hby d5_38) rfl rfl ?_
  refine g_i2l X0 hx 41 ((c1 - (48 : Int32)).toInt64) (hb hby d5_40) rfl rfl ?_
  refine g_lsub X0 hx 42 (((10 : Int64) * ((0 : Int64) - ((c0 - (48 : Int32)).toInt64))) - ((c1 - (48 : Int32)).toInt64)) (hb hby d5_41) rfl rfl ?_
  refine g_lstoreN X0 hx 43 #[.val (.ref a), .val (.ref b), .val (.int (0 : Int32)), .val (.long (((10 : Int64) * ((0 : Int64) - ((c0 - (48 : Int32)).toInt64))) - ((c1 - (48 : Int32)).toInt64))), .second, .val (.int (1 : Int32)), .val (.int c1), .val (.int (c1 - (48 : Int32)))] (hb hby d5_42) rfl rfl ?_
  refine g_aloadN X0 hx 44 (hb hby d5_43) rfl rfl rfl ?_
  refine g_iinc X0 hx 47 (2 : Int32) #[.val (.ref a), .val (.ref b), .val (.int (0 : Int32)), .val (.long (((10 : Int64) * ((0 : Int64) - ((c0 - (48 : Int32)).toInt64))) - ((c1 - (48 : Int32)).toInt64))), .second, .val (.int (2 : Int32)), .val (.int c1), .val (.int (c1 - (48 : Int32)))] (hb hby d5_44) rfl (by decide) rfl rfl ?_
  refine g_iload X0 hx 49 (hb hby d5_47) rfl rfl ?_
  refine g_caload X0 hx 50 hZ e0 V_b ⟨by decide, by decide⟩ (show _ = (.int c2) from rfl) (hb hby d5_49) rfl ?_
  refine g_istore X0 hx 52 #[.val (.ref a), .val (.ref b), .val (.int (0 : Int32)), .val (.long (((10 : Int64) * ((0 : Int64) - ((c0 - (48 : Int32)).toInt64))) - ((c1 - (48 : Int32)).toInt64))), .second, .val (.int (2 : Int32)), .val (.int c2), .val (.int (c1 - (48 : Int32)))] (hb hby d5_50) rfl rfl ?_
  refine g_goto X0 hx 11 (hb hby d5_52) (by decide) (by decide) ?_
  refine g_iload X0 hx 13 (hb hby d5_11) rfl rfl ?_
  refine g_bipush X0 hx 15 (48 : Int32) (hb hby d5_13) (by decide) rfl ?_
  refine g_isub X0 hx 16 (c2 - (48 : Int32)) (hb hby d5_15) rfl rfl ?_
  refine g_istore X0 hx 18 #[.val (.ref a), .val (.ref b), .val (.int (0 : Int32)), .val (.long (((10 : Int64) * ((0 : Int64) - ((c0 - (48 : Int32)).toInt64))) - ((c1 - (48 : Int32)).toInt64))), .second, .val (.int (2 : Int32)), .val (.int c2), .val (.int (c2 - (48 : Int32)))] (hb hby d5_16) rfl rfl ?_
  refine g_iload X0 hx 20 (hb hby d5_18) rfl rfl ?_
  have hk5 : ¬ ((c2 - (48 : Int32)) < (0 : Int32)) := (own_dig_t hd2).1
  refine g_ifF X0 hx 23 (hb hby d5_20) ((if0 _ _).trans (flt hk5).1) rfl ?_
  refine g_iload X0 hx 25 (hb hby d5_23) rfl rfl ?_
  refine g_bipush X0 hx 27 (9 : Int32) (hb hby d5_25) (by decide) rfl ?_
  have hk6 : ¬ ((9 : Int32) < (c2 - (48 : Int32))) := (own_dig_t hd2).2
  refine g_icT X0 hx 33 (hb hby d5_27) (flt hk6).2.2.2 (by decide) (by decide) ?_
  refine g_ldc2J X0 hx 36 hZ hown (own_w hw 24 rfl) (hb hby d5_33) rfl ?_
  refine g_lloadN X0 hx 37 (hb hby d5_36) rfl rfl ?_
  refine g_lmul X0 hx 38 ((10 : Int64) * (((10 : Int64) * ((0 : Int64) - ((c0 - (48 : Int32)).toInt64))) - ((c1 - (48 : Int32)).toInt64))) (hb hby d5_37) rfl rfl ?_
  refine g_iload X0 hx 40 (hb hby d5_38) rfl rfl ?_
  refine g_i2l X0 hx 41 ((c2 - (48 : Int32)).toInt64) (hb hby d5_40) rfl rfl ?_
  refine g_lsub X0 hx 42 (((10 : Int64) * (((10 : Int64) * ((0 : Int64) - ((c0 - (48 : Int32)).toInt64))) - ((c1 - (48 : Int32)).toInt64))) - ((c2 - (48 : Int32)).toInt64)) (hb hby d5_41) rfl rfl ?_
  refine g_lstoreN X0 hx 43 #[.val (.ref a), .val (.ref b), .val (.int (0 : Int32)), .val (.long (((10 : Int64) * (((10 : Int64) * ((0 : Int64) - ((c0 - (48 : Int32)).toInt64))) - ((c1 - (48 : Int32)).toInt64))) - ((c2 - (48 : Int32)).toInt64))), .second, .val (.int (2 : Int32)), .val (.int c2), .val (.int (c2 - (48 : Int32)))] (hb hby d5_42) rfl rfl ?_
  refine g_aloadN X0 hx 44 (hb hby d5_43) rfl rfl rfl ?_
  refine g_iinc X0 hx 47 (3 : Int32) #[.val (.ref a), .val (.ref b), .val (.int (0 : Int32)), .val (.long (((10 : Int64) * (((10 : Int64) * ((0 : Int64) - ((c0 - (48 : Int32)).toInt64))) - ((c1 - (48 : Int32)).toInt64))) - ((c2 - (48 : Int32)).toInt64))), .second, .val (.int (3 : Int32)), .val (.int c2), .val (.int (c2 - (48 : Int32)))] (hb hby d5_44) rfl (by decide) rfl rfl ?_
  refine g_iload X0 hx 49 (hb hby d5_47) rfl rfl ?_
  refine g_caload X0 hx 50 hZ e0 V_b ⟨by decide, by decide⟩ (show _ = (.int c3) from rfl) (hb hby d5_49) rfl ?_
  refine g_istore X0 hx 52 #[.val (.ref a), .val (.ref b), .val (.int (0 : Int32)), .val (.long (((10 : Int64) * (((10 : Int64) * ((0 : Int64) - ((c0 - (48 : Int32)).toInt64))) - ((c1 - (48 : Int32)).toInt64))) - ((c2 - (48 : Int32)).toInt64))), .second, .val (.int (3 : Int32)), .val (.int c3), .val (.int (c2 - (48 : Int32)))] (hb hby d5_50) rfl rfl ?_
  refine g_goto X0 hx 11 (hb hby d5_52) (by decide) (by decide) ?_
  refine g_iload X0 hx 13 (hb hby d5_11) rfl rfl ?_
  refine g_bipush X0 hx 15 (48 : Int32) (hb hby d5_13) (by decide) rfl ?_
  refine g_isub X0 hx 16 (c3 - (48 : Int32)) (hb hby d5_15) rfl rfl ?_
  refine g_istore X0 hx 18 #[.val (.ref a), .val (.ref b), .val (.int (0 : Int32)), .val (.long (((10 : Int64) * (((10 : Int64) * ((0 : Int64) - ((c0 - (48 : Int32)).toInt64))) - ((c1 - (48 : Int32)).toInt64))) - ((c2 - (48 : Int32)).toInt64))), .second, .val (.int (3 : Int32)), .val (.int c3), .val (.int (c3 - (48 : Int32)))] (hb hby d5_16) rfl rfl ?_
  refine g_iload X0 hx 20 (hb hby d5_18) rfl rfl ?_
  have hk7 : ¬ ((c3 - (48 : Int32)) < (0 : Int32)) := (own_dig_t hd3).1
  refine g_ifF X0 hx 23 (hb hby d5_20) ((if0 _ _).trans (flt hk7).1) rfl ?_
  refine g_iload X0 hx 25 (hb hby d5_23) rfl rfl ?_
  refine g_bipush X0 hx 27 (9 : Int32) (hb hby d5_25) (by decide) rfl ?_
  have hk8 : ¬ ((9 : Int32) < (c3 - (48 : Int32))) := (own_dig_t hd3).2
  refine g_icT X0 hx 33 (hb hby d5_27) (flt hk8).2.2.2 (by decide) (by decide) ?_
  refine g_ldc2J X0 hx 36 hZ hown (own_w hw 24 rfl) (hb hby d5_33) rfl ?_
  refine g_lloadN X0 hx 37 (hb hby d5_36) rfl rfl ?_
  refine g_lmul X0 hx 38 ((10 : Int64) * (((10 : Int64) * (((10 : Int64) * ((0 : Int64) - ((c0 - (48 : Int32)).toInt64))) - ((c1 - (48 : Int32)).toInt64))) - ((c2 - (48 : Int32)).toInt64))) (hb hby d5_37) rfl rfl ?_
  refine g_iload X0 hx 40 (hb hby d5_38) rfl rfl ?_
  refine g_i2l X0 hx 41 ((c3 - (48 : Int32)).toInt64) (hb hby d5_40) rfl rfl ?_
  refine g_lsub X0 hx 42 (((10 : Int64) * (((10 : Int64) * (((10 : Int64) * ((0 : Int64) - ((c0 - (48 : Int32)).toInt64))) - ((c1 - (48 : Int32)).toInt64))) - ((c2 - (48 : Int32)).toInt64))) - ((c3 - (48 : Int32)).toInt64)) (hb hby d5_41) rfl rfl ?_
  refine g_lstoreN X0 hx 43 #[.val (.ref a), .val (.ref b), .val (.int (0 : Int32)), .val (.long (((10 : Int64) * (((10 : Int64) * (((10 : Int64) * ((0 : Int64) - ((c0 - (48 : Int32)).toInt64))) - ((c1 - (48 : Int32)).toInt64))) - ((c2 - (48 : Int32)).toInt64))) - ((c3 - (48 : Int32)).toInt64))), .second, .val (.int (3 : Int32)), .val (.int c3), .val (.int (c3 - (48 : Int32)))] (hb hby d5_42) rfl rfl ?_
  refine g_aloadN X0 hx 44 (hb hby d5_43) rfl rfl rfl ?_
  refine g_iinc X0 hx 47 (4 : Int32) #[.val (.ref a), .val (.ref b), .val (.int (0 : Int32)), .val (.long (((10 : Int64) * (((10 : Int64) * (((10 : Int64) * ((0 : Int64) - ((c0 - (48 : Int32)).toInt64))) - ((c1 - (48 : Int32)).toInt64))) - ((c2 - (48 : Int32)).toInt64))) - ((c3 - (48 : Int32)).toInt64))), .second, .val (.int (4 : Int32)), .val (.int c3), .val (.int (c3 - (48 : Int32)))] (hb hby d5_44) rfl (by decide) rfl rfl ?_
  refine g_iload X0 hx 49 (hb hby d5_47) rfl rfl ?_
  refine g_caload X0 hx 50 hZ e0 V_b ⟨by decide, by decide⟩ (show _ = (.int c4) from rfl) (hb hby d5_49) rfl ?_
  refine g_istore X0 hx 52 #[.val (.ref a), .val (.ref b), .val (.int (0 : Int32)), .val (.long (((10 : Int64) * (((10 : Int64) * (((10 : Int64) * ((0 : Int64) - ((c0 - (48 : Int32)).toInt64))) - ((c1 - (48 : Int32)).toInt64))) - ((c2 - (48 : Int32)).toInt64))) - ((c3 - (48 : Int32)).toInt64))), .second, .val (.int (4 : Int32)), .val (.int c4), .val (.int (c3 - (48 : Int32)))] (hb hby d5_50) rfl rfl ?_
  refine g_goto X0 hx 11 (hb hby d5_52) (by decide) (by decide) ?_
  refine g_iload X0 hx 13 (hb hby d5_11) rfl rfl ?_
  refine g_bipush X0 hx 15 (48 : Int32) (hb hby d5_13) (by decide) rfl ?_
  refine g_isub X0 hx 16 (c4 - (48 : Int32)) (hb hby d5_15) rfl rfl ?_
  refine g_istore X0 hx 18 #[.val (.ref a), .val (.ref b), .val (.int (0 : Int32)), .val (.long (((10 : Int64) * (((10 : Int64) * (((10 : Int64) * ((0 : Int64) - ((c0 - (48 : Int32)).toInt64))) - ((c1 - (48 : Int32)).toInt64))) - ((c2 - (48 : Int32)).toInt64))) - ((c3 - (48 : Int32)).toInt64))), .second, .val (.int (4 : Int32)), .val (.int c4), .val (.int (c4 - (48 : Int32)))] (hb hby d5_16) rfl rfl ?_
  refine g_iload X0 hx 20 (hb hby d5_18) rfl rfl ?_
  have hk9 : ¬ ((c4 - (48 : Int32)) < (0 : Int32)) := (own_dig_t hd4).1
  refine g_ifF X0 hx 23 (hb hby d5_20) ((if0 _ _).trans (flt hk9).1) rfl ?_
  refine g_iload X0 hx 25 (hb hby d5_23) rfl rfl ?_
  refine g_bipush X0 hx 27 (9 : Int32) (hb hby d5_25) (by decide) rfl ?_
  have hk10 : ¬ ((9 : Int32) < (c4 - (48 : Int32))) := (own_dig_t hd4).2
  refine g_icT X0 hx 33 (hb hby d5_27) (flt hk10).2.2.2 (by decide) (by decide) ?_
  refine g_ldc2J X0 hx 36 hZ hown (own_w hw 24 rfl) (hb hby d5_33) rfl ?_
  refine g_lloadN X0 hx 37 (hb hby d5_36) rfl rfl ?_
  refine g_lmul X0 hx 38 ((10 : Int64) * (((10 : Int64) * (((10 : Int64) * (((10 : Int64) * ((0 : Int64) - ((c0 - (48 : Int32)).toInt64))) - ((c1 - (48 : Int32)).toInt64))) - ((c2 - (48 : Int32)).toInt64))) - ((c3 - (48 : Int32)).toInt64))) (hb hby d5_37) rfl rfl ?_
  refine g_iload X0 hx 40 (hb hby d5_38) rfl rfl ?_
  refine g_i2l X0 hx 41 ((c4 - (48 : Int32)).toInt64) (hb hby d5_40) rfl rfl ?_
  refine g_lsub X0 hx 42 (((10 : Int64) * (((10 : Int64) * (((10 : Int64) * (((10 : Int64) * ((0 : Int64) - ((c0 - (48 : Int32)).toInt64))) - ((c1 - (48 : Int32)).toInt64))) - ((c2 - (48 : Int32)).toInt64))) - ((c3 - (48 : Int32)).toInt64))) - ((c4 - (48 : Int32)).toInt64)) (hb hby d5_41) rfl rfl ?_
  refine g_lstoreN X0 hx 43 #[.val (.ref a), .val (.ref b), .val (.int (0 : Int32)), .val (.long (((10 : Int64) * (((10 : Int64) * (((10 : Int64) * (((10 : Int64) * ((0 : Int64) - ((c0 - (48 : Int32)).toInt64))) - ((c1 - (48 : Int32)).toInt64))) - ((c2 - (48 : Int32)).toInt64))) - ((c3 - (48 : Int32)).toInt64))) - ((c4 - (48 : Int32)).toInt64))), .second, .val (.int (4 : Int32)), .val (.int c4), .val (.int (c4 - (48 : Int32)))] (hb hby d5_42) rfl rfl ?_
  refine g_aloadN X0 hx 44 (hb hby d5_43) rfl rfl rfl ?_
  refine g_iinc X0 hx 47 (5 : Int32) #[.val (.ref a), .val (.ref b), .val (.int (0 : Int32)), .val (.long (((10 : Int64) * (((10 : Int64) * (((10 : Int64) * (((10 : Int64) * ((0 : Int64) - ((c0 - (48 : Int32)).toInt64))) - ((c1 - (48 : Int32)).toInt64))) - ((c2 - (48 : Int32)).toInt64))) - ((c3 - (48 : Int32)).toInt64))) - ((c4 - (48 : Int32)).toInt64))), .second, .val (.int (5 : Int32)), .val (.int c4), .val (.int (c4 - (48 : Int32)))] (hb hby d5_44) rfl (by decide) rfl rfl ?_
  refine g_iload X0 hx 49 (hb hby d5_47) rfl rfl ?_
  refine g_caload X0 hx 50 hZ e0 V_b ⟨by decide, by decide⟩ (show _ = (.int (32 : Int32)) from rfl) (hb hby d5_49) rfl ?_
  refine g_istore X0 hx 52 #[.val (.ref a), .val (.ref b), .val (.int (0 : Int32)), .val (.long (((10 : Int64) * (((10 : Int64) * (((10 : Int64) * (((10 : Int64) * ((0 : Int64) - ((c0 - (48 : Int32)).toInt64))) - ((c1 - (48 : Int32)).toInt64))) - ((c2 - (48 : Int32)).toInt64))) - ((c3 - (48 : Int32)).toInt64))) - ((c4 - (48 : Int32)).toInt64))), .second, .val (.int (5 : Int32)), .val (.int (32 : Int32)), .val (.int (c4 - (48 : Int32)))] (hb hby d5_50) rfl rfl ?_
  refine g_goto X0 hx 11 (hb hby d5_52) (by decide) (by decide) ?_
  refine g_iload X0 hx 13 (hb hby d5_11) rfl rfl ?_
  refine g_bipush X0 hx 15 (48 : Int32) (hb hby d5_13) (by decide) rfl ?_
  refine g_isub X0 hx 16 (-16 : Int32) (hb hby d5_15) (by decide) rfl ?_
  refine g_istore X0 hx 18 #[.val (.ref a), .val (.ref b), .val (.int (0 : Int32)), .val (.long (((10 : Int64) * (((10 : Int64) * (((10 : Int64) * (((10 : Int64) * ((0 : Int64) - ((c0 - (48 : Int32)).toInt64))) - ((c1 - (48 : Int32)).toInt64))) - ((c2 - (48 : Int32)).toInt64))) - ((c3 - (48 : Int32)).toInt64))) - ((c4 - (48 : Int32)).toInt64))), .second, .val (.int (5 : Int32)), .val (.int (32 : Int32)), .val (.int (-16 : Int32))] (hb hby d5_16) rfl rfl ?_
  refine g_iload X0 hx 20 (hb hby d5_18) rfl rfl ?_
  refine g_ifT X0 hx 55 (hb hby d5_20) (by decide) (by decide) (by decide) ?_
  refine g_aloadN X0 hx 56 (hb hby d5_55) rfl rfl rfl ?_
  refine g_lloadN X0 hx 57 (hb hby d5_56) rfl rfl ?_
  refine g_putF X0 hx 60 hZ hown (host := "") (Or.inl (own_w hw 25 rfl)) Via.refl e0 F_decimalSum E_a (Or.inl (own_w hw 26 rfl)) (own_w hw 11 rfl) (ty := .long) (by decide) rfl rfl (hb hby d5_57) rfl (fun T11 h11 X11 e11 W11 => ?_)
  have E_a := E_a.wr W11
  have F_decimalSum := F_decimalSum.same W11
  have F_integerRadix := F_integerRadix.other W11 (Or.inr (slot_ne (Or.inl (own_w hw 36 rfl)) (Or.inl (own_w hw 26 rfl)) (by decide) (t := .int) (t' := .long) (by decide) (by decide)))
  have F_integerKind := F_integerKind.other W11 (Or.inr (slot_ne (Or.inl (own_w hw 38 rfl)) (Or.inl (own_w hw 26 rfl)) (by decide) (t := .int) (t' := .long) (by decide) (by decide)))
  have F_value := F_value.other W11 (Or.inr (slot_ne (Or.inl (own_w hw 40 rfl)) (Or.inl (own_w hw 26 rfl)) (by decide) (t := .long) (t' := .long) (by decide) (by decide)))
  have F_realRead := F_realRead.other W11 (Or.inr (slot_ne (Or.inl (own_w hw 42 rfl)) (Or.inl (own_w hw 26 rfl)) (by decide) (t := .boolean) (t' := .long) (by decide) (by decide)))
  have V_b := V_b.other W11 (Ne.symm ne_a_b)
  have N11 := Fr.snoc X11 N0 g_a
  have Z11 : n0 ≤ h11.size := by rw [W11.size]; exact Z0
  have K11 := K0.wr W11 (Or.inl (List.mem_of_getElem? (i := 0) rfl))
  refine g_iload X11 hx 62 (hb hby d5_60) rfl rfl ?_
  exact g_retI X11 hx hret hlk (hb hby d5_62) (by decide) (by decide) (by rw [e11]; exact ⟨rfl, N11, K11, E_a, F_decimalSum, F_integerRadix, F_integerKind, F_value, F_realRead⟩)
set_option maxRecDepth 65536 in
set_option maxHeartbeats 40000000 in
theorem rm5_1_1 (l : Launch) (Z : State) (a0 : Array Value) (hw : ∀ d ∈ tables_1, d.before a0 Z = true) (a b : Addr) (c0 c1 c2 c3 c4 : Int32) (kA : ClassId) (u0 u1 u2 u3 u4 : Value) (h0 : Heap) (n0 : Nat) (Z0 : n0 ≤ h0.size) (g_a : n0 ≤ a) (E_a : Exa Z h0 a "gleanwell/Grammar$NumberReading") (F_decimalSum : Fld Z h0 a "gleanwell/Grammar$NumberReading" "decimalSum" "J" u0) (F_integerRadix : Fld Z h0 a "gleanwell/Grammar$NumberReading" "integerRadix" "I" u1) (F_integerKind : Fld Z h0 a "gleanwell/Grammar$NumberReading" "integerKind" "I" u2) (F_value : Fld Z h0 a "gleanwell/Grammar$NumberReading" "value" "J" u3) (F_realRead : Fld Z h0 a "gleanwell/Grammar$NumberReading" "realRead" "Z" u4) (V_b : Arv Z h0 b kA .char (6 : Int32) [(.int c0), (.int c1), (.int c2), (.int c3), (.int c4), (.int (32 : Int32))] (.int (0 : Int32))) (ne_a_b : a ≠ b) (hs1 : own_dig c1 = 0) :
    OwnMet l Z (⟨"gleanwell/Grammar$NumberReading", "sumDecimalDigits", "([CI)I"⟩ : MethodName) prog_28_method_5_code 8 (some .int) [] ({ frames := 0, cells := 0, slots := 0, locals := 0 } : Room) [(.ref a), (.ref b), (.int (1 : Int32))] h0 (fun v h L => v = some (.int 1) ∧ Fr n0 L ∧ Keep h0 h [a] ∧ Exa Z h a "gleanwell/Grammar$NumberReading" ∧ Fld Z h a "gleanwell/Grammar$NumberReading" "decimalSum" "J" (.long (0 : Int64)) ∧ Fld Z h a "gleanwell/Grammar$NumberReading" "integerRadix" "I" u1 ∧ Fld Z h a "gleanwell/Grammar$NumberReading" "integerKind" "I" u2 ∧ Fld Z h a "gleanwell/Grammar$NumberReading" "value" "J" u3 ∧ Fld Z h a "gleanwell/Grammar$NumberReading" "realRead" "Z" u4) := by
  refine own_body (Ls := #[.val (.ref a), .val (.ref b), .val (.int (1 : Int32)), .unset, .unset, .unset, .unset, .unset]) (plainFor_of_name own_pn1) (fun m => by first | (simp [entryFrame, mkF, argsToLocals, Value.category]; done) | rfl) (fun p e s m below meth cO T0 hx hby hml hown hnm hret hlk hZ X0 e0 => ?_)
  have hown : s.vm.findClass "gleanwell/Grammar$NumberReading" = some m.cls := hown
  have N0 := Fr.nil n0
  have K0 := Keep.refl h0 [a]
  refine g_lconst X0 hx 1 (0 : Int64) (hb hby d5_0) (by decide) rfl ?_
  refine g_lstoreN X0 hx 2 #[.val (.ref a), .val (.ref b), .val (.int (1 : Int32)), .val (.long (0 : Int64)), .second, .unset, .unset, .unset] (hb hby d5_1) rfl rfl ?_
  refine g_iloadN X0 hx 3 (hb hby d5_2) rfl rfl ?_
  refine g_istore X0 hx 5 #[.val (.ref a), .val (.ref b), .val (.int (1 : Int32)), .val (.long (0 : Int64)), .second, .val (.int (1 : Int32)), .unset, .unset] (hb hby d5_3) rfl rfl ?_
  refine g_aloadN X0 hx 6 (hb hby d5_5) rfl rfl rfl ?_
  refine g_iload X0 hx 8 (hb hby d5_6) rfl rfl ?_
  refine g_caload X0 hx 9 hZ e0 V_b ⟨by decide, by decide⟩ (show _ = (.int c1) from rfl) (hb hby d5_8) rfl ?_
  refine g_istore X0 hx 11 #[.val (.ref a), .val (.ref b), .val (.int (1 : Int32)), .val (.long (0 : Int64)), .second, .val (.int (1 : Int32)), .val (.int c1), .unset] (hb hby d5_9) rfl rfl ?_
  refine g_iload X0 hx 13 (hb hby d5_11) rfl rfl ?_
  refine g_bipush X0 hx 15 (48 : Int32) (hb hby d5_13) (by decide) rfl ?_
  refine g_isub X0 hx 16 (c1 - (48 : Int32)) (hb hby d5_15) rfl rfl ?_
  refine g_istore X0 hx 18 #[.val (.ref a), .val (.ref b), .val (.int (1 : Int32)), .val (.long (0 : Int64)), .second, .val (.int (1 : Int32)), .val (.int c1), .val (.int (c1 - (48 : Int32)))] (hb hby d5_16) rfl rfl ?_
  refine g_iload X0 hx 20 (hb hby d5_18) rfl rfl ?_
  by_cases hc1 : (c1 - (48 : Int32)) < (0 : Int32)
  · refine g_ifT X0 hx 55 (hb hby d5_20) ((if0 _ _).trans (tlt hc1).1) (by decide) (by decide) ?_
    refine g_aloadN X0 hx 56 (hb hby d5_55) rfl rfl rfl ?_
    refine g_lloadN X0 hx 57 (hb hby d5_56) rfl rfl ?_
    refine g_putF X0 hx 60 hZ hown (host := "") (Or.inl (own_w hw 25 rfl)) Via.refl e0 F_decimalSum E_a (Or.inl (own_w hw 26 rfl)) (own_w hw 11 rfl) (ty := .long) (by decide) rfl rfl (hb hby d5_57) rfl (fun T2 h2 X2 e2 W2 => ?_)
    have E_a := E_a.wr W2
    have F_decimalSum := F_decimalSum.same W2
    have F_integerRadix := F_integerRadix.other W2 (Or.inr (slot_ne (Or.inl (own_w hw 36 rfl)) (Or.inl (own_w hw 26 rfl)) (by decide) (t := .int) (t' := .long) (by decide) (by decide)))
    have F_integerKind := F_integerKind.other W2 (Or.inr (slot_ne (Or.inl (own_w hw 38 rfl)) (Or.inl (own_w hw 26 rfl)) (by decide) (t := .int) (t' := .long) (by decide) (by decide)))
    have F_value := F_value.other W2 (Or.inr (slot_ne (Or.inl (own_w hw 40 rfl)) (Or.inl (own_w hw 26 rfl)) (by decide) (t := .long) (t' := .long) (by decide) (by decide)))
    have F_realRead := F_realRead.other W2 (Or.inr (slot_ne (Or.inl (own_w hw 42 rfl)) (Or.inl (own_w hw 26 rfl)) (by decide) (t := .boolean) (t' := .long) (by decide) (by decide)))
    have V_b := V_b.other W2 (Ne.symm ne_a_b)
    have N2 := Fr.snoc X2 N0 g_a
    have Z2 : n0 ≤ h2.size := by rw [W2.size]; exact Z0
    have K2 := K0.wr W2 (Or.inl (List.mem_of_getElem? (i := 0) rfl))
    refine g_iload X2 hx 62 (hb hby d5_60) rfl rfl ?_
    exact g_retI X2 hx hret hlk (hb hby d5_62) (by decide) (by decide) (by rw [e2]; exact ⟨rfl, N2, K2, E_a, F_decimalSum, F_integerRadix, F_integerKind, F_value, F_realRead⟩)
  · refine g_ifF X0 hx 23 (hb hby d5_20) ((if0 _ _).trans (flt hc1).1) rfl ?_
    refine g_iload X0 hx 25 (hb hby d5_23) rfl rfl ?_
    refine g_bipush X0 hx 27 (9 : Int32) (hb hby d5_25) (by decide) rfl ?_
    have hk3 : (9 : Int32) < (c1 - (48 : Int32)) := (own_dig_f hs1).resolve_left hc1
    refine g_icF X0 hx 30 (hb hby d5_27) (tlt hk3).2.2.2 rfl ?_
    refine g_goto X0 hx 55 (hb hby d5_30) (by decide) (by decide) ?_
    refine g_aloadN X0 hx 56 (hb hby d5_55) rfl rfl rfl ?_
    refine g_lloadN X0 hx 57 (hb hby d5_56) rfl rfl ?_
    refine g_putF X0 hx 60 hZ hown (host := "") (Or.inl (own_w hw 25 rfl)) Via.refl e0 F_decimalSum E_a (Or.inl (own_w hw 26 rfl)) (own_w hw 11 rfl) (ty := .long) (by decide) rfl rfl (hb hby d5_57) rfl (fun T4 h4 X4 e4 W4 => ?_)
    have E_a := E_a.wr W4
    have F_decimalSum := F_decimalSum.same W4
    have F_integerRadix := F_integerRadix.other W4 (Or.inr (slot_ne (Or.inl (own_w hw 36 rfl)) (Or.inl (own_w hw 26 rfl)) (by decide) (t := .int) (t' := .long) (by decide) (by decide)))
    have F_integerKind := F_integerKind.other W4 (Or.inr (slot_ne (Or.inl (own_w hw 38 rfl)) (Or.inl (own_w hw 26 rfl)) (by decide) (t := .int) (t' := .long) (by decide) (by decide)))
    have F_value := F_value.other W4 (Or.inr (slot_ne (Or.inl (own_w hw 40 rfl)) (Or.inl (own_w hw 26 rfl)) (by decide) (t := .long) (t' := .long) (by decide) (by decide)))
    have F_realRead := F_realRead.other W4 (Or.inr (slot_ne (Or.inl (own_w hw 42 rfl)) (Or.inl (own_w hw 26 rfl)) (by decide) (t := .boolean) (t' := .long) (by decide) (by decide)))
    have V_b := V_b.other W4 (Ne.symm ne_a_b)
    have N4 := Fr.snoc X4 N0 g_a
    have Z4 : n0 ≤ h4.size := by rw [W4.size]; exact Z0
    have K4 := K0.wr W4 (Or.inl (List.mem_of_getElem? (i := 0) rfl))
    refine g_iload X4 hx 62 (hb hby d5_60) rfl rfl ?_
    exact g_retI X4 hx hret hlk (hb hby d5_62) (by decide) (by decide) (by rw [e4]; exact ⟨rfl, N4, K4, E_a, F_decimalSum, F_integerRadix, F_integerKind, F_value, F_realRead⟩)
set_option maxRecDepth 65536 in
set_option maxHeartbeats 40000000 in
theorem rm5_1_2 (l : Launch) (Z : State) (a0 : Array Value) (hw : ∀ d ∈ tables_1, d.before a0 Z = true) (a b : Addr) (c0 c1 c2 c3 c4 : Int32) (kA : ClassId) (u0 u1 u2 u3 u4 : Value) (h0 : Heap) (n0 : Nat) (Z0 : n0 ≤ h0.size) (g_a : n0 ≤ a) (E_a : Exa Z h0 a "gleanwell/Grammar$NumberReading") (F_decimalSum : Fld Z h0 a "gleanwell/Grammar$NumberReading" "decimalSum" "J" u0) (F_integerRadix : Fld Z h0 a "gleanwell/Grammar$NumberReading" "integerRadix" "I" u1) (F_integerKind : Fld Z h0 a "gleanwell/Grammar$NumberReading" "integerKind" "I" u2) (F_value : Fld Z h0 a "gleanwell/Grammar$NumberReading" "value" "J" u3) (F_realRead : Fld Z h0 a "gleanwell/Grammar$NumberReading" "realRead" "Z" u4) (V_b : Arv Z h0 b kA .char (6 : Int32) [(.int c0), (.int c1), (.int c2), (.int c3), (.int c4), (.int (32 : Int32))] (.int (0 : Int32))) (ne_a_b : a ≠ b) (hd1 : ¬ own_dig c1 = 0) (hs2 : own_dig c2 = 0) :
    OwnMet l Z (⟨"gleanwell/Grammar$NumberReading", "sumDecimalDigits", "([CI)I"⟩ : MethodName) prog_28_method_5_code 8 (some .int) [] ({ frames := 0, cells := 0, slots := 0, locals := 0 } : Room) [(.ref a), (.ref b), (.int (1 : Int32))] h0 (fun v h L => v = some (.int 2) ∧ Fr n0 L ∧ Keep h0 h [a] ∧ Exa Z h a "gleanwell/Grammar$NumberReading" ∧ Fld Z h a "gleanwell/Grammar$NumberReading" "decimalSum" "J" (.long ((0 : Int64) - (c1 - (48 : Int32)).toInt64)) ∧ Fld Z h a "gleanwell/Grammar$NumberReading" "integerRadix" "I" u1 ∧ Fld Z h a "gleanwell/Grammar$NumberReading" "integerKind" "I" u2 ∧ Fld Z h a "gleanwell/Grammar$NumberReading" "value" "J" u3 ∧ Fld Z h a "gleanwell/Grammar$NumberReading" "realRead" "Z" u4) := by
  refine own_body (Ls := #[.val (.ref a), .val (.ref b), .val (.int (1 : Int32)), .unset, .unset, .unset, .unset, .unset]) (plainFor_of_name own_pn1) (fun m => by first | (simp [entryFrame, mkF, argsToLocals, Value.category]; done) | rfl) (fun p e s m below meth cO T0 hx hby hml hown hnm hret hlk hZ X0 e0 => ?_)
  have hown : s.vm.findClass "gleanwell/Grammar$NumberReading" = some m.cls := hown
  have N0 := Fr.nil n0
  have K0 := Keep.refl h0 [a]
  refine g_lconst X0 hx 1 (0 : Int64) (hb hby d5_0) (by decide) rfl ?_
  refine g_lstoreN X0 hx 2 #[.val (.ref a), .val (.ref b), .val (.int (1 : Int32)), .val (.long (0 : Int64)), .second, .unset, .unset, .unset] (hb hby d5_1) rfl rfl ?_
  refine g_iloadN X0 hx 3 (hb hby d5_2) rfl rfl ?_
  refine g_istore X0 hx 5 #[.val (.ref a), .val (.ref b), .val (.int (1 : Int32)), .val (.long (0 : Int64)), .second, .val (.int (1 : Int32)), .unset, .unset] (hb hby d5_3) rfl rfl ?_
  refine g_aloadN X0 hx 6 (hb hby d5_5) rfl rfl rfl ?_
  refine g_iload X0 hx 8 (hb hby d5_6) rfl rfl ?_
  refine g_caload X0 hx 9 hZ e0 V_b ⟨by decide, by decide⟩ (show _ = (.int c1) from rfl) (hb hby d5_8) rfl ?_
  refine g_istore X0 hx 11 #[.val (.ref a), .val (.ref b), .val (.int (1 : Int32)), .val (.long (0 : Int64)), .second, .val (.int (1 : Int32)), .val (.int c1), .unset] (hb hby d5_9) rfl rfl ?_
  refine g_iload X0 hx 13 (hb hby d5_11) rfl rfl ?_
  refine g_bipush X0 hx 15 (48 : Int32) (hb hby d5_13) (by decide) rfl ?_
  refine g_isub X0 hx 16 (c1 - (48 : Int32)) (hb hby d5_15) rfl rfl ?_
  refine g_istore X0 hx 18 #[.val (.ref a), .val (.ref b), .val (.int (1 : Int32)), .val (.long (0 : Int64)), .second, .val (.int (1 : Int32)), .val (.int c1), .val (.int (c1 - (48 : Int32)))] (hb hby d5_16) rfl rfl ?_
  refine g_iload X0 hx 20 (hb hby d5_18) rfl rfl ?_
  have hk1 : ¬ ((c1 - (48 : Int32)) < (0 : Int32)) := (own_dig_t hd1).1
  refine g_ifF X0 hx 23 (hb hby d5_20) ((if0 _ _).trans (flt hk1).1) rfl ?_
  refine g_iload X0 hx 25 (hb hby d5_23) rfl rfl ?_
  refine g_bipush X0 hx 27 (9 : Int32) (hb hby d5_25) (by decide) rfl ?_
  have hk2 : ¬ ((9 : Int32) < (c1 - (48 : Int32))) := (own_dig_t hd1).2
  refine g_icT X0 hx 33 (hb hby d5_27) (flt hk2).2.2.2 (by decide) (by decide) ?_
  refine g_ldc2J X0 hx 36 hZ hown (own_w hw 24 rfl) (hb hby d5_33) rfl ?_
  refine g_lloadN X0 hx 37 (hb hby d5_36) rfl rfl ?_
  refine g_lmul X0 hx 38 (0 : Int64) (hb hby d5_37) (by decide) rfl ?_
  refine g_iload X0 hx 40 (hb hby d5_38) rfl rfl ?_
  refine g_i2l X0 hx 41 ((c1 - (48 : Int32)).toInt64) (hb hby d5_40) rfl rfl ?_
  refine g_lsub X0 hx 42 ((0 : Int64) - ((c1 - (48 : Int32)).toInt64)) (hb hby d5_41) rfl rfl ?_
  refine g_lstoreN X0 hx 43 #[.val (.ref a), .val (.ref b), .val (.int (1 : Int32)), .val (.long ((0 : Int64) - ((c1 - (48 : Int32)).toInt64))), .second, .val (.int (1 : Int32)), .val (.int c1), .val (.int (c1 - (48 : Int32)))] (hb hby d5_42) rfl rfl ?_
  refine g_aloadN X0 hx 44 (hb hby d5_43) rfl rfl rfl ?_
  refine g_iinc X0 hx 47 (2 : Int32) #[.val (.ref a), .val (.ref b), .val (.int (1 : Int32)), .val (.long ((0 : Int64) - ((c1 - (48 : Int32)).toInt64))), .second, .val (.int (2 : Int32)), .val (.int c1), .val (.int (c1 - (48 : Int32)))] (hb hby d5_44) rfl (by decide) rfl rfl ?_
  refine g_iload X0 hx 49 (hb hby d5_47) rfl rfl ?_
  refine g_caload X0 hx 50 hZ e0 V_b ⟨by decide, by decide⟩ (show _ = (.int c2) from rfl) (hb hby d5_49) rfl ?_
  refine g_istore X0 hx 52 #[.val (.ref a), .val (.ref b), .val (.int (1 : Int32)), .val (.long ((0 : Int64) - ((c1 - (48 : Int32)).toInt64))), .second, .val (.int (2 : Int32)), .val (.int c2), .val (.int (c1 - (48 : Int32)))] (hb hby d5_50) rfl rfl ?_
  refine g_goto X0 hx 11 (hb hby d5_52) (by decide) (by decide) ?_
  refine g_iload X0 hx 13 (hb hby d5_11) rfl rfl ?_
  refine g_bipush X0 hx 15 (48 : Int32) (hb hby d5_13) (by decide) rfl ?_
  refine g_isub X0 hx 16 (c2 - (48 : Int32)) (hb hby d5_15) rfl rfl ?_
  refine g_istore X0 hx 18 #[.val (.ref a), .val (.ref b), .val (.int (1 : Int32)), .val (.long ((0 : Int64) - ((c1 - (48 : Int32)).toInt64))), .second, .val (.int (2 : Int32)), .val (.int c2), .val (.int (c2 - (48 : Int32)))] (hb hby d5_16) rfl rfl ?_
  refine g_iload X0 hx 20 (hb hby d5_18) rfl rfl ?_
  by_cases hc3 : (c2 - (48 : Int32)) < (0 : Int32)
  · refine g_ifT X0 hx 55 (hb hby d5_20) ((if0 _ _).trans (tlt hc3).1) (by decide) (by decide) ?_
    refine g_aloadN X0 hx 56 (hb hby d5_55) rfl rfl rfl ?_
    refine g_lloadN X0 hx 57 (hb hby d5_56) rfl rfl ?_
    refine g_putF X0 hx 60 hZ hown (host := "") (Or.inl (own_w hw 25 rfl)) Via.refl e0 F_decimalSum E_a (Or.inl (own_w hw 26 rfl)) (own_w hw 11 rfl) (ty := .long) (by decide) rfl rfl (hb hby d5_57) rfl (fun T4 h4 X4 e4 W4 => ?_)
    have E_a := E_a.wr W4
    have F_decimalSum := F_decimalSum.same W4
    have F_integerRadix := F_integerRadix.other W4 (Or.inr (slot_ne (Or.inl (own_w hw 36 rfl)) (Or.inl (own_w hw 26 rfl)) (by decide) (t := .int) (t' := .long) (by decide) (by decide)))
    have F_integerKind := F_integerKind.other W4 (Or.inr (slot_ne (Or.inl (own_w hw 38 rfl)) (Or.inl (own_w hw 26 rfl)) (by decide) (t := .int) (t' := .long) (by decide) (by decide)))
    have F_value := F_value.other W4 (Or.inr (slot_ne (Or.inl (own_w hw 40 rfl)) (Or.inl (own_w hw 26 rfl)) (by decide) (t := .long) (t' := .long) (by decide) (by decide)))
    have F_realRead := F_realRead.other W4 (Or.inr (slot_ne (Or.inl (own_w hw 42 rfl)) (Or.inl (own_w hw 26 rfl)) (by decide) (t := .boolean) (t' := .long) (by decide) (by decide)))
    have V_b := V_b.other W4 (Ne.symm ne_a_b)
    have N4 := Fr.snoc X4 N0 g_a
    have Z4 : n0 ≤ h4.size := by rw [W4.size]; exact Z0
    have K4 := K0.wr W4 (Or.inl (List.mem_of_getElem? (i := 0) rfl))
    refine g_iload X4 hx 62 (hb hby d5_60) rfl rfl ?_
    exact g_retI X4 hx hret hlk (hb hby d5_62) (by decide) (by decide) (by rw [e4]; exact ⟨rfl, N4, K4, E_a, F_decimalSum, F_integerRadix, F_integerKind, F_value, F_realRead⟩)
  · refine g_ifF X0 hx 23 (hb hby d5_20) ((if0 _ _).trans (flt hc3).1) rfl ?_
    refine g_iload X0 hx 25 (hb hby d5_23) rfl rfl ?_
    refine g_bipush X0 hx 27 (9 : Int32) (hb hby d5_25) (by decide) rfl ?_
    have hk5 : (9 : Int32) < (c2 - (48 : Int32)) := (own_dig_f hs2).resolve_left hc3
    refine g_icF X0 hx 30 (hb hby d5_27) (tlt hk5).2.2.2 rfl ?_
    refine g_goto X0 hx 55 (hb hby d5_30) (by decide) (by decide) ?_
    refine g_aloadN X0 hx 56 (hb hby d5_55) rfl rfl rfl ?_
    refine g_lloadN X0 hx 57 (hb hby d5_56) rfl rfl ?_
    refine g_putF X0 hx 60 hZ hown (host := "") (Or.inl (own_w hw 25 rfl)) Via.refl e0 F_decimalSum E_a (Or.inl (own_w hw 26 rfl)) (own_w hw 11 rfl) (ty := .long) (by decide) rfl rfl (hb hby d5_57) rfl (fun T6 h6 X6 e6 W6 => ?_)
    have E_a := E_a.wr W6
    have F_decimalSum := F_decimalSum.same W6
    have F_integerRadix := F_integerRadix.other W6 (Or.inr (slot_ne (Or.inl (own_w hw 36 rfl)) (Or.inl (own_w hw 26 rfl)) (by decide) (t := .int) (t' := .long) (by decide) (by decide)))
    have F_integerKind := F_integerKind.other W6 (Or.inr (slot_ne (Or.inl (own_w hw 38 rfl)) (Or.inl (own_w hw 26 rfl)) (by decide) (t := .int) (t' := .long) (by decide) (by decide)))
    have F_value := F_value.other W6 (Or.inr (slot_ne (Or.inl (own_w hw 40 rfl)) (Or.inl (own_w hw 26 rfl)) (by decide) (t := .long) (t' := .long) (by decide) (by decide)))
    have F_realRead := F_realRead.other W6 (Or.inr (slot_ne (Or.inl (own_w hw 42 rfl)) (Or.inl (own_w hw 26 rfl)) (by decide) (t := .boolean) (t' := .long) (by decide) (by decide)))
    have V_b := V_b.other W6 (Ne.symm ne_a_b)
    have N6 := Fr.snoc X6 N0 g_a
    have Z6 : n0 ≤ h6.size := by rw [W6.size]; exact Z0
    have K6 := K0.wr W6 (Or.inl (List.mem_of_getElem? (i := 0) rfl))
    refine g_iload X6 hx 62 (hb hby d5_60) rfl rfl ?_
    exact g_retI X6 hx hret hlk (hb hby d5_62) (by decide) (by decide) (by rw [e6]; exact ⟨rfl, N6, K6, E_a, F_decimalSum, F_integerRadix, F_integerKind, F_value, F_realRead⟩)
set_option maxRecDepth 65536 in
set_option maxHeartbeats 40000000 in
theorem rm5_1_3 (l : Launch) (Z : State) (a0 : Array Value) (hw : ∀ d ∈ tables_1, d.before a0 Z = true) (a b : Addr) (c0 c1 c2 c3 c4 : Int32) (kA : ClassId) (u0 u1 u2 u3 u4 : Value) (h0 : Heap) (n0 : Nat) (Z0 : n0 ≤ h0.size) (g_a : n0 ≤ a) (E_a : Exa Z h0 a "gleanwell/Grammar$NumberReading") (F_decimalSum : Fld Z h0 a "gleanwell/Grammar$NumberReading" "decimalSum" "J" u0) (F_integerRadix : Fld Z h0 a "gleanwell/Grammar$NumberReading" "integerRadix" "I" u1) (F_integerKind : Fld Z h0 a "gleanwell/Grammar$NumberReading" "integerKind" "I" u2) (F_value : Fld Z h0 a "gleanwell/Grammar$NumberReading" "value" "J" u3) (F_realRead : Fld Z h0 a "gleanwell/Grammar$NumberReading" "realRead" "Z" u4) (V_b : Arv Z h0 b kA .char (6 : Int32) [(.int c0), (.int c1), (.int c2), (.int c3), (.int c4), (.int (32 : Int32))] (.int (0 : Int32))) (ne_a_b : a ≠ b) (hd1 : ¬ own_dig c1 = 0) (hd2 : ¬ own_dig c2 = 0) (hs3 : own_dig c3 = 0) :
    OwnMet l Z (⟨"gleanwell/Grammar$NumberReading", "sumDecimalDigits", "([CI)I"⟩ : MethodName) prog_28_method_5_code 8 (some .int) [] ({ frames := 0, cells := 0, slots := 0, locals := 0 } : Room) [(.ref a), (.ref b), (.int (1 : Int32))] h0 (fun v h L => v = some (.int 3) ∧ Fr n0 L ∧ Keep h0 h [a] ∧ Exa Z h a "gleanwell/Grammar$NumberReading" ∧ Fld Z h a "gleanwell/Grammar$NumberReading" "decimalSum" "J" (.long ((10 : Int64) * ((0 : Int64) - (c1 - (48 : Int32)).toInt64) - (c2 - (48 : Int32)).toInt64)) ∧ Fld Z h a "gleanwell/Grammar$NumberReading" "integerRadix" "I" u1 ∧ Fld Z h a "gleanwell/Grammar$NumberReading" "integerKind" "I" u2 ∧ Fld Z h a "gleanwell/Grammar$NumberReading" "value" "J" u3 ∧ Fld Z h a "gleanwell/Grammar$NumberReading" "realRead" "Z" u4) := by
  refine own_body (Ls := #[.val (.ref a), .val (.ref b), .val (.int (1 : Int32)), .unset, .unset, .unset, .unset, .unset]) (plainFor_of_name own_pn1) (fun m => by first | (simp [entryFrame, mkF, argsToLocals, Value.category]; done) | rfl) (fun p e s m below meth cO T0 hx hby hml hown hnm hret hlk hZ X0 e0 => ?_)
  have hown : s.vm.findClass "gleanwell/Grammar$NumberReading" = some m.cls := hown
  have N0 := Fr.nil n0
  have K0 := Keep.refl h0 [a]
  refine g_lconst X0 hx 1 (0 : Int64) (hb hby d5_0) (by decide) rfl ?_
  refine g_lstoreN X0 hx 2 #[.val (.ref a), .val (.ref b), .val (.int (1 : Int32)), .val (.long (0 : Int64)), .second, .unset, .unset, .unset] (hb hby d5_1) rfl rfl ?_
  refine g_iloadN X0 hx 3 (hb hby d5_2) rfl rfl ?_
  refine g_istore X0 hx 5 #[.val (.ref a), .val (.ref b), .val (.int (1 : Int32)), .val (.long (0 : Int64)), .second, .val (.int (1 : Int32)), .unset, .unset] (hb hby d5_3) rfl rfl ?_
  refine g_aloadN X0 hx 6 (hb hby d5_5) rfl rfl rfl ?_
  refine g_iload X0 hx 8 (hb hby d5_6) rfl rfl ?_
  refine g_caload X0 hx 9 hZ e0 V_b ⟨by decide, by decide⟩ (show _ = (.int c1) from rfl) (hb hby d5_8) rfl ?_
  refine g_istore X0 hx 11 #[.val (.ref a), .val (.ref b), .val (.int (1 : Int32)), .val (.long (0 : Int64)), .second, .val (.int (1 : Int32)), .val (.int c1), .unset] (hb hby d5_9) rfl rfl ?_
  refine g_iload X0 hx 13 (hb hby d5_11) rfl rfl ?_
  refine g_bipush X0 hx 15 (48 : Int32) (hb hby d5_13) (by decide) rfl ?_
  refine g_isub X0 hx 16 (c1 - (48 : Int32)) (hb hby d5_15) rfl rfl ?_
  refine g_istore X0 hx 18 #[.val (.ref a), .val (.ref b), .val (.int (1 : Int32)), .val (.long (0 : Int64)), .second, .val (.int (1 : Int32)), .val (.int c1), .val (.int (c1 - (48 : Int32)))] (hb hby d5_16) rfl rfl ?_
  refine g_iload X0 hx 20 (hb hby d5_18) rfl rfl ?_
  have hk1 : ¬ ((c1 - (48 : Int32)) < (0 : Int32)) := (own_dig_t hd1).1
  refine g_ifF X0 hx 23 (hb hby d5_20) ((if0 _ _).trans (flt hk1).1) rfl ?_
  refine g_iload X0 hx 25 (hb hby d5_23) rfl rfl ?_
  refine g_bipush X0 hx 27 (9 : Int32) (hb hby d5_25) (by decide) rfl ?_
  have hk2 : ¬ ((9 : Int32) < (c1 - (48 : Int32))) := (own_dig_t hd1).2
  refine g_icT X0 hx 33 (hb hby d5_27) (flt hk2).2.2.2 (by decide) (by decide) ?_
  refine g_ldc2J X0 hx 36 hZ hown (own_w hw 24 rfl) (hb hby d5_33) rfl ?_
  refine g_lloadN X0 hx 37 (hb hby d5_36) rfl rfl ?_
  refine g_lmul X0 hx 38 (0 : Int64) (hb hby d5_37) (by decide) rfl ?_
  refine g_iload X0 hx 40 (hb hby d5_38) rfl rfl ?_
  refine g_i2l X0 hx 41 ((c1 - (48 : Int32)).toInt64) (hb hby d5_40) rfl rfl ?_
  refine g_lsub X0 hx 42 ((0 : Int64) - ((c1 - (48 : Int32)).toInt64)) (hb hby d5_41) rfl rfl ?_
  refine g_lstoreN X0 hx 43 #[.val (.ref a), .val (.ref b), .val (.int (1 : Int32)), .val (.long ((0 : Int64) - ((c1 - (48 : Int32)).toInt64))), .second, .val (.int (1 : Int32)), .val (.int c1), .val (.int (c1 - (48 : Int32)))] (hb hby d5_42) rfl rfl ?_
  refine g_aloadN X0 hx 44 (hb hby d5_43) rfl rfl rfl ?_
  refine g_iinc X0 hx 47 (2 : Int32) #[.val (.ref a), .val (.ref b), .val (.int (1 : Int32)), .val (.long ((0 : Int64) - ((c1 - (48 : Int32)).toInt64))), .second, .val (.int (2 : Int32)), .val (.int c1), .val (.int (c1 - (48 : Int32)))] (hb hby d5_44) rfl (by decide) rfl rfl ?_
  refine g_iload X0 hx 49 (hb hby d5_47) rfl rfl ?_
  refine g_caload X0 hx 50 hZ e0 V_b ⟨by decide, by decide⟩ (show _ = (.int c2) from rfl) (hb hby d5_49) rfl ?_
  refine g_istore X0 hx 52 #[.val (.ref a), .val (.ref b), .val (.int (1 : Int32)), .val (.long ((0 : Int64) - ((c1 - (48 : Int32)).toInt64))), .second, .val (.int (2 : Int32)), .val (.int c2), .val (.int (c1 - (48 : Int32)))] (hb hby d5_50) rfl rfl ?_
  refine g_goto X0 hx 11 (hb hby d5_52) (by decide) (by decide) ?_
  refine g_iload X0 hx 13 (hb hby d5_11) rfl rfl ?_
  refine g_bipush X0 hx 15 (48 : Int32) (hb hby d5_13) (by decide) rfl ?_
  refine g_isub X0 hx 16 (c2 - (48 : Int32)) (hb hby d5_15) rfl rfl ?_
  refine g_istore X0 hx 18 #[.val (.ref a), .val (.ref b), .val (.int (1 : Int32)), .val (.long ((0 : Int64) - ((c1 - (48 : Int32)).toInt64))), .second, .val (.int (2 : Int32)), .val (.int c2), .val (.int (c2 - (48 : Int32)))] (hb hby d5_16) rfl rfl ?_
  refine g_iload X0 hx 20 (hb hby d5_18) rfl rfl ?_
  have hk3 : ¬ ((c2 - (48 : Int32)) < (0 : Int32)) := (own_dig_t hd2).1
  refine g_ifF X0 hx 23 (hb hby d5_20) ((if0 _ _).trans (flt hk3).1) rfl ?_
  refine g_iload X0 hx 25 (hb hby d5_23) rfl rfl ?_
  refine g_bipush X0 hx 27 (9 : Int32) (hb hby d5_25) (by decide) rfl ?_
  have hk4 : ¬ ((9 : Int32) < (c2 - (48 : Int32))) := (own_dig_t hd2).2
  refine g_icT X0 hx 33 (hb hby d5_27) (flt hk4).2.2.2 (by decide) (by decide) ?_
  refine g_ldc2J X0 hx 36 hZ hown (own_w hw 24 rfl) (hb hby d5_33) rfl ?_
  refine g_lloadN X0 hx 37 (hb hby d5_36) rfl rfl ?_
  refine g_lmul X0 hx 38 ((10 : Int64) * ((0 : Int64) - ((c1 - (48 : Int32)).toInt64))) (hb hby d5_37) rfl rfl ?_
  refine g_iload X0 hx 40 (hb hby d5_38) rfl rfl ?_
  refine g_i2l X0 hx 41 ((c2 - (48 : Int32)).toInt64) (hb hby d5_40) rfl rfl ?_
  refine g_lsub X0 hx 42 (((10 : Int64) * ((0 : Int64) - ((c1 - (48 : Int32)).toInt64))) - ((c2 - (48 : Int32)).toInt64)) (hb hby d5_41) rfl rfl ?_
  refine g_lstoreN X0 hx 43 #[.val (.ref a), .val (.ref b), .val (.int (1 : Int32)), .val (.long (((10 : Int64) * ((0 : Int64) - ((c1 - (48 : Int32)).toInt64))) - ((c2 - (48 : Int32)).toInt64))), .second, .val (.int (2 : Int32)), .val (.int c2), .val (.int (c2 - (48 : Int32)))] (hb hby d5_42) rfl rfl ?_
  refine g_aloadN X0 hx 44 (hb hby d5_43) rfl rfl rfl ?_
  refine g_iinc X0 hx 47 (3 : Int32) #[.val (.ref a), .val (.ref b), .val (.int (1 : Int32)), .val (.long (((10 : Int64) * ((0 : Int64) - ((c1 - (48 : Int32)).toInt64))) - ((c2 - (48 : Int32)).toInt64))), .second, .val (.int (3 : Int32)), .val (.int c2), .val (.int (c2 - (48 : Int32)))] (hb hby d5_44) rfl (by decide) rfl rfl ?_
  refine g_iload X0 hx 49 (hb hby d5_47) rfl rfl ?_
  refine g_caload X0 hx 50 hZ e0 V_b ⟨by decide, by decide⟩ (show _ = (.int c3) from rfl) (hb hby d5_49) rfl ?_
  refine g_istore X0 hx 52 #[.val (.ref a), .val (.ref b), .val (.int (1 : Int32)), .val (.long (((10 : Int64) * ((0 : Int64) - ((c1 - (48 : Int32)).toInt64))) - ((c2 - (48 : Int32)).toInt64))), .second, .val (.int (3 : Int32)), .val (.int c3), .val (.int (c2 - (48 : Int32)))] (hb hby d5_50) rfl rfl ?_
  refine g_goto X0 hx 11 (hb hby d5_52) (by decide) (by decide) ?_
  refine g_iload X0 hx 13 (hb hby d5_11) rfl rfl ?_
  refine g_bipush X0 hx 15 (48 : Int32) (hb hby d5_13) (by decide) rfl ?_
  refine g_isub X0 hx 16 (c3 - (48 : Int32)) (hb hby d5_15) rfl rfl ?_
  refine g_istore X0 hx 18 #[.val (.ref a), .val (.ref b), .val (.int (1 : Int32)), .val (.long (((10 : Int64) * ((0 : Int64) - ((c1 - (48 : Int32)).toInt64))) - ((c2 - (48 : Int32)).toInt64))), .second, .val (.int (3 : Int32)), .val (.int c3), .val (.int (c3 - (48 : Int32)))] (hb hby d5_16) rfl rfl ?_
  refine g_iload X0 hx 20 (hb hby d5_18) rfl rfl ?_
  by_cases hc5 : (c3 - (48 : Int32)) < (0 : Int32)
  · refine g_ifT X0 hx 55 (hb hby d5_20) ((if0 _ _).trans (tlt hc5).1) (by decide) (by decide) ?_
    refine g_aloadN X0 hx 56 (hb hby d5_55) rfl rfl rfl ?_
    refine g_lloadN X0 hx 57 (hb hby d5_56) rfl rfl ?_
    refine g_putF X0 hx 60 hZ hown (host := "") (Or.inl (own_w hw 25 rfl)) Via.refl e0 F_decimalSum E_a (Or.inl (own_w hw 26 rfl)) (own_w hw 11 rfl) (ty := .long) (by decide) rfl rfl (hb hby d5_57) rfl (fun T6 h6 X6 e6 W6 => ?_)
    have E_a := E_a.wr W6
    have F_decimalSum := F_decimalSum.same W6
    have F_integerRadix := F_integerRadix.other W6 (Or.inr (slot_ne (Or.inl (own_w hw 36 rfl)) (Or.inl (own_w hw 26 rfl)) (by decide) (t := .int) (t' := .long) (by decide) (by decide)))
    have F_integerKind := F_integerKind.other W6 (Or.inr (slot_ne (Or.inl (own_w hw 38 rfl)) (Or.inl (own_w hw 26 rfl)) (by decide) (t := .int) (t' := .long) (by decide) (by decide)))
    have F_value := F_value.other W6 (Or.inr (slot_ne (Or.inl (own_w hw 40 rfl)) (Or.inl (own_w hw 26 rfl)) (by decide) (t := .long) (t' := .long) (by decide) (by decide)))
    have F_realRead := F_realRead.other W6 (Or.inr (slot_ne (Or.inl (own_w hw 42 rfl)) (Or.inl (own_w hw 26 rfl)) (by decide) (t := .boolean) (t' := .long) (by decide) (by decide)))
    have V_b := V_b.other W6 (Ne.symm ne_a_b)
    have N6 := Fr.snoc X6 N0 g_a
    have Z6 : n0 ≤ h6.size := by rw [W6.size]; exact Z0
    have K6 := K0.wr W6 (Or.inl (List.mem_of_getElem? (i := 0) rfl))
    refine g_iload X6 hx 62 (hb hby d5_60) rfl rfl ?_
    exact g_retI X6 hx hret hlk (hb hby d5_62) (by decide) (by decide) (by rw [e6]; exact ⟨rfl, N6, K6, E_a, F_decimalSum, F_integerRadix, F_integerKind, F_value, F_realRead⟩)
  · refine g_ifF X0 hx 23 (hb hby d5_20) ((if0 _ _).trans (flt hc5).1) rfl ?_
    refine g_iload X0 hx 25 (hb hby d5_23) rfl rfl ?_
    refine g_bipush X0 hx 27 (9 : Int32) (hb hby d5_25) (by decide) rfl ?_
    have hk7 : (9 : Int32) < (c3 - (48 : Int32)) := (own_dig_f hs3).resolve_left hc5
    refine g_icF X0 hx 30 (hb hby d5_27) (tlt hk7).2.2.2 rfl ?_
    refine g_goto X0 hx 55 (hb hby d5_30) (by decide) (by decide) ?_
    refine g_aloadN X0 hx 56 (hb hby d5_55) rfl rfl rfl ?_
    refine g_lloadN X0 hx 57 (hb hby d5_56) rfl rfl ?_
    refine g_putF X0 hx 60 hZ hown (host := "") (Or.inl (own_w hw 25 rfl)) Via.refl e0 F_decimalSum E_a (Or.inl (own_w hw 26 rfl)) (own_w hw 11 rfl) (ty := .long) (by decide) rfl rfl (hb hby d5_57) rfl (fun T8 h8 X8 e8 W8 => ?_)
    have E_a := E_a.wr W8
    have F_decimalSum := F_decimalSum.same W8
    have F_integerRadix := F_integerRadix.other W8 (Or.inr (slot_ne (Or.inl (own_w hw 36 rfl)) (Or.inl (own_w hw 26 rfl)) (by decide) (t := .int) (t' := .long) (by decide) (by decide)))
    have F_integerKind := F_integerKind.other W8 (Or.inr (slot_ne (Or.inl (own_w hw 38 rfl)) (Or.inl (own_w hw 26 rfl)) (by decide) (t := .int) (t' := .long) (by decide) (by decide)))
    have F_value := F_value.other W8 (Or.inr (slot_ne (Or.inl (own_w hw 40 rfl)) (Or.inl (own_w hw 26 rfl)) (by decide) (t := .long) (t' := .long) (by decide) (by decide)))
    have F_realRead := F_realRead.other W8 (Or.inr (slot_ne (Or.inl (own_w hw 42 rfl)) (Or.inl (own_w hw 26 rfl)) (by decide) (t := .boolean) (t' := .long) (by decide) (by decide)))
    have V_b := V_b.other W8 (Ne.symm ne_a_b)
    have N8 := Fr.snoc X8 N0 g_a
    have Z8 : n0 ≤ h8.size := by rw [W8.size]; exact Z0
    have K8 := K0.wr W8 (Or.inl (List.mem_of_getElem? (i := 0) rfl))
    refine g_iload X8 hx 62 (hb hby d5_60) rfl rfl ?_
    exact g_retI X8 hx hret hlk (hb hby d5_62) (by decide) (by decide) (by rw [e8]; exact ⟨rfl, N8, K8, E_a, F_decimalSum, F_integerRadix, F_integerKind, F_value, F_realRead⟩)
set_option maxRecDepth 65536 in
set_option maxHeartbeats 40000000 in
theorem rm5_1_4 (l : Launch) (Z : State) (a0 : Array Value) (hw : ∀ d ∈ tables_1, d.before a0 Z = true) (a b : Addr) (c0 c1 c2 c3 c4 : Int32) (kA : ClassId) (u0 u1 u2 u3 u4 : Value) (h0 : Heap) (n0 : Nat) (Z0 : n0 ≤ h0.size) (g_a : n0 ≤ a) (E_a : Exa Z h0 a "gleanwell/Grammar$NumberReading") (F_decimalSum : Fld Z h0 a "gleanwell/Grammar$NumberReading" "decimalSum" "J" u0) (F_integerRadix : Fld Z h0 a "gleanwell/Grammar$NumberReading" "integerRadix" "I" u1) (F_integerKind : Fld Z h0 a "gleanwell/Grammar$NumberReading" "integerKind" "I" u2) (F_value : Fld Z h0 a "gleanwell/Grammar$NumberReading" "value" "J" u3) (F_realRead : Fld Z h0 a "gleanwell/Grammar$NumberReading" "realRead" "Z" u4) (V_b : Arv Z h0 b kA .char (6 : Int32) [(.int c0), (.int c1), (.int c2), (.int c3), (.int c4), (.int (32 : Int32))] (.int (0 : Int32))) (ne_a_b : a ≠ b) (hd1 : ¬ own_dig c1 = 0) (hd2 : ¬ own_dig c2 = 0) (hd3 : ¬ own_dig c3 = 0) (hs4 : own_dig c4 = 0) :
    OwnMet l Z (⟨"gleanwell/Grammar$NumberReading", "sumDecimalDigits", "([CI)I"⟩ : MethodName) prog_28_method_5_code 8 (some .int) [] ({ frames := 0, cells := 0, slots := 0, locals := 0 } : Room) [(.ref a), (.ref b), (.int (1 : Int32))] h0 (fun v h L => v = some (.int 4) ∧ Fr n0 L ∧ Keep h0 h [a] ∧ Exa Z h a "gleanwell/Grammar$NumberReading" ∧ Fld Z h a "gleanwell/Grammar$NumberReading" "decimalSum" "J" (.long ((10 : Int64) * ((10 : Int64) * ((0 : Int64) - (c1 - (48 : Int32)).toInt64) - (c2 - (48 : Int32)).toInt64) - (c3 - (48 : Int32)).toInt64)) ∧ Fld Z h a "gleanwell/Grammar$NumberReading" "integerRadix" "I" u1 ∧ Fld Z h a "gleanwell/Grammar$NumberReading" "integerKind" "I" u2 ∧ Fld Z h a "gleanwell/Grammar$NumberReading" "value" "J" u3 ∧ Fld Z h a "gleanwell/Grammar$NumberReading" "realRead" "Z" u4) := by
  refine own_body (Ls := #[.val (.ref a), .val (.ref b), .val (.int (1 : Int32)), .unset, .unset, .unset, .unset, .unset]) (plainFor_of_name own_pn1) (fun m => by first | (simp [entryFrame, mkF, argsToLocals, Value.category]; done) | rfl) (fun p e s m below meth cO T0 hx hby hml hown hnm hret hlk hZ X0 e0 => ?_)
  have hown : s.vm.findClass "gleanwell/Grammar$NumberReading" = some m.cls := hown
  have N0 := Fr.nil n0
  have K0 := Keep.refl h0 [a]
  refine g_lconst X0 hx 1 (0 : Int64) (hb hby d5_0) (by decide) rfl ?_
  refine g_lstoreN X0 hx 2 #[.val (.ref a), .val (.ref b), .val (.int (1 : Int32)), .val (.long (0 : Int64)), .second, .unset, .unset, .unset] (hb hby d5_1) rfl rfl ?_
  refine g_iloadN X0 hx 3 (hb hby d5_2) rfl rfl ?_
  refine g_istore X0 hx 5 #[.val (.ref a), .val (.ref b), .val (.int (1 : Int32)), .val (.long (0 : Int64)), .second, .val (.int (1 : Int32)), .unset, .unset] (hb hby d5_3) rfl rfl ?_
  refine g_aloadN X0 hx 6 (hb hby d5_5) rfl rfl rfl ?_
  refine g_iload X0 hx 8 (hb hby d5_6) rfl rfl ?_
  refine g_caload X0 hx 9 hZ e0 V_b ⟨by decide, by decide⟩ (show _ = (.int c1) from rfl) (hb hby d5_8) rfl ?_
  refine g_istore X0 hx 11 #[.val (.ref a), .val (.ref b), .val (.int (1 : Int32)), .val (.long (0 : Int64)), .second, .val (.int (1 : Int32)), .val (.int c1), .unset] (hb hby d5_9) rfl rfl ?_
  refine g_iload X0 hx 13 (hb hby d5_11) rfl rfl ?_
  refine g_bipush X0 hx 15 (48 : Int32) (hb hby d5_13) (by decide) rfl ?_
  refine g_isub X0 hx 16 (c1 - (48 : Int32)) (hb hby d5_15) rfl rfl ?_
  refine g_istore X0 hx 18 #[.val (.ref a), .val (.ref b), .val (.int (1 : Int32)), .val (.long (0 : Int64)), .second, .val (.int (1 : Int32)), .val (.int c1), .val (.int (c1 - (48 : Int32)))] (hb hby d5_16) rfl rfl ?_
  refine g_iload X0 hx 20 (hb hby d5_18) rfl rfl ?_
  have hk1 : ¬ ((c1 - (48 : Int32)) < (0 : Int32)) := (own_dig_t hd1).1
  refine g_ifF X0 hx 23 (hb hby d5_20) ((if0 _ _).trans (flt hk1).1) rfl ?_
  refine g_iload X0 hx 25 (hb hby d5_23) rfl rfl ?_
  refine g_bipush X0 hx 27 (9 : Int32) (hb hby d5_25) (by decide) rfl ?_
  have hk2 : ¬ ((9 : Int32) < (c1 - (48 : Int32))) := (own_dig_t hd1).2
  refine g_icT X0 hx 33 (hb hby d5_27) (flt hk2).2.2.2 (by decide) (by decide) ?_
  refine g_ldc2J X0 hx 36 hZ hown (own_w hw 24 rfl) (hb hby d5_33) rfl ?_
  refine g_lloadN X0 hx 37 (hb hby d5_36) rfl rfl ?_
  refine g_lmul X0 hx 38 (0 : Int64) (hb hby d5_37) (by decide) rfl ?_
  refine g_iload X0 hx 40 (hb hby d5_38) rfl rfl ?_
  refine g_i2l X0 hx 41 ((c1 - (48 : Int32)).toInt64) (hb hby d5_40) rfl rfl ?_
  refine g_lsub X0 hx 42 ((0 : Int64) - ((c1 - (48 : Int32)).toInt64)) (hb hby d5_41) rfl rfl ?_
  refine g_lstoreN X0 hx 43 #[.val (.ref a), .val (.ref b), .val (.int (1 : Int32)), .val (.long ((0 : Int64) - ((c1 - (48 : Int32)).toInt64))), .second, .val (.int (1 : Int32)), .val (.int c1), .val (.int (c1 - (48 : Int32)))] (hb hby d5_42) rfl rfl ?_
  refine g_aloadN X0 hx 44 (hb hby d5_43) rfl rfl rfl ?_
  refine g_iinc X0 hx 47 (2 : Int32) #[.val (.ref a), .val (.ref b), .val (.int (1 : Int32)), .val (.long ((0 : Int64) - ((c1 - (48 : Int32)).toInt64))), .second, .val (.int (2 : Int32)), .val (.int c1), .val (.int (c1 - (48 : Int32)))] (hb hby d5_44) rfl (by decide) rfl rfl ?_
  refine g_iload X0 hx 49 (hb hby d5_47) rfl rfl ?_
  refine g_caload X0 hx 50 hZ e0 V_b ⟨by decide, by decide⟩ (show _ = (.int c2) from rfl) (hb hby d5_49) rfl ?_
  refine g_istore X0 hx 52 #[.val (.ref a), .val (.ref b), .val (.int (1 : Int32)), .val (.long ((0 : Int64) - ((c1 - (48 : Int32)).toInt64))), .second, .val (.int (2 : Int32)), .val (.int c2), .val (.int (c1 - (48 : Int32)))] (hb hby d5_50) rfl rfl ?_
  refine g_goto X0 hx 11 (hb hby d5_52) (by decide) (by decide) ?_
  refine g_iload X0 hx 13 (hb hby d5_11) rfl rfl ?_
  refine g_bipush X0 hx 15 (48 : Int32) (hb hby d5_13) (by decide) rfl ?_
  refine g_isub X0 hx 16 (c2 - (48 : Int32)) (hb hby d5_15) rfl rfl ?_
  refine g_istore X0 hx 18 #[.val (.ref a), .val (.ref b), .val (.int (1 : Int32)), .val (.long ((0 : Int64) - ((c1 - (48 : Int32)).toInt64))), .second, .val (.int (2 : Int32)), .val (.int c2), .val (.int (c2 - (48 : Int32)))] (hb hby d5_16) rfl rfl ?_
  refine g_iload X0 hx 20 (hb hby d5_18) rfl rfl ?_
  have hk3 : ¬ ((c2 - (48 : Int32)) < (0 : Int32)) := (own_dig_t hd2).1
  refine g_ifF X0 hx 23 (hb hby d5_20) ((if0 _ _).trans (flt hk3).1) rfl ?_
  refine g_iload X0 hx 25 (hb hby d5_23) rfl rfl ?_
  refine g_bipush X0 hx 27 (9 : Int32) (hb hby d5_25) (by decide) rfl ?_
  have hk4 : ¬ ((9 : Int32) < (c2 - (48 : Int32))) := (own_dig_t hd2).2
  refine g_icT X0 hx 33 (hb hby d5_27) (flt hk4).2.2.2 (by decide) (by decide) ?_
  refine g_ldc2J X0 hx 36 hZ hown (own_w hw 24 rfl) (hb hby d5_33) rfl ?_
  refine g_lloadN X0 hx 37 (hb hby d5_36) rfl rfl ?_
  refine g_lmul X0 hx 38 ((10 : Int64) * ((0 : Int64) - ((c1 - (48 : Int32)).toInt64))) (hb hby d5_37) rfl rfl ?_
  refine g_iload X0 hx 40 (hb hby d5_38) rfl rfl ?_
  refine g_i2l X0 hx 41 ((c2 - (48 : Int32)).toInt64) (hb hby d5_40) rfl rfl ?_
  refine g_lsub X0 hx 42 (((10 : Int64) * ((0 : Int64) - ((c1 - (48 : Int32)).toInt64))) - ((c2 - (48 : Int32)).toInt64)) (hb hby d5_41) rfl rfl ?_
  refine g_lstoreN X0 hx 43 #[.val (.ref a), .val (.ref b), .val (.int (1 : Int32)), .val (.long (((10 : Int64) * ((0 : Int64) - ((c1 - (48 : Int32)).toInt64))) - ((c2 - (48 : Int32)).toInt64))), .second, .val (.int (2 : Int32)), .val (.int c2), .val (.int (c2 - (48 : Int32)))] (hb hby d5_42) rfl rfl ?_
  refine g_aloadN X0 hx 44 (hb hby d5_43) rfl rfl rfl ?_
  refine g_iinc X0 hx 47 (3 : Int32) #[.val (.ref a), .val (.ref b), .val (.int (1 : Int32)), .val (.long (((10 : Int64) * ((0 : Int64) - ((c1 - (48 : Int32)).toInt64))) - ((c2 - (48 : Int32)).toInt64))), .second, .val (.int (3 : Int32)), .val (.int c2), .val (.int (c2 - (48 : Int32)))] (hb hby d5_44) rfl (by decide) rfl rfl ?_
  refine g_iload X0 hx 49 (hb hby d5_47) rfl rfl ?_
  refine g_caload X0 hx 50 hZ e0 V_b ⟨by decide, by decide⟩ (show _ = (.int c3) from rfl) (hb hby d5_49) rfl ?_
  refine g_istore X0 hx 52 #[.val (.ref a), .val (.ref b), .val (.int (1 : Int32)), .val (.long (((10 : Int64) * ((0 : Int64) - ((c1 - (48 : Int32)).toInt64))) - ((c2 - (48 : Int32)).toInt64))), .second, .val (.int (3 : Int32)), .val (.int c3), .val (.int (c2 - (48 : Int32)))] (hb hby d5_50) rfl rfl ?_
  refine g_goto X0 hx 11 (hb hby d5_52) (by decide) (by decide) ?_
  refine g_iload X0 hx 13 (hb hby d5_11) rfl rfl ?_
  refine g_bipush X0 hx 15 (48 : Int32) (hb hby d5_13) (by decide) rfl ?_
  refine g_isub X0 hx 16 (c3 - (48 : Int32)) (hb hby d5_15) rfl rfl ?_
  refine g_istore X0 hx 18 #[.val (.ref a), .val (.ref b), .val (.int (1 : Int32)), .val (.long (((10 : Int64) * ((0 : Int64) - ((c1 - (48 : Int32)).toInt64))) - ((c2 - (48 : Int32)).toInt64))), .second, .val (.int (3 : Int32)), .val (.int c3), .val (.int (c3 - (48 : Int32)))] (hb hby d5_16) rfl rfl ?_
  refine g_iload X0 hx 20 (hb hby d5_18) rfl rfl ?_
  have hk5 : ¬ ((c3 - (48 : Int32)) < (0 : Int32)) := (own_dig_t hd3).1
  refine g_ifF X0 hx 23 (hb hby d5_20) ((if0 _ _).trans (flt hk5).1) rfl ?_
  refine g_iload X0 hx 25 (hb hby d5_23) rfl rfl ?_
  refine g_bipush X0 hx 27 (9 : Int32) (hb hby d5_25) (by decide) rfl ?_
  have hk6 : ¬ ((9 : Int32) < (c3 - (48 : Int32))) := (own_dig_t hd3).2
  refine g_icT X0 hx 33 (hb hby d5_27) (flt hk6).2.2.2 (by decide) (by decide) ?_
  refine g_ldc2J X0 hx 36 hZ hown (own_w hw 24 rfl) (hb hby d5_33) rfl ?_
  refine g_lloadN X0 hx 37 (hb hby d5_36) rfl rfl ?_
  refine g_lmul X0 hx 38 ((10 : Int64) * (((10 : Int64) * ((0 : Int64) - ((c1 - (48 : Int32)).toInt64))) - ((c2 - (48 : Int32)).toInt64))) (hb hby d5_37) rfl rfl ?_
  refine g_iload X0 hx 40 (hb hby d5_38) rfl rfl ?_
  refine g_i2l X0 hx 41 ((c3 - (48 : Int32)).toInt64) (hb hby d5_40) rfl rfl ?_
  refine g_lsub X0 hx 42 (((10 : Int64) * (((10 : Int64) * ((0 : Int64) - ((c1 - (48 : Int32)).toInt64))) - ((c2 - (48 : Int32)).toInt64))) - ((c3 - (48 : Int32)).toInt64)) (hb hby d5_41) rfl rfl ?_
  refine g_lstoreN X0 hx 43 #[.val (.ref a), .val (.ref b), .val (.int (1 : Int32)), .val (.long (((10 : Int64) * (((10 : Int64) * ((0 : Int64) - ((c1 - (48 : Int32)).toInt64))) - ((c2 - (48 : Int32)).toInt64))) - ((c3 - (48 : Int32)).toInt64))), .second, .val (.int (3 : Int32)), .val (.int c3), .val (.int (c3 - (48 : Int32)))] (hb hby d5_42) rfl rfl ?_
  refine g_aloadN X0 hx 44 (hb hby d5_43) rfl rfl rfl ?_
  refine g_iinc X0 hx 47 (4 : Int32) #[.val (.ref a), .val (.ref b), .val (.int (1 : Int32)), .val (.long (((10 : Int64) * (((10 : Int64) * ((0 : Int64) - ((c1 - (48 : Int32)).toInt64))) - ((c2 - (48 : Int32)).toInt64))) - ((c3 - (48 : Int32)).toInt64))), .second, .val (.int (4 : Int32)), .val (.int c3), .val (.int (c3 - (48 : Int32)))] (hb hby d5_44) rfl (by decide) rfl rfl ?_
  refine g_iload X0 hx 49 (hb hby d5_47) rfl rfl ?_
  refine g_caload X0 hx 50 hZ e0 V_b ⟨by decide, by decide⟩ (show _ = (.int c4) from rfl) (hb hby d5_49) rfl ?_
  refine g_istore X0 hx 52 #[.val (.ref a), .val (.ref b), .val (.int (1 : Int32)), .val (.long (((10 : Int64) * (((10 : Int64) * ((0 : Int64) - ((c1 - (48 : Int32)).toInt64))) - ((c2 - (48 : Int32)).toInt64))) - ((c3 - (48 : Int32)).toInt64))), .second, .val (.int (4 : Int32)), .val (.int c4), .val (.int (c3 - (48 : Int32)))] (hb hby d5_50) rfl rfl ?_
  refine g_goto X0 hx 11 (hb hby d5_52) (by decide) (by decide) ?_
  refine g_iload X0 hx 13 (hb hby d5_11) rfl rfl ?_
  refine g_bipush X0 hx 15 (48 : Int32) (hb hby d5_13) (by decide) rfl ?_
  refine g_isub X0 hx 16 (c4 - (48 : Int32)) (hb hby d5_15) rfl rfl ?_
  refine g_istore X0 hx 18 #[.val (.ref a), .val (.ref b), .val (.int (1 : Int32)), .val (.long (((10 : Int64) * (((10 : Int64) * ((0 : Int64) - ((c1 - (48 : Int32)).toInt64))) - ((c2 - (48 : Int32)).toInt64))) - ((c3 - (48 : Int32)).toInt64))), .second, .val (.int (4 : Int32)), .val (.int c4), .val (.int (c4 - (48 : Int32)))] (hb hby d5_16) rfl rfl ?_
  refine g_iload X0 hx 20 (hb hby d5_18) rfl rfl ?_
  by_cases hc7 : (c4 - (48 : Int32)) < (0 : Int32)
  · refine g_ifT X0 hx 55 (hb hby d5_20) ((if0 _ _).trans (tlt hc7).1) (by decide) (by decide) ?_
    refine g_aloadN X0 hx 56 (hb hby d5_55) rfl rfl rfl ?_
    refine g_lloadN X0 hx 57 (hb hby d5_56) rfl rfl ?_
    refine g_putF X0 hx 60 hZ hown (host := "") (Or.inl (own_w hw 25 rfl)) Via.refl e0 F_decimalSum E_a (Or.inl (own_w hw 26 rfl)) (own_w hw 11 rfl) (ty := .long) (by decide) rfl rfl (hb hby d5_57) rfl (fun T8 h8 X8 e8 W8 => ?_)
    have E_a := E_a.wr W8
    have F_decimalSum := F_decimalSum.same W8
    have F_integerRadix := F_integerRadix.other W8 (Or.inr (slot_ne (Or.inl (own_w hw 36 rfl)) (Or.inl (own_w hw 26 rfl)) (by decide) (t := .int) (t' := .long) (by decide) (by decide)))
    have F_integerKind := F_integerKind.other W8 (Or.inr (slot_ne (Or.inl (own_w hw 38 rfl)) (Or.inl (own_w hw 26 rfl)) (by decide) (t := .int) (t' := .long) (by decide) (by decide)))
    have F_value := F_value.other W8 (Or.inr (slot_ne (Or.inl (own_w hw 40 rfl)) (Or.inl (own_w hw 26 rfl)) (by decide) (t := .long) (t' := .long) (by decide) (by decide)))
    have F_realRead := F_realRead.other W8 (Or.inr (slot_ne (Or.inl (own_w hw 42 rfl)) (Or.inl (own_w hw 26 rfl)) (by decide) (t := .boolean) (t' := .long) (by decide) (by decide)))
    have V_b := V_b.other W8 (Ne.symm ne_a_b)
    have N8 := Fr.snoc X8 N0 g_a
    have Z8 : n0 ≤ h8.size := by rw [W8.size]; exact Z0
    have K8 := K0.wr W8 (Or.inl (List.mem_of_getElem? (i := 0) rfl))
    refine g_iload X8 hx 62 (hb hby d5_60) rfl rfl ?_
    exact g_retI X8 hx hret hlk (hb hby d5_62) (by decide) (by decide) (by rw [e8]; exact ⟨rfl, N8, K8, E_a, F_decimalSum, F_integerRadix, F_integerKind, F_value, F_realRead⟩)
  · refine g_ifF X0 hx 23 (hb hby d5_20) ((if0 _ _).trans (flt hc7).1) rfl ?_
    refine g_iload X0 hx 25 (hb hby d5_23) rfl rfl ?_
    refine g_bipush X0 hx 27 (9 : Int32) (hb hby d5_25) (by decide) rfl ?_
    have hk9 : (9 : Int32) < (c4 - (48 : Int32)) := (own_dig_f hs4).resolve_left hc7
    refine g_icF X0 hx 30 (hb hby d5_27) (tlt hk9).2.2.2 rfl ?_
    refine g_goto X0 hx 55 (hb hby d5_30) (by decide) (by decide) ?_
    refine g_aloadN X0 hx 56 (hb hby d5_55) rfl rfl rfl ?_
    refine g_lloadN X0 hx 57 (hb hby d5_56) rfl rfl ?_
    refine g_putF X0 hx 60 hZ hown (host := "") (Or.inl (own_w hw 25 rfl)) Via.refl e0 F_decimalSum E_a (Or.inl (own_w hw 26 rfl)) (own_w hw 11 rfl) (ty := .long) (by decide) rfl rfl (hb hby d5_57) rfl (fun T10 h10 X10 e10 W10 => ?_)
    have E_a := E_a.wr W10
    have F_decimalSum := F_decimalSum.same W10
    have F_integerRadix := F_integerRadix.other W10 (Or.inr (slot_ne (Or.inl (own_w hw 36 rfl)) (Or.inl (own_w hw 26 rfl)) (by decide) (t := .int) (t' := .long) (by decide) (by decide)))
    have F_integerKind := F_integerKind.other W10 (Or.inr (slot_ne (Or.inl (own_w hw 38 rfl)) (Or.inl (own_w hw 26 rfl)) (by decide) (t := .int) (t' := .long) (by decide) (by decide)))
    have F_value := F_value.other W10 (Or.inr (slot_ne (Or.inl (own_w hw 40 rfl)) (Or.inl (own_w hw 26 rfl)) (by decide) (t := .long) (t' := .long) (by decide) (by decide)))
    have F_realRead := F_realRead.other W10 (Or.inr (slot_ne (Or.inl (own_w hw 42 rfl)) (Or.inl (own_w hw 26 rfl)) (by decide) (t := .boolean) (t' := .long) (by decide) (by decide)))
    have V_b := V_b.other W10 (Ne.symm ne_a_b)
    have N10 := Fr.snoc X10 N0 g_a
    have Z10 : n0 ≤ h10.size := by rw [W10.size]; exact Z0
    have K10 := K0.wr W10 (Or.inl (List.mem_of_getElem? (i := 0) rfl))
    refine g_iload X10 hx 62 (hb hby d5_60) rfl rfl ?_
    exact g_retI X10 hx hret hlk (hb hby d5_62) (by decide) (by decide) (by rw [e10]; exact ⟨rfl, N10, K10, E_a, F_decimalSum, F_integerRadix, F_integerKind, F_value, F_realRead⟩)
set_option maxRecDepth 65536 in
set_option maxHeartbeats 40000000 in
theorem rm5_1_5 (l : Launch) (Z : State) (a0 : Array Value) (hw : ∀ d ∈ tables_1, d.before a0 Z = true) (a b : Addr) (c0 c1 c2 c3 c4 : Int32) (kA : ClassId) (u0 u1 u2 u3 u4 : Value) (h0 : Heap) (n0 : Nat) (Z0 : n0 ≤ h0.size) (g_a : n0 ≤ a) (E_a : Exa Z h0 a "gleanwell/Grammar$NumberReading") (F_decimalSum : Fld Z h0 a "gleanwell/Grammar$NumberReading" "decimalSum" "J" u0) (F_integerRadix : Fld Z h0 a "gleanwell/Grammar$NumberReading" "integerRadix" "I" u1) (F_integerKind : Fld Z h0 a "gleanwell/Grammar$NumberReading" "integerKind" "I" u2) (F_value : Fld Z h0 a "gleanwell/Grammar$NumberReading" "value" "J" u3) (F_realRead : Fld Z h0 a "gleanwell/Grammar$NumberReading" "realRead" "Z" u4) (V_b : Arv Z h0 b kA .char (6 : Int32) [(.int c0), (.int c1), (.int c2), (.int c3), (.int c4), (.int (32 : Int32))] (.int (0 : Int32))) (ne_a_b : a ≠ b) (hd1 : ¬ own_dig c1 = 0) (hd2 : ¬ own_dig c2 = 0) (hd3 : ¬ own_dig c3 = 0) (hd4 : ¬ own_dig c4 = 0) :
    OwnMet l Z (⟨"gleanwell/Grammar$NumberReading", "sumDecimalDigits", "([CI)I"⟩ : MethodName) prog_28_method_5_code 8 (some .int) [] ({ frames := 0, cells := 0, slots := 0, locals := 0 } : Room) [(.ref a), (.ref b), (.int (1 : Int32))] h0 (fun v h L => v = some (.int 5) ∧ Fr n0 L ∧ Keep h0 h [a] ∧ Exa Z h a "gleanwell/Grammar$NumberReading" ∧ Fld Z h a "gleanwell/Grammar$NumberReading" "decimalSum" "J" (.long ((10 : Int64) * ((10 : Int64) * ((10 : Int64) * ((0 : Int64) - (c1 - (48 : Int32)).toInt64) - (c2 - (48 : Int32)).toInt64) - (c3 - (48 : Int32)).toInt64) - (c4 - (48 : Int32)).toInt64)) ∧ Fld Z h a "gleanwell/Grammar$NumberReading" "integerRadix" "I" u1 ∧ Fld Z h a "gleanwell/Grammar$NumberReading" "integerKind" "I" u2 ∧ Fld Z h a "gleanwell/Grammar$NumberReading" "value" "J" u3 ∧ Fld Z h a "gleanwell/Grammar$NumberReading" "realRead" "Z" u4) := by
  refine own_body (Ls := #[.val (.ref a), .val (.ref b), .val (.int (1 : Int32)), .unset, .unset, .unset, .unset, .unset]) (plainFor_of_name own_pn1) (fun m => by first | (simp [entryFrame, mkF, argsToLocals, Value.category]; done) | rfl) (fun p e s m below meth cO T0 hx hby hml hown hnm hret hlk hZ X0 e0 => ?_)
  have hown : s.vm.findClass "gleanwell/Grammar$NumberReading" = some m.cls := hown
  have N0 := Fr.nil n0
  have K0 := Keep.refl h0 [a]
  refine g_lconst X0 hx 1 (0 : Int64) (hb hby d5_0) (by decide) rfl ?_
  refine g_lstoreN X0 hx 2 #[.val (.ref a), .val (.ref b), .val (.int (1 : Int32)), .val (.long (0 : Int64)), .second, .unset, .unset, .unset] (hb hby d5_1) rfl rfl ?_
  refine g_iloadN X0 hx 3 (hb hby d5_2) rfl rfl ?_
  refine g_istore X0 hx 5 #[.val (.ref a), .val (.ref b), .val (.int (1 : Int32)), .val (.long (0 : Int64)), .second, .val (.int (1 : Int32)), .unset, .unset] (hb hby d5_3) rfl rfl ?_
  refine g_aloadN X0 hx 6 (hb hby d5_5) rfl rfl rfl ?_
  refine g_iload X0 hx 8 (hb hby d5_6) rfl rfl ?_
  refine g_caload X0 hx 9 hZ e0 V_b ⟨by decide, by decide⟩ (show _ = (.int c1) from rfl) (hb hby d5_8) rfl ?_
  refine g_istore X0 hx 11 #[.val (.ref a), .val (.ref b), .val (.int (1 : Int32)), .val (.long (0 : Int64)), .second, .val (.int (1 : Int32)), .val (.int c1), .unset] (hb hby d5_9) rfl rfl ?_
  refine g_iload X0 hx 13 (hb hby d5_11) rfl rfl ?_
  refine g_bipush X0 hx 15 (48 : Int32) (hb hby d5_13) (by decide) rfl ?_
  refine g_isub X0 hx 16 (c1 - (48 : Int32)) (hb hby d5_15) rfl rfl ?_
  refine g_istore X0 hx 18 #[.val (.ref a), .val (.ref b), .val (.int (1 : Int32)), .val (.long (0 : Int64)), .second, .val (.int (1 : Int32)), .val (.int c1), .val (.int (c1 - (48 : Int32)))] (hb hby d5_16) rfl rfl ?_
  refine g_iload X0 hx 20 (hb hby d5_18) rfl rfl ?_
  have hk1 : ¬ ((c1 - (48 : Int32)) < (0 : Int32)) := (own_dig_t hd1).1
  refine g_ifF X0 hx 23 (hb hby d5_20) ((if0 _ _).trans (flt hk1).1) rfl ?_
  refine g_iload X0 hx 25 (hb hby d5_23) rfl rfl ?_
  refine g_bipush X0 hx 27 (9 : Int32) (hb hby d5_25) (by decide) rfl ?_
  have hk2 : ¬ ((9 : Int32) < (c1 - (48 : Int32))) := (own_dig_t hd1).2
  refine g_icT X0 hx 33 (hb hby d5_27) (flt hk2).2.2.2 (by decide) (by decide) ?_
  refine g_ldc2J X0 hx 36 hZ hown (own_w hw 24 rfl) (hb hby d5_33) rfl ?_
  refine g_lloadN X0 hx 37 (hb hby d5_36) rfl rfl ?_
  refine g_lmul X0 hx 38 (0 : Int64) (hb hby d5_37) (by decide) rfl ?_
  refine g_iload X0 hx 40 (hb hby d5_38) rfl rfl ?_
  refine g_i2l X0 hx 41 ((c1 - (48 : Int32)).toInt64) (hb hby d5_40) rfl rfl ?_
  refine g_lsub X0 hx 42 ((0 : Int64) - ((c1 - (48 : Int32)).toInt64)) (hb hby d5_41) rfl rfl ?_
  refine g_lstoreN X0 hx 43 #[.val (.ref a), .val (.ref b), .val (.int (1 : Int32)), .val (.long ((0 : Int64) - ((c1 - (48 : Int32)).toInt64))), .second, .val (.int (1 : Int32)), .val (.int c1), .val (.int (c1 - (48 : Int32)))] (hb hby d5_42) rfl rfl ?_
  refine g_aloadN X0 hx 44 (hb hby d5_43) rfl rfl rfl ?_
  refine g_iinc X0 hx 47 (2 : Int32) #[.val (.ref a), .val (.ref b), .val (.int (1 : Int32)), .val (.long ((0 : Int64) - ((c1 - (48 : Int32)).toInt64))), .second, .val (.int (2 : Int32)), .val (.int c1), .val (.int (c1 - (48 : Int32)))] (hb hby d5_44) rfl (by decide) rfl rfl ?_
  refine g_iload X0 hx 49 (hb hby d5_47) rfl rfl ?_
  refine g_caload X0 hx 50 hZ e0 V_b ⟨by decide, by decide⟩ (show _ = (.int c2) from rfl) (hb hby d5_49) rfl ?_
  refine g_istore X0 hx 52 #[.val (.ref a), .val (.ref b), .val (.int (1 : Int32)), .val (.long ((0 : Int64) - ((c1 - (48 : Int32)).toInt64))), .second, .val (.int (2 : Int32)), .val (.int c2), .val (.int (c1 - (48 : Int32)))] (hb hby d5_50) rfl rfl ?_
  refine g_goto X0 hx 11 (hb hby d5_52) (by decide) (by decide) ?_
  refine g_iload X0 hx 13 (hb hby d5_11) rfl rfl ?_
  refine g_bipush X0 hx 15 (48 : Int32) (hb hby d5_13) (by decide) rfl ?_
  refine g_isub X0 hx 16 (c2 - (48 : Int32)) (hb hby d5_15) rfl rfl ?_
  refine g_istore X0 hx 18 #[.val (.ref a), .val (.ref b), .val (.int (1 : Int32)), .val (.long ((0 : Int64) - ((c1 - (48 : Int32)).toInt64))), .second, .val (.int (2 : Int32)), .val (.int c2), .val (.int (c2 - (48 : Int32)))] (hb hby d5_16) rfl rfl ?_
  refine g_iload X0 hx 20 (hb hby d5_18) rfl rfl ?_
  have hk3 : ¬ ((c2 - (48 : Int32)) < (0 : Int32)) := (own_dig_t hd2).1
  refine g_ifF X0 hx 23 (hb hby d5_20) ((if0 _ _).trans (flt hk3).1) rfl ?_
  refine g_iload X0 hx 25 (hb hby d5_23) rfl rfl ?_
  refine g_bipush X0 hx 27 (9 : Int32) (hb hby d5_25) (by decide) rfl ?_
  have hk4 : ¬ ((9 : Int32) < (c2 - (48 : Int32))) := (own_dig_t hd2).2
  refine g_icT X0 hx 33 (hb hby d5_27) (flt hk4).2.2.2 (by decide) (by decide) ?_
  refine g_ldc2J X0 hx 36 hZ hown (own_w hw 24 rfl) (hb hby d5_33) rfl ?_
  refine g_lloadN X0 hx 37 (hb hby d5_36) rfl rfl ?_
  refine g_lmul X0 hx 38 ((10 : Int64) * ((0 : Int64) - ((c1 - (48 : Int32)).toInt64))) (hb hby d5_37) rfl rfl ?_
  refine g_iload X0 hx 40 (hb hby d5_38) rfl rfl ?_
  refine g_i2l X0 hx 41 ((c2 - (48 : Int32)).toInt64) (hb hby d5_40) rfl rfl ?_
  refine g_lsub X0 hx 42 (((10 : Int64) * ((0 : Int64) - ((c1 - (48 : Int32)).toInt64))) - ((c2 - (48 : Int32)).toInt64)) (hb hby d5_41) rfl rfl ?_
  refine g_lstoreN X0 hx 43 #[.val (.ref a), .val (.ref b), .val (.int (1 : Int32)), .val (.long (((10 : Int64) * ((0 : Int64) - ((c1 - (48 : Int32)).toInt64))) - ((c2 - (48 : Int32)).toInt64))), .second, .val (.int (2 : Int32)), .val (.int c2), .val (.int (c2 - (48 : Int32)))] (hb hby d5_42) rfl rfl ?_
  refine g_aloadN X0 hx 44 (hb hby d5_43) rfl rfl rfl ?_
  refine g_iinc X0 hx 47 (3 : Int32) #[.val (.ref a), .val (.ref b), .val (.int (1 : Int32)), .val (.long (((10 : Int64) * ((0 : Int64) - ((c1 - (48 : Int32)).toInt64))) - ((c2 - (48 : Int32)).toInt64))), .second, .val (.int (3 : Int32)), .val (.int c2), .val (.int (c2 - (48 : Int32)))] (hb hby d5_44) rfl (by decide) rfl rfl ?_
  refine g_iload X0 hx 49 (hb hby d5_47) rfl rfl ?_
  refine g_caload X0 hx 50 hZ e0 V_b ⟨by decide, by decide⟩ (show _ = (.int c3) from rfl) (hb hby d5_49) rfl ?_
  refine g_istore X0 hx 52 #[.val (.ref a), .val (.ref b), .val (.int (1 : Int32)), .val (.long (((10 : Int64) * ((0 : Int64) - ((c1 - (48 : Int32)).toInt64))) - ((c2 - (48 : Int32)).toInt64))), .second, .val (.int (3 : Int32)), .val (.int c3), .val (.int (c2 - (48 : Int32)))] (hb hby d5_50) rfl rfl ?_
  refine g_goto X0 hx 11 (hb hby d5_52) (by decide) (by decide) ?_
  refine g_iload X0 hx 13 (hb hby d5_11) rfl rfl ?_
  refine g_bipush X0 hx 15 (48 : Int32) (hb hby d5_13) (by decide) rfl ?_
  refine g_isub X0 hx 16 (c3 - (48 : Int32)) (hb hby d5_15) rfl rfl ?_
  refine g_istore X0 hx 18 #[.val (.ref a), .val (.ref b), .val (.int (1 : Int32)), .val (.long (((10 : Int64) * ((0 : Int64) - ((c1 - (48 : Int32)).toInt64))) - ((c2 - (48 : Int32)).toInt64))), .second, .val (.int (3 : Int32)), .val (.int c3), .val (.int (c3 - (48 : Int32)))] (hb hby d5_16) rfl rfl ?_
  refine g_iload X0 hx 20 (hb hby d5_18) rfl rfl ?_
  have hk5 : ¬ ((c3 - (48 : Int32)) < (0 : Int32)) := (own_dig_t hd3).1
  refine g_ifF X0 hx 23 (hb hby d5_20) ((if0 _ _).trans (flt hk5).1) rfl ?_
  refine g_iload X0 hx 25 (hb hby d5_23) rfl rfl ?_
  refine g_bipush X0 hx 27 (9 : Int32) (hb hby d5_25) (by decide) rfl ?_
  have hk6 : ¬ ((9 : Int32) < (c3 - (48 : Int32))) := (own_dig_t hd3).2
  refine g_icT X0 hx 33 (hb hby d5_27) (flt hk6).2.2.2 (by decide) (by decide) ?_
  refine g_ldc2J X0 hx 36 hZ hown (own_w hw 24 rfl) (hb hby d5_33) rfl ?_
  refine g_lloadN X0 hx 37 (hb hby d5_36) rfl rfl ?_
  refine g_lmul X0 hx 38 ((10 : Int64) * (((10 : Int64) * ((0 : Int64) - ((c1 - (48 : Int32)).toInt64))) - ((c2 - (48 : Int32)).toInt64))) (hb hby d5_37) rfl rfl ?_
  refine g_iload X0 hx 40 (hb hby d5_38) rfl rfl ?_
  refine g_i2l X0 hx 41 ((c3 - (48 : Int32)).toInt64) (hb hby d5_40) rfl rfl ?_
  refine g_lsub X0 hx 42 (((10 : Int64) * (((10 : Int64) * ((0 : Int64) - ((c1 - (48 : Int32)).toInt64))) - ((c2 - (48 : Int32)).toInt64))) - ((c3 - (48 : Int32)).toInt64)) (hb hby d5_41) rfl rfl ?_
  refine g_lstoreN X0 hx 43 #[.val (.ref a), .val (.ref b), .val (.int (1 : Int32)), .val (.long (((10 : Int64) * (((10 : Int64) * ((0 : Int64) - ((c1 - (48 : Int32)).toInt64))) - ((c2 - (48 : Int32)).toInt64))) - ((c3 - (48 : Int32)).toInt64))), .second, .val (.int (3 : Int32)), .val (.int c3), .val (.int (c3 - (48 : Int32)))] (hb hby d5_42) rfl rfl ?_
  refine g_aloadN X0 hx 44 (hb hby d5_43) rfl rfl rfl ?_
  refine g_iinc X0 hx 47 (4 : Int32) #[.val (.ref a), .val (.ref b), .val (.int (1 : Int32)), .val (.long (((10 : Int64) * (((10 : Int64) * ((0 : Int64) - ((c1 - (48 : Int32)).toInt64))) - ((c2 - (48 : Int32)).toInt64))) - ((c3 - (48 : Int32)).toInt64))), .second, .val (.int (4 : Int32)), .val (.int c3), .val (.int (c3 - (48 : Int32)))] (hb hby d5_44) rfl (by decide) rfl rfl ?_
  refine g_iload X0 hx 49 (hb hby d5_47) rfl rfl ?_
  refine g_caload X0 hx 50 hZ e0 V_b ⟨by decide, by decide⟩ (show _ = (.int c4) from rfl) (hb hby d5_49) rfl ?_
  refine g_istore X0 hx 52 #[.val (.ref a), .val (.ref b), .val (.int (1 : Int32)), .val (.long (((10 : Int64) * (((10 : Int64) * ((0 : Int64) - ((c1 - (48 : Int32)).toInt64))) - ((c2 - (48 : Int32)).toInt64))) - ((c3 - (48 : Int32)).toInt64))), .second, .val (.int (4 : Int32)), .val (.int c4), .val (.int (c3 - (48 : Int32)))] (hb hby d5_50) rfl rfl ?_
  refine g_goto X0 hx 11 (hb hby d5_52) (by decide) (by decide) ?_
  refine g_iload X0 hx 13 (hb hby d5_11) rfl rfl ?_
  refine g_bipush X0 hx 15 (48 : Int32) (hb hby d5_13) (by decide) rfl ?_
  refine g_isub X0 hx 16 (c4 - (48 : Int32)) (hb hby d5_15) rfl rfl ?_
  refine g_istore X0 hx 18 #[.val (.ref a), .val (.ref b), .val (.int (1 : Int32)), .val (.long (((10 : Int64) * (((10 : Int64) * ((0 : Int64) - ((c1 - (48 : Int32)).toInt64))) - ((c2 - (48 : Int32)).toInt64))) - ((c3 - (48 : Int32)).toInt64))), .second, .val (.int (4 : Int32)), .val (.int c4), .val (.int (c4 - (48 : Int32)))] (hb hby d5_16) rfl rfl ?_
  refine g_iload X0 hx 20 (hb hby d5_18) rfl rfl ?_
  have hk7 : ¬ ((c4 - (48 : Int32)) < (0 : Int32)) := (own_dig_t hd4).1
  refine g_ifF X0 hx 23 (hb hby d5_20) ((if0 _ _).trans (flt hk7).1) rfl ?_
  refine g_iload X0 hx 25 (hb hby d5_23) rfl rfl ?_
  refine g_bipush X0 hx 27 (9 : Int32) (hb hby d5_25) (by decide) rfl ?_
  have hk8 : ¬ ((9 : Int32) < (c4 - (48 : Int32))) := (own_dig_t hd4).2
  refine g_icT X0 hx 33 (hb hby d5_27) (flt hk8).2.2.2 (by decide) (by decide) ?_
  refine g_ldc2J X0 hx 36 hZ hown (own_w hw 24 rfl) (hb hby d5_33) rfl ?_
  refine g_lloadN X0 hx 37 (hb hby d5_36) rfl rfl ?_
  refine g_lmul X0 hx 38 ((10 : Int64) * (((10 : Int64) * (((10 : Int64) * ((0 : Int64) - ((c1 - (48 : Int32)).toInt64))) - ((c2 - (48 : Int32)).toInt64))) - ((c3 - (48 : Int32)).toInt64))) (hb hby d5_37) rfl rfl ?_
  refine g_iload X0 hx 40 (hb hby d5_38) rfl rfl ?_
  refine g_i2l X0 hx 41 ((c4 - (48 : Int32)).toInt64) (hb hby d5_40) rfl rfl ?_
  refine g_lsub X0 hx 42 (((10 : Int64) * (((10 : Int64) * (((10 : Int64) * ((0 : Int64) - ((c1 - (48 : Int32)).toInt64))) - ((c2 - (48 : Int32)).toInt64))) - ((c3 - (48 : Int32)).toInt64))) - ((c4 - (48 : Int32)).toInt64)) (hb hby d5_41) rfl rfl ?_
  refine g_lstoreN X0 hx 43 #[.val (.ref a), .val (.ref b), .val (.int (1 : Int32)), .val (.long (((10 : Int64) * (((10 : Int64) * (((10 : Int64) * ((0 : Int64) - ((c1 - (48 : Int32)).toInt64))) - ((c2 - (48 : Int32)).toInt64))) - ((c3 - (48 : Int32)).toInt64))) - ((c4 - (48 : Int32)).toInt64))), .second, .val (.int (4 : Int32)), .val (.int c4), .val (.int (c4 - (48 : Int32)))] (hb hby d5_42) rfl rfl ?_
  refine g_aloadN X0 hx 44 (hb hby d5_43) rfl rfl rfl ?_
  refine g_iinc X0 hx 47 (5 : Int32) #[.val (.ref a), .val (.ref b), .val (.int (1 : Int32)), .val (.long (((10 : Int64) * (((10 : Int64) * (((10 : Int64) * ((0 : Int64) - ((c1 - (48 : Int32)).toInt64))) - ((c2 - (48 : Int32)).toInt64))) - ((c3 - (48 : Int32)).toInt64))) - ((c4 - (48 : Int32)).toInt64))), .second, .val (.int (5 : Int32)), .val (.int c4), .val (.int (c4 - (48 : Int32)))] (hb hby d5_44) rfl (by decide) rfl rfl ?_
  refine g_iload X0 hx 49 (hb hby d5_47) rfl rfl ?_
  refine g_caload X0 hx 50 hZ e0 V_b ⟨by decide, by decide⟩ (show _ = (.int (32 : Int32)) from rfl) (hb hby d5_49) rfl ?_
  refine g_istore X0 hx 52 #[.val (.ref a), .val (.ref b), .val (.int (1 : Int32)), .val (.long (((10 : Int64) * (((10 : Int64) * (((10 : Int64) * ((0 : Int64) - ((c1 - (48 : Int32)).toInt64))) - ((c2 - (48 : Int32)).toInt64))) - ((c3 - (48 : Int32)).toInt64))) - ((c4 - (48 : Int32)).toInt64))), .second, .val (.int (5 : Int32)), .val (.int (32 : Int32)), .val (.int (c4 - (48 : Int32)))] (hb hby d5_50) rfl rfl ?_
  refine g_goto X0 hx 11 (hb hby d5_52) (by decide) (by decide) ?_
  refine g_iload X0 hx 13 (hb hby d5_11) rfl rfl ?_
  refine g_bipush X0 hx 15 (48 : Int32) (hb hby d5_13) (by decide) rfl ?_
  refine g_isub X0 hx 16 (-16 : Int32) (hb hby d5_15) (by decide) rfl ?_
  refine g_istore X0 hx 18 #[.val (.ref a), .val (.ref b), .val (.int (1 : Int32)), .val (.long (((10 : Int64) * (((10 : Int64) * (((10 : Int64) * ((0 : Int64) - ((c1 - (48 : Int32)).toInt64))) - ((c2 - (48 : Int32)).toInt64))) - ((c3 - (48 : Int32)).toInt64))) - ((c4 - (48 : Int32)).toInt64))), .second, .val (.int (5 : Int32)), .val (.int (32 : Int32)), .val (.int (-16 : Int32))] (hb hby d5_16) rfl rfl ?_
  refine g_iload X0 hx 20 (hb hby d5_18) rfl rfl ?_
  refine g_ifT X0 hx 55 (hb hby d5_20) (by decide) (by decide) (by decide) ?_
  refine g_aloadN X0 hx 56 (hb hby d5_55) rfl rfl rfl ?_
  refine g_lloadN X0 hx 57 (hb hby d5_56) rfl rfl ?_
  refine g_putF X0 hx 60 hZ hown (host := "") (Or.inl (own_w hw 25 rfl)) Via.refl e0 F_decimalSum E_a (Or.inl (own_w hw 26 rfl)) (own_w hw 11 rfl) (ty := .long) (by decide) rfl rfl (hb hby d5_57) rfl (fun T9 h9 X9 e9 W9 => ?_)
  have E_a := E_a.wr W9
  have F_decimalSum := F_decimalSum.same W9
  have F_integerRadix := F_integerRadix.other W9 (Or.inr (slot_ne (Or.inl (own_w hw 36 rfl)) (Or.inl (own_w hw 26 rfl)) (by decide) (t := .int) (t' := .long) (by decide) (by decide)))
  have F_integerKind := F_integerKind.other W9 (Or.inr (slot_ne (Or.inl (own_w hw 38 rfl)) (Or.inl (own_w hw 26 rfl)) (by decide) (t := .int) (t' := .long) (by decide) (by decide)))
  have F_value := F_value.other W9 (Or.inr (slot_ne (Or.inl (own_w hw 40 rfl)) (Or.inl (own_w hw 26 rfl)) (by decide) (t := .long) (t' := .long) (by decide) (by decide)))
  have F_realRead := F_realRead.other W9 (Or.inr (slot_ne (Or.inl (own_w hw 42 rfl)) (Or.inl (own_w hw 26 rfl)) (by decide) (t := .boolean) (t' := .long) (by decide) (by decide)))
  have V_b := V_b.other W9 (Ne.symm ne_a_b)
  have N9 := Fr.snoc X9 N0 g_a
  have Z9 : n0 ≤ h9.size := by rw [W9.size]; exact Z0
  have K9 := K0.wr W9 (Or.inl (List.mem_of_getElem? (i := 0) rfl))
  refine g_iload X9 hx 62 (hb hby d5_60) rfl rfl ?_
  exact g_retI X9 hx hret hlk (hb hby d5_62) (by decide) (by decide) (by rw [e9]; exact ⟨rfl, N9, K9, E_a, F_decimalSum, F_integerRadix, F_integerKind, F_value, F_realRead⟩)
set_option maxRecDepth 65536 in
set_option maxHeartbeats 40000000 in
theorem rm5_2_2 (l : Launch) (Z : State) (a0 : Array Value) (hw : ∀ d ∈ tables_1, d.before a0 Z = true) (a b : Addr) (c0 c1 c2 c3 c4 : Int32) (kA : ClassId) (u0 u1 u2 u3 u4 : Value) (h0 : Heap) (n0 : Nat) (Z0 : n0 ≤ h0.size) (g_a : n0 ≤ a) (E_a : Exa Z h0 a "gleanwell/Grammar$NumberReading") (F_decimalSum : Fld Z h0 a "gleanwell/Grammar$NumberReading" "decimalSum" "J" u0) (F_integerRadix : Fld Z h0 a "gleanwell/Grammar$NumberReading" "integerRadix" "I" u1) (F_integerKind : Fld Z h0 a "gleanwell/Grammar$NumberReading" "integerKind" "I" u2) (F_value : Fld Z h0 a "gleanwell/Grammar$NumberReading" "value" "J" u3) (F_realRead : Fld Z h0 a "gleanwell/Grammar$NumberReading" "realRead" "Z" u4) (V_b : Arv Z h0 b kA .char (6 : Int32) [(.int c0), (.int c1), (.int c2), (.int c3), (.int c4), (.int (32 : Int32))] (.int (0 : Int32))) (ne_a_b : a ≠ b) (hs2 : own_dig c2 = 0) :
    OwnMet l Z (⟨"gleanwell/Grammar$NumberReading", "sumDecimalDigits", "([CI)I"⟩ : MethodName) prog_28_method_5_code 8 (some .int) [] ({ frames := 0, cells := 0, slots := 0, locals := 0 } : Room) [(.ref a), (.ref b), (.int (2 : Int32))] h0 (fun v h L => v = some (.int 2) ∧ Fr n0 L ∧ Keep h0 h [a] ∧ Exa Z h a "gleanwell/Grammar$NumberReading" ∧ Fld Z h a "gleanwell/Grammar$NumberReading" "decimalSum" "J" (.long (0 : Int64)) ∧ Fld Z h a "gleanwell/Grammar$NumberReading" "integerRadix" "I" u1 ∧ Fld Z h a "gleanwell/Grammar$NumberReading" "integerKind" "I" u2 ∧ Fld Z h a "gleanwell/Grammar$NumberReading" "value" "J" u3 ∧ Fld Z h a "gleanwell/Grammar$NumberReading" "realRead" "Z" u4) := by
  refine own_body (Ls := #[.val (.ref a), .val (.ref b), .val (.int (2 : Int32)), .unset, .unset, .unset, .unset, .unset]) (plainFor_of_name own_pn1) (fun m => by first | (simp [entryFrame, mkF, argsToLocals, Value.category]; done) | rfl) (fun p e s m below meth cO T0 hx hby hml hown hnm hret hlk hZ X0 e0 => ?_)
  have hown : s.vm.findClass "gleanwell/Grammar$NumberReading" = some m.cls := hown
  have N0 := Fr.nil n0
  have K0 := Keep.refl h0 [a]
  refine g_lconst X0 hx 1 (0 : Int64) (hb hby d5_0) (by decide) rfl ?_
  refine g_lstoreN X0 hx 2 #[.val (.ref a), .val (.ref b), .val (.int (2 : Int32)), .val (.long (0 : Int64)), .second, .unset, .unset, .unset] (hb hby d5_1) rfl rfl ?_
  refine g_iloadN X0 hx 3 (hb hby d5_2) rfl rfl ?_
  refine g_istore X0 hx 5 #[.val (.ref a), .val (.ref b), .val (.int (2 : Int32)), .val (.long (0 : Int64)), .second, .val (.int (2 : Int32)), .unset, .unset] (hb hby d5_3) rfl rfl ?_
  refine g_aloadN X0 hx 6 (hb hby d5_5) rfl rfl rfl ?_
  refine g_iload X0 hx 8 (hb hby d5_6) rfl rfl ?_
  refine g_caload X0 hx 9 hZ e0 V_b ⟨by decide, by decide⟩ (show _ = (.int c2) from rfl) (hb hby d5_8) rfl ?_
  refine g_istore X0 hx 11 #[.val (.ref a), .val (.ref b), .val (.int (2 : Int32)), .val (.long (0 : Int64)), .second, .val (.int (2 : Int32)), .val (.int c2), .unset] (hb hby d5_9) rfl rfl ?_
  refine g_iload X0 hx 13 (hb hby d5_11) rfl rfl ?_
  refine g_bipush X0 hx 15 (48 : Int32) (hb hby d5_13) (by decide) rfl ?_
  refine g_isub X0 hx 16 (c2 - (48 : Int32)) (hb hby d5_15) rfl rfl ?_
  refine g_istore X0 hx 18 #[.val (.ref a), .val (.ref b), .val (.int (2 : Int32)), .val (.long (0 : Int64)), .second, .val (.int (2 : Int32)), .val (.int c2), .val (.int (c2 - (48 : Int32)))] (hb hby d5_16) rfl rfl ?_
  refine g_iload X0 hx 20 (hb hby d5_18) rfl rfl ?_
  by_cases hc1 : (c2 - (48 : Int32)) < (0 : Int32)
  · refine g_ifT X0 hx 55 (hb hby d5_20) ((if0 _ _).trans (tlt hc1).1) (by decide) (by decide) ?_
    refine g_aloadN X0 hx 56 (hb hby d5_55) rfl rfl rfl ?_
    refine g_lloadN X0 hx 57 (hb hby d5_56) rfl rfl ?_
    refine g_putF X0 hx 60 hZ hown (host := "") (Or.inl (own_w hw 25 rfl)) Via.refl e0 F_decimalSum E_a (Or.inl (own_w hw 26 rfl)) (own_w hw 11 rfl) (ty := .long) (by decide) rfl rfl (hb hby d5_57) rfl (fun T2 h2 X2 e2 W2 => ?_)
    have E_a := E_a.wr W2
    have F_decimalSum := F_decimalSum.same W2
    have F_integerRadix := F_integerRadix.other W2 (Or.inr (slot_ne (Or.inl (own_w hw 36 rfl)) (Or.inl (own_w hw 26 rfl)) (by decide) (t := .int) (t' := .long) (by decide) (by decide)))
    have F_integerKind := F_integerKind.other W2 (Or.inr (slot_ne (Or.inl (own_w hw 38 rfl)) (Or.inl (own_w hw 26 rfl)) (by decide) (t := .int) (t' := .long) (by decide) (by decide)))
    have F_value := F_value.other W2 (Or.inr (slot_ne (Or.inl (own_w hw 40 rfl)) (Or.inl (own_w hw 26 rfl)) (by decide) (t := .long) (t' := .long) (by decide) (by decide)))
    have F_realRead := F_realRead.other W2 (Or.inr (slot_ne (Or.inl (own_w hw 42 rfl)) (Or.inl (own_w hw 26 rfl)) (by decide) (t := .boolean) (t' := .long) (by decide) (by decide)))
    have V_b := V_b.other W2 (Ne.symm ne_a_b)
    have N2 := Fr.snoc X2 N0 g_a
    have Z2 : n0 ≤ h2.size := by rw [W2.size]; exact Z0
    have K2 := K0.wr W2 (Or.inl (List.mem_of_getElem? (i := 0) rfl))
    refine g_iload X2 hx 62 (hb hby d5_60) rfl rfl ?_
    exact g_retI X2 hx hret hlk (hb hby d5_62) (by decide) (by decide) (by rw [e2]; exact ⟨rfl, N2, K2, E_a, F_decimalSum, F_integerRadix, F_integerKind, F_value, F_realRead⟩)
  · refine g_ifF X0 hx 23 (hb hby d5_20) ((if0 _ _).trans (flt hc1).1) rfl ?_
    refine g_iload X0 hx 25 (hb hby d5_23) rfl rfl ?_
    refine g_bipush X0 hx 27 (9 : Int32) (hb hby d5_25) (by decide) rfl ?_
    have hk3 : (9 : Int32) < (c2 - (48 : Int32)) := (own_dig_f hs2).resolve_left hc1
    refine g_icF X0 hx 30 (hb hby d5_27) (tlt hk3).2.2.2 rfl ?_
    refine g_goto X0 hx 55 (hb hby d5_30) (by decide) (by decide) ?_
    refine g_aloadN X0 hx 56 (hb hby d5_55) rfl rfl rfl ?_
    refine g_lloadN X0 hx 57 (hb hby d5_56) rfl rfl ?_
    refine g_putF X0 hx 60 hZ hown (host := "") (Or.inl (own_w hw 25 rfl)) Via.refl e0 F_decimalSum E_a (Or.inl (own_w hw 26 rfl)) (own_w hw 11 rfl) (ty := .long) (by decide) rfl rfl (hb hby d5_57) rfl (fun T4 h4 X4 e4 W4 => ?_)
    have E_a := E_a.wr W4
    have F_decimalSum := F_decimalSum.same W4
    have F_integerRadix := F_integerRadix.other W4 (Or.inr (slot_ne (Or.inl (own_w hw 36 rfl)) (Or.inl (own_w hw 26 rfl)) (by decide) (t := .int) (t' := .long) (by decide) (by decide)))
    have F_integerKind := F_integerKind.other W4 (Or.inr (slot_ne (Or.inl (own_w hw 38 rfl)) (Or.inl (own_w hw 26 rfl)) (by decide) (t := .int) (t' := .long) (by decide) (by decide)))
    have F_value := F_value.other W4 (Or.inr (slot_ne (Or.inl (own_w hw 40 rfl)) (Or.inl (own_w hw 26 rfl)) (by decide) (t := .long) (t' := .long) (by decide) (by decide)))
    have F_realRead := F_realRead.other W4 (Or.inr (slot_ne (Or.inl (own_w hw 42 rfl)) (Or.inl (own_w hw 26 rfl)) (by decide) (t := .boolean) (t' := .long) (by decide) (by decide)))
    have V_b := V_b.other W4 (Ne.symm ne_a_b)
    have N4 := Fr.snoc X4 N0 g_a
    have Z4 : n0 ≤ h4.size := by rw [W4.size]; exact Z0
    have K4 := K0.wr W4 (Or.inl (List.mem_of_getElem? (i := 0) rfl))
    refine g_iload X4 hx 62 (hb hby d5_60) rfl rfl ?_
    exact g_retI X4 hx hret hlk (hb hby d5_62) (by decide) (by decide) (by rw [e4]; exact ⟨rfl, N4, K4, E_a, F_decimalSum, F_integerRadix, F_integerKind, F_value, F_realRead⟩)
set_option maxRecDepth 65536 in
set_option maxHeartbeats 40000000 in
theorem rm5_2_3 (l : Launch) (Z : State) (a0 : Array Value) (hw : ∀ d ∈ tables_1, d.before a0 Z = true) (a b : Addr) (c0 c1 c2 c3 c4 : Int32) (kA : ClassId) (u0 u1 u2 u3 u4 : Value) (h0 : Heap) (n0 : Nat) (Z0 : n0 ≤ h0.size) (g_a : n0 ≤ a) (E_a : Exa Z h0 a "gleanwell/Grammar$NumberReading") (F_decimalSum : Fld Z h0 a "gleanwell/Grammar$NumberReading" "decimalSum" "J" u0) (F_integerRadix : Fld Z h0 a "gleanwell/Grammar$NumberReading" "integerRadix" "I" u1) (F_integerKind : Fld Z h0 a "gleanwell/Grammar$NumberReading" "integerKind" "I" u2) (F_value : Fld Z h0 a "gleanwell/Grammar$NumberReading" "value" "J" u3) (F_realRead : Fld Z h0 a "gleanwell/Grammar$NumberReading" "realRead" "Z" u4) (V_b : Arv Z h0 b kA .char (6 : Int32) [(.int c0), (.int c1), (.int c2), (.int c3), (.int c4), (.int (32 : Int32))] (.int (0 : Int32))) (ne_a_b : a ≠ b) (hd2 : ¬ own_dig c2 = 0) (hs3 : own_dig c3 = 0) :
    OwnMet l Z (⟨"gleanwell/Grammar$NumberReading", "sumDecimalDigits", "([CI)I"⟩ : MethodName) prog_28_method_5_code 8 (some .int) [] ({ frames := 0, cells := 0, slots := 0, locals := 0 } : Room) [(.ref a), (.ref b), (.int (2 : Int32))] h0 (fun v h L => v = some (.int 3) ∧ Fr n0 L ∧ Keep h0 h [a] ∧ Exa Z h a "gleanwell/Grammar$NumberReading" ∧ Fld Z h a "gleanwell/Grammar$NumberReading" "decimalSum" "J" (.long ((0 : Int64) - (c2 - (48 : Int32)).toInt64)) ∧ Fld Z h a "gleanwell/Grammar$NumberReading" "integerRadix" "I" u1 ∧ Fld Z h a "gleanwell/Grammar$NumberReading" "integerKind" "I" u2 ∧ Fld Z h a "gleanwell/Grammar$NumberReading" "value" "J" u3 ∧ Fld Z h a "gleanwell/Grammar$NumberReading" "realRead" "Z" u4) := by
  refine own_body (Ls := #[.val (.ref a), .val (.ref b), .val (.int (2 : Int32)), .unset, .unset, .unset, .unset, .unset]) (plainFor_of_name own_pn1) (fun m => by first | (simp [entryFrame, mkF, argsToLocals, Value.category]; done) | rfl) (fun p e s m below meth cO T0 hx hby hml hown hnm hret hlk hZ X0 e0 => ?_)
  have hown : s.vm.findClass "gleanwell/Grammar$NumberReading" = some m.cls := hown
  have N0 := Fr.nil n0
  have K0 := Keep.refl h0 [a]
  refine g_lconst X0 hx 1 (0 : Int64) (hb hby d5_0) (by decide) rfl ?_
  refine g_lstoreN X0 hx 2 #[.val (.ref a), .val (.ref b), .val (.int (2 : Int32)), .val (.long (0 : Int64)), .second, .unset, .unset, .unset] (hb hby d5_1) rfl rfl ?_
  refine g_iloadN X0 hx 3 (hb hby d5_2) rfl rfl ?_
  refine g_istore X0 hx 5 #[.val (.ref a), .val (.ref b), .val (.int (2 : Int32)), .val (.long (0 : Int64)), .second, .val (.int (2 : Int32)), .unset, .unset] (hb hby d5_3) rfl rfl ?_
  refine g_aloadN X0 hx 6 (hb hby d5_5) rfl rfl rfl ?_
  refine g_iload X0 hx 8 (hb hby d5_6) rfl rfl ?_
  refine g_caload X0 hx 9 hZ e0 V_b ⟨by decide, by decide⟩ (show _ = (.int c2) from rfl) (hb hby d5_8) rfl ?_
  refine g_istore X0 hx 11 #[.val (.ref a), .val (.ref b), .val (.int (2 : Int32)), .val (.long (0 : Int64)), .second, .val (.int (2 : Int32)), .val (.int c2), .unset] (hb hby d5_9) rfl rfl ?_
  refine g_iload X0 hx 13 (hb hby d5_11) rfl rfl ?_
  refine g_bipush X0 hx 15 (48 : Int32) (hb hby d5_13) (by decide) rfl ?_
  refine g_isub X0 hx 16 (c2 - (48 : Int32)) (hb hby d5_15) rfl rfl ?_
  refine g_istore X0 hx 18 #[.val (.ref a), .val (.ref b), .val (.int (2 : Int32)), .val (.long (0 : Int64)), .second, .val (.int (2 : Int32)), .val (.int c2), .val (.int (c2 - (48 : Int32)))] (hb hby d5_16) rfl rfl ?_
  refine g_iload X0 hx 20 (hb hby d5_18) rfl rfl ?_
  have hk1 : ¬ ((c2 - (48 : Int32)) < (0 : Int32)) := (own_dig_t hd2).1
  refine g_ifF X0 hx 23 (hb hby d5_20) ((if0 _ _).trans (flt hk1).1) rfl ?_
  refine g_iload X0 hx 25 (hb hby d5_23) rfl rfl ?_
  refine g_bipush X0 hx 27 (9 : Int32) (hb hby d5_25) (by decide) rfl ?_
  have hk2 : ¬ ((9 : Int32) < (c2 - (48 : Int32))) := (own_dig_t hd2).2
  refine g_icT X0 hx 33 (hb hby d5_27) (flt hk2).2.2.2 (by decide) (by decide) ?_
  refine g_ldc2J X0 hx 36 hZ hown (own_w hw 24 rfl) (hb hby d5_33) rfl ?_
  refine g_lloadN X0 hx 37 (hb hby d5_36) rfl rfl ?_
  refine g_lmul X0 hx 38 (0 : Int64) (hb hby d5_37) (by decide) rfl ?_
  refine g_iload X0 hx 40 (hb hby d5_38) rfl rfl ?_
  refine g_i2l X0 hx 41 ((c2 - (48 : Int32)).toInt64) (hb hby d5_40) rfl rfl ?_
  refine g_lsub X0 hx 42 ((0 : Int64) - ((c2 - (48 : Int32)).toInt64)) (hb hby d5_41) rfl rfl ?_
  refine g_lstoreN X0 hx 43 #[.val (.ref a), .val (.ref b), .val (.int (2 : Int32)), .val (.long ((0 : Int64) - ((c2 - (48 : Int32)).toInt64))), .second, .val (.int (2 : Int32)), .val (.int c2), .val (.int (c2 - (48 : Int32)))] (hb hby d5_42) rfl rfl ?_
  refine g_aloadN X0 hx 44 (hb hby d5_43) rfl rfl rfl ?_
  refine g_iinc X0 hx 47 (3 : Int32) #[.val (.ref a), .val (.ref b), .val (.int (2 : Int32)), .val (.long ((0 : Int64) - ((c2 - (48 : Int32)).toInt64))), .second, .val (.int (3 : Int32)), .val (.int c2), .val (.int (c2 - (48 : Int32)))] (hb hby d5_44) rfl (by decide) rfl rfl ?_
  refine g_iload X0 hx 49 (hb hby d5_47) rfl rfl ?_
  refine g_caload X0 hx 50 hZ e0 V_b ⟨by decide, by decide⟩ (show _ = (.int c3) from rfl) (hb hby d5_49) rfl ?_
  refine g_istore X0 hx 52 #[.val (.ref a), .val (.ref b), .val (.int (2 : Int32)), .val (.long ((0 : Int64) - ((c2 - (48 : Int32)).toInt64))), .second, .val (.int (3 : Int32)), .val (.int c3), .val (.int (c2 - (48 : Int32)))] (hb hby d5_50) rfl rfl ?_
  refine g_goto X0 hx 11 (hb hby d5_52) (by decide) (by decide) ?_
  refine g_iload X0 hx 13 (hb hby d5_11) rfl rfl ?_
  refine g_bipush X0 hx 15 (48 : Int32) (hb hby d5_13) (by decide) rfl ?_
  refine g_isub X0 hx 16 (c3 - (48 : Int32)) (hb hby d5_15) rfl rfl ?_
  refine g_istore X0 hx 18 #[.val (.ref a), .val (.ref b), .val (.int (2 : Int32)), .val (.long ((0 : Int64) - ((c2 - (48 : Int32)).toInt64))), .second, .val (.int (3 : Int32)), .val (.int c3), .val (.int (c3 - (48 : Int32)))] (hb hby d5_16) rfl rfl ?_
  refine g_iload X0 hx 20 (hb hby d5_18) rfl rfl ?_
  by_cases hc3 : (c3 - (48 : Int32)) < (0 : Int32)
  · refine g_ifT X0 hx 55 (hb hby d5_20) ((if0 _ _).trans (tlt hc3).1) (by decide) (by decide) ?_
    refine g_aloadN X0 hx 56 (hb hby d5_55) rfl rfl rfl ?_
    refine g_lloadN X0 hx 57 (hb hby d5_56) rfl rfl ?_
    refine g_putF X0 hx 60 hZ hown (host := "") (Or.inl (own_w hw 25 rfl)) Via.refl e0 F_decimalSum E_a (Or.inl (own_w hw 26 rfl)) (own_w hw 11 rfl) (ty := .long) (by decide) rfl rfl (hb hby d5_57) rfl (fun T4 h4 X4 e4 W4 => ?_)
    have E_a := E_a.wr W4
    have F_decimalSum := F_decimalSum.same W4
    have F_integerRadix := F_integerRadix.other W4 (Or.inr (slot_ne (Or.inl (own_w hw 36 rfl)) (Or.inl (own_w hw 26 rfl)) (by decide) (t := .int) (t' := .long) (by decide) (by decide)))
    have F_integerKind := F_integerKind.other W4 (Or.inr (slot_ne (Or.inl (own_w hw 38 rfl)) (Or.inl (own_w hw 26 rfl)) (by decide) (t := .int) (t' := .long) (by decide) (by decide)))
    have F_value := F_value.other W4 (Or.inr (slot_ne (Or.inl (own_w hw 40 rfl)) (Or.inl (own_w hw 26 rfl)) (by decide) (t := .long) (t' := .long) (by decide) (by decide)))
    have F_realRead := F_realRead.other W4 (Or.inr (slot_ne (Or.inl (own_w hw 42 rfl)) (Or.inl (own_w hw 26 rfl)) (by decide) (t := .boolean) (t' := .long) (by decide) (by decide)))
    have V_b := V_b.other W4 (Ne.symm ne_a_b)
    have N4 := Fr.snoc X4 N0 g_a
    have Z4 : n0 ≤ h4.size := by rw [W4.size]; exact Z0
    have K4 := K0.wr W4 (Or.inl (List.mem_of_getElem? (i := 0) rfl))
    refine g_iload X4 hx 62 (hb hby d5_60) rfl rfl ?_
    exact g_retI X4 hx hret hlk (hb hby d5_62) (by decide) (by decide) (by rw [e4]; exact ⟨rfl, N4, K4, E_a, F_decimalSum, F_integerRadix, F_integerKind, F_value, F_realRead⟩)
  · refine g_ifF X0 hx 23 (hb hby d5_20) ((if0 _ _).trans (flt hc3).1) rfl ?_
    refine g_iload X0 hx 25 (hb hby d5_23) rfl rfl ?_
    refine g_bipush X0 hx 27 (9 : Int32) (hb hby d5_25) (by decide) rfl ?_
    have hk5 : (9 : Int32) < (c3 - (48 : Int32)) := (own_dig_f hs3).resolve_left hc3
    refine g_icF X0 hx 30 (hb hby d5_27) (tlt hk5).2.2.2 rfl ?_
    refine g_goto X0 hx 55 (hb hby d5_30) (by decide) (by decide) ?_
    refine g_aloadN X0 hx 56 (hb hby d5_55) rfl rfl rfl ?_
    refine g_lloadN X0 hx 57 (hb hby d5_56) rfl rfl ?_
    refine g_putF X0 hx 60 hZ hown (host := "") (Or.inl (own_w hw 25 rfl)) Via.refl e0 F_decimalSum E_a (Or.inl (own_w hw 26 rfl)) (own_w hw 11 rfl) (ty := .long) (by decide) rfl rfl (hb hby d5_57) rfl (fun T6 h6 X6 e6 W6 => ?_)
    have E_a := E_a.wr W6
    have F_decimalSum := F_decimalSum.same W6
    have F_integerRadix := F_integerRadix.other W6 (Or.inr (slot_ne (Or.inl (own_w hw 36 rfl)) (Or.inl (own_w hw 26 rfl)) (by decide) (t := .int) (t' := .long) (by decide) (by decide)))
    have F_integerKind := F_integerKind.other W6 (Or.inr (slot_ne (Or.inl (own_w hw 38 rfl)) (Or.inl (own_w hw 26 rfl)) (by decide) (t := .int) (t' := .long) (by decide) (by decide)))
    have F_value := F_value.other W6 (Or.inr (slot_ne (Or.inl (own_w hw 40 rfl)) (Or.inl (own_w hw 26 rfl)) (by decide) (t := .long) (t' := .long) (by decide) (by decide)))
    have F_realRead := F_realRead.other W6 (Or.inr (slot_ne (Or.inl (own_w hw 42 rfl)) (Or.inl (own_w hw 26 rfl)) (by decide) (t := .boolean) (t' := .long) (by decide) (by decide)))
    have V_b := V_b.other W6 (Ne.symm ne_a_b)
    have N6 := Fr.snoc X6 N0 g_a
    have Z6 : n0 ≤ h6.size := by rw [W6.size]; exact Z0
    have K6 := K0.wr W6 (Or.inl (List.mem_of_getElem? (i := 0) rfl))
    refine g_iload X6 hx 62 (hb hby d5_60) rfl rfl ?_
    exact g_retI X6 hx hret hlk (hb hby d5_62) (by decide) (by decide) (by rw [e6]; exact ⟨rfl, N6, K6, E_a, F_decimalSum, F_integerRadix, F_integerKind, F_value, F_realRead⟩)
set_option maxRecDepth 65536 in
set_option maxHeartbeats 40000000 in
theorem rm5_2_4 (l : Launch) (Z : State) (a0 : Array Value) (hw : ∀ d ∈ tables_1, d.before a0 Z = true) (a b : Addr) (c0 c1 c2 c3 c4 : Int32) (kA : ClassId) (u0 u1 u2 u3 u4 : Value) (h0 : Heap) (n0 : Nat) (Z0 : n0 ≤ h0.size) (g_a : n0 ≤ a) (E_a : Exa Z h0 a "gleanwell/Grammar$NumberReading") (F_decimalSum : Fld Z h0 a "gleanwell/Grammar$NumberReading" "decimalSum" "J" u0) (F_integerRadix : Fld Z h0 a "gleanwell/Grammar$NumberReading" "integerRadix" "I" u1) (F_integerKind : Fld Z h0 a "gleanwell/Grammar$NumberReading" "integerKind" "I" u2) (F_value : Fld Z h0 a "gleanwell/Grammar$NumberReading" "value" "J" u3) (F_realRead : Fld Z h0 a "gleanwell/Grammar$NumberReading" "realRead" "Z" u4) (V_b : Arv Z h0 b kA .char (6 : Int32) [(.int c0), (.int c1), (.int c2), (.int c3), (.int c4), (.int (32 : Int32))] (.int (0 : Int32))) (ne_a_b : a ≠ b) (hd2 : ¬ own_dig c2 = 0) (hd3 : ¬ own_dig c3 = 0) (hs4 : own_dig c4 = 0) :
    OwnMet l Z (⟨"gleanwell/Grammar$NumberReading", "sumDecimalDigits", "([CI)I"⟩ : MethodName) prog_28_method_5_code 8 (some .int) [] ({ frames := 0, cells := 0, slots := 0, locals := 0 } : Room) [(.ref a), (.ref b), (.int (2 : Int32))] h0 (fun v h L => v = some (.int 4) ∧ Fr n0 L ∧ Keep h0 h [a] ∧ Exa Z h a "gleanwell/Grammar$NumberReading" ∧ Fld Z h a "gleanwell/Grammar$NumberReading" "decimalSum" "J" (.long ((10 : Int64) * ((0 : Int64) - (c2 - (48 : Int32)).toInt64) - (c3 - (48 : Int32)).toInt64)) ∧ Fld Z h a "gleanwell/Grammar$NumberReading" "integerRadix" "I" u1 ∧ Fld Z h a "gleanwell/Grammar$NumberReading" "integerKind" "I" u2 ∧ Fld Z h a "gleanwell/Grammar$NumberReading" "value" "J" u3 ∧ Fld Z h a "gleanwell/Grammar$NumberReading" "realRead" "Z" u4) := by
  refine own_body (Ls := #[.val (.ref a), .val (.ref b), .val (.int (2 : Int32)), .unset, .unset, .unset, .unset, .unset]) (plainFor_of_name own_pn1) (fun m => by first | (simp [entryFrame, mkF, argsToLocals, Value.category]; done) | rfl) (fun p e s m below meth cO T0 hx hby hml hown hnm hret hlk hZ X0 e0 => ?_)
  have hown : s.vm.findClass "gleanwell/Grammar$NumberReading" = some m.cls := hown
  have N0 := Fr.nil n0
  have K0 := Keep.refl h0 [a]
  refine g_lconst X0 hx 1 (0 : Int64) (hb hby d5_0) (by decide) rfl ?_
  refine g_lstoreN X0 hx 2 #[.val (.ref a), .val (.ref b), .val (.int (2 : Int32)), .val (.long (0 : Int64)), .second, .unset, .unset, .unset] (hb hby d5_1) rfl rfl ?_
  refine g_iloadN X0 hx 3 (hb hby d5_2) rfl rfl ?_
  refine g_istore X0 hx 5 #[.val (.ref a), .val (.ref b), .val (.int (2 : Int32)), .val (.long (0 : Int64)), .second, .val (.int (2 : Int32)), .unset, .unset] (hb hby d5_3) rfl rfl ?_
  refine g_aloadN X0 hx 6 (hb hby d5_5) rfl rfl rfl ?_
  refine g_iload X0 hx 8 (hb hby d5_6) rfl rfl ?_
  refine g_caload X0 hx 9 hZ e0 V_b ⟨by decide, by decide⟩ (show _ = (.int c2) from rfl) (hb hby d5_8) rfl ?_
  refine g_istore X0 hx 11 #[.val (.ref a), .val (.ref b), .val (.int (2 : Int32)), .val (.long (0 : Int64)), .second, .val (.int (2 : Int32)), .val (.int c2), .unset] (hb hby d5_9) rfl rfl ?_
  refine g_iload X0 hx 13 (hb hby d5_11) rfl rfl ?_
  refine g_bipush X0 hx 15 (48 : Int32) (hb hby d5_13) (by decide) rfl ?_
  refine g_isub X0 hx 16 (c2 - (48 : Int32)) (hb hby d5_15) rfl rfl ?_
  refine g_istore X0 hx 18 #[.val (.ref a), .val (.ref b), .val (.int (2 : Int32)), .val (.long (0 : Int64)), .second, .val (.int (2 : Int32)), .val (.int c2), .val (.int (c2 - (48 : Int32)))] (hb hby d5_16) rfl rfl ?_
  refine g_iload X0 hx 20 (hb hby d5_18) rfl rfl ?_
  have hk1 : ¬ ((c2 - (48 : Int32)) < (0 : Int32)) := (own_dig_t hd2).1
  refine g_ifF X0 hx 23 (hb hby d5_20) ((if0 _ _).trans (flt hk1).1) rfl ?_
  refine g_iload X0 hx 25 (hb hby d5_23) rfl rfl ?_
  refine g_bipush X0 hx 27 (9 : Int32) (hb hby d5_25) (by decide) rfl ?_
  have hk2 : ¬ ((9 : Int32) < (c2 - (48 : Int32))) := (own_dig_t hd2).2
  refine g_icT X0 hx 33 (hb hby d5_27) (flt hk2).2.2.2 (by decide) (by decide) ?_
  refine g_ldc2J X0 hx 36 hZ hown (own_w hw 24 rfl) (hb hby d5_33) rfl ?_
  refine g_lloadN X0 hx 37 (hb hby d5_36) rfl rfl ?_
  refine g_lmul X0 hx 38 (0 : Int64) (hb hby d5_37) (by decide) rfl ?_
  refine g_iload X0 hx 40 (hb hby d5_38) rfl rfl ?_
  refine g_i2l X0 hx 41 ((c2 - (48 : Int32)).toInt64) (hb hby d5_40) rfl rfl ?_
  refine g_lsub X0 hx 42 ((0 : Int64) - ((c2 - (48 : Int32)).toInt64)) (hb hby d5_41) rfl rfl ?_
  refine g_lstoreN X0 hx 43 #[.val (.ref a), .val (.ref b), .val (.int (2 : Int32)), .val (.long ((0 : Int64) - ((c2 - (48 : Int32)).toInt64))), .second, .val (.int (2 : Int32)), .val (.int c2), .val (.int (c2 - (48 : Int32)))] (hb hby d5_42) rfl rfl ?_
  refine g_aloadN X0 hx 44 (hb hby d5_43) rfl rfl rfl ?_
  refine g_iinc X0 hx 47 (3 : Int32) #[.val (.ref a), .val (.ref b), .val (.int (2 : Int32)), .val (.long ((0 : Int64) - ((c2 - (48 : Int32)).toInt64))), .second, .val (.int (3 : Int32)), .val (.int c2), .val (.int (c2 - (48 : Int32)))] (hb hby d5_44) rfl (by decide) rfl rfl ?_
  refine g_iload X0 hx 49 (hb hby d5_47) rfl rfl ?_
  refine g_caload X0 hx 50 hZ e0 V_b ⟨by decide, by decide⟩ (show _ = (.int c3) from rfl) (hb hby d5_49) rfl ?_
  refine g_istore X0 hx 52 #[.val (.ref a), .val (.ref b), .val (.int (2 : Int32)), .val (.long ((0 : Int64) - ((c2 - (48 : Int32)).toInt64))), .second, .val (.int (3 : Int32)), .val (.int c3), .val (.int (c2 - (48 : Int32)))] (hb hby d5_50) rfl rfl ?_
  refine g_goto X0 hx 11 (hb hby d5_52) (by decide) (by decide) ?_
  refine g_iload X0 hx 13 (hb hby d5_11) rfl rfl ?_
  refine g_bipush X0 hx 15 (48 : Int32) (hb hby d5_13) (by decide) rfl ?_
  refine g_isub X0 hx 16 (c3 - (48 : Int32)) (hb hby d5_15) rfl rfl ?_
  refine g_istore X0 hx 18 #[.val (.ref a), .val (.ref b), .val (.int (2 : Int32)), .val (.long ((0 : Int64) - ((c2 - (48 : Int32)).toInt64))), .second, .val (.int (3 : Int32)), .val (.int c3), .val (.int (c3 - (48 : Int32)))] (hb hby d5_16) rfl rfl ?_
  refine g_iload X0 hx 20 (hb hby d5_18) rfl rfl ?_
  have hk3 : ¬ ((c3 - (48 : Int32)) < (0 : Int32)) := (own_dig_t hd3).1
  refine g_ifF X0 hx 23 (hb hby d5_20) ((if0 _ _).trans (flt hk3).1) rfl ?_
  refine g_iload X0 hx 25 (hb hby d5_23) rfl rfl ?_
  refine g_bipush X0 hx 27 (9 : Int32) (hb hby d5_25) (by decide) rfl ?_
  have hk4 : ¬ ((9 : Int32) < (c3 - (48 : Int32))) := (own_dig_t hd3).2
  refine g_icT X0 hx 33 (hb hby d5_27) (flt hk4).2.2.2 (by decide) (by decide) ?_
  refine g_ldc2J X0 hx 36 hZ hown (own_w hw 24 rfl) (hb hby d5_33) rfl ?_
  refine g_lloadN X0 hx 37 (hb hby d5_36) rfl rfl ?_
  refine g_lmul X0 hx 38 ((10 : Int64) * ((0 : Int64) - ((c2 - (48 : Int32)).toInt64))) (hb hby d5_37) rfl rfl ?_
  refine g_iload X0 hx 40 (hb hby d5_38) rfl rfl ?_
  refine g_i2l X0 hx 41 ((c3 - (48 : Int32)).toInt64) (hb hby d5_40) rfl rfl ?_
  refine g_lsub X0 hx 42 (((10 : Int64) * ((0 : Int64) - ((c2 - (48 : Int32)).toInt64))) - ((c3 - (48 : Int32)).toInt64)) (hb hby d5_41) rfl rfl ?_
  refine g_lstoreN X0 hx 43 #[.val (.ref a), .val (.ref b), .val (.int (2 : Int32)), .val (.long (((10 : Int64) * ((0 : Int64) - ((c2 - (48 : Int32)).toInt64))) - ((c3 - (48 : Int32)).toInt64))), .second, .val (.int (3 : Int32)), .val (.int c3), .val (.int (c3 - (48 : Int32)))] (hb hby d5_42) rfl rfl ?_
  refine g_aloadN X0 hx 44 (hb hby d5_43) rfl rfl rfl ?_
  refine g_iinc X0 hx 47 (4 : Int32) #[.val (.ref a), .val (.ref b), .val (.int (2 : Int32)), .val (.long (((10 : Int64) * ((0 : Int64) - ((c2 - (48 : Int32)).toInt64))) - ((c3 - (48 : Int32)).toInt64))), .second, .val (.int (4 : Int32)), .val (.int c3), .val (.int (c3 - (48 : Int32)))] (hb hby d5_44) rfl (by decide) rfl rfl ?_
  refine g_iload X0 hx 49 (hb hby d5_47) rfl rfl ?_
  refine g_caload X0 hx 50 hZ e0 V_b ⟨by decide, by decide⟩ (show _ = (.int c4) from rfl) (hb hby d5_49) rfl ?_
  refine g_istore X0 hx 52 #[.val (.ref a), .val (.ref b), .val (.int (2 : Int32)), .val (.long (((10 : Int64) * ((0 : Int64) - ((c2 - (48 : Int32)).toInt64))) - ((c3 - (48 : Int32)).toInt64))), .second, .val (.int (4 : Int32)), .val (.int c4), .val (.int (c3 - (48 : Int32)))] (hb hby d5_50) rfl rfl ?_
  refine g_goto X0 hx 11 (hb hby d5_52) (by decide) (by decide) ?_
  refine g_iload X0 hx 13 (hb hby d5_11) rfl rfl ?_
  refine g_bipush X0 hx 15 (48 : Int32) (hb hby d5_13) (by decide) rfl ?_
  refine g_isub X0 hx 16 (c4 - (48 : Int32)) (hb hby d5_15) rfl rfl ?_
  refine g_istore X0 hx 18 #[.val (.ref a), .val (.ref b), .val (.int (2 : Int32)), .val (.long (((10 : Int64) * ((0 : Int64) - ((c2 - (48 : Int32)).toInt64))) - ((c3 - (48 : Int32)).toInt64))), .second, .val (.int (4 : Int32)), .val (.int c4), .val (.int (c4 - (48 : Int32)))] (hb hby d5_16) rfl rfl ?_
  refine g_iload X0 hx 20 (hb hby d5_18) rfl rfl ?_
  by_cases hc5 : (c4 - (48 : Int32)) < (0 : Int32)
  · refine g_ifT X0 hx 55 (hb hby d5_20) ((if0 _ _).trans (tlt hc5).1) (by decide) (by decide) ?_
    refine g_aloadN X0 hx 56 (hb hby d5_55) rfl rfl rfl ?_
    refine g_lloadN X0 hx 57 (hb hby d5_56) rfl rfl ?_
    refine g_putF X0 hx 60 hZ hown (host := "") (Or.inl (own_w hw 25 rfl)) Via.refl e0 F_decimalSum E_a (Or.inl (own_w hw 26 rfl)) (own_w hw 11 rfl) (ty := .long) (by decide) rfl rfl (hb hby d5_57) rfl (fun T6 h6 X6 e6 W6 => ?_)
    have E_a := E_a.wr W6
    have F_decimalSum := F_decimalSum.same W6
    have F_integerRadix := F_integerRadix.other W6 (Or.inr (slot_ne (Or.inl (own_w hw 36 rfl)) (Or.inl (own_w hw 26 rfl)) (by decide) (t := .int) (t' := .long) (by decide) (by decide)))
    have F_integerKind := F_integerKind.other W6 (Or.inr (slot_ne (Or.inl (own_w hw 38 rfl)) (Or.inl (own_w hw 26 rfl)) (by decide) (t := .int) (t' := .long) (by decide) (by decide)))
    have F_value := F_value.other W6 (Or.inr (slot_ne (Or.inl (own_w hw 40 rfl)) (Or.inl (own_w hw 26 rfl)) (by decide) (t := .long) (t' := .long) (by decide) (by decide)))
    have F_realRead := F_realRead.other W6 (Or.inr (slot_ne (Or.inl (own_w hw 42 rfl)) (Or.inl (own_w hw 26 rfl)) (by decide) (t := .boolean) (t' := .long) (by decide) (by decide)))
    have V_b := V_b.other W6 (Ne.symm ne_a_b)
    have N6 := Fr.snoc X6 N0 g_a
    have Z6 : n0 ≤ h6.size := by rw [W6.size]; exact Z0
    have K6 := K0.wr W6 (Or.inl (List.mem_of_getElem? (i := 0) rfl))
    refine g_iload X6 hx 62 (hb hby d5_60) rfl rfl ?_
    exact g_retI X6 hx hret hlk (hb hby d5_62) (by decide) (by decide) (by rw [e6]; exact ⟨rfl, N6, K6, E_a, F_decimalSum, F_integerRadix, F_integerKind, F_value, F_realRead⟩)
  · refine g_ifF X0 hx 23 (hb hby d5_20) ((if0 _ _).trans (flt hc5).1) rfl ?_
    refine g_iload X0 hx 25 (hb hby d5_23) rfl rfl ?_
    refine g_bipush X0 hx 27 (9 : Int32) (hb hby d5_25) (by decide) rfl ?_
    have hk7 : (9 : Int32) < (c4 - (48 : Int32)) := (own_dig_f hs4).resolve_left hc5
    refine g_icF X0 hx 30 (hb hby d5_27) (tlt hk7).2.2.2 rfl ?_
    refine g_goto X0 hx 55 (hb hby d5_30) (by decide) (by decide) ?_
    refine g_aloadN X0 hx 56 (hb hby d5_55) rfl rfl rfl ?_
    refine g_lloadN X0 hx 57 (hb hby d5_56) rfl rfl ?_
    refine g_putF X0 hx 60 hZ hown (host := "") (Or.inl (own_w hw 25 rfl)) Via.refl e0 F_decimalSum E_a (Or.inl (own_w hw 26 rfl)) (own_w hw 11 rfl) (ty := .long) (by decide) rfl rfl (hb hby d5_57) rfl (fun T8 h8 X8 e8 W8 => ?_)
    have E_a := E_a.wr W8
    have F_decimalSum := F_decimalSum.same W8
    have F_integerRadix := F_integerRadix.other W8 (Or.inr (slot_ne (Or.inl (own_w hw 36 rfl)) (Or.inl (own_w hw 26 rfl)) (by decide) (t := .int) (t' := .long) (by decide) (by decide)))
    have F_integerKind := F_integerKind.other W8 (Or.inr (slot_ne (Or.inl (own_w hw 38 rfl)) (Or.inl (own_w hw 26 rfl)) (by decide) (t := .int) (t' := .long) (by decide) (by decide)))
    have F_value := F_value.other W8 (Or.inr (slot_ne (Or.inl (own_w hw 40 rfl)) (Or.inl (own_w hw 26 rfl)) (by decide) (t := .long) (t' := .long) (by decide) (by decide)))
    have F_realRead := F_realRead.other W8 (Or.inr (slot_ne (Or.inl (own_w hw 42 rfl)) (Or.inl (own_w hw 26 rfl)) (by decide) (t := .boolean) (t' := .long) (by decide) (by decide)))
    have V_b := V_b.other W8 (Ne.symm ne_a_b)
    have N8 := Fr.snoc X8 N0 g_a
    have Z8 : n0 ≤ h8.size := by rw [W8.size]; exact Z0
    have K8 := K0.wr W8 (Or.inl (List.mem_of_getElem? (i := 0) rfl))
    refine g_iload X8 hx 62 (hb hby d5_60) rfl rfl ?_
    exact g_retI X8 hx hret hlk (hb hby d5_62) (by decide) (by decide) (by rw [e8]; exact ⟨rfl, N8, K8, E_a, F_decimalSum, F_integerRadix, F_integerKind, F_value, F_realRead⟩)
set_option maxRecDepth 65536 in
set_option maxHeartbeats 40000000 in
theorem rm5_2_5 (l : Launch) (Z : State) (a0 : Array Value) (hw : ∀ d ∈ tables_1, d.before a0 Z = true) (a b : Addr) (c0 c1 c2 c3 c4 : Int32) (kA : ClassId) (u0 u1 u2 u3 u4 : Value) (h0 : Heap) (n0 : Nat) (Z0 : n0 ≤ h0.size) (g_a : n0 ≤ a) (E_a : Exa Z h0 a "gleanwell/Grammar$NumberReading") (F_decimalSum : Fld Z h0 a "gleanwell/Grammar$NumberReading" "decimalSum" "J" u0) (F_integerRadix : Fld Z h0 a "gleanwell/Grammar$NumberReading" "integerRadix" "I" u1) (F_integerKind : Fld Z h0 a "gleanwell/Grammar$NumberReading" "integerKind" "I" u2) (F_value : Fld Z h0 a "gleanwell/Grammar$NumberReading" "value" "J" u3) (F_realRead : Fld Z h0 a "gleanwell/Grammar$NumberReading" "realRead" "Z" u4) (V_b : Arv Z h0 b kA .char (6 : Int32) [(.int c0), (.int c1), (.int c2), (.int c3), (.int c4), (.int (32 : Int32))] (.int (0 : Int32))) (ne_a_b : a ≠ b) (hd2 : ¬ own_dig c2 = 0) (hd3 : ¬ own_dig c3 = 0) (hd4 : ¬ own_dig c4 = 0) :
    OwnMet l Z (⟨"gleanwell/Grammar$NumberReading", "sumDecimalDigits", "([CI)I"⟩ : MethodName) prog_28_method_5_code 8 (some .int) [] ({ frames := 0, cells := 0, slots := 0, locals := 0 } : Room) [(.ref a), (.ref b), (.int (2 : Int32))] h0 (fun v h L => v = some (.int 5) ∧ Fr n0 L ∧ Keep h0 h [a] ∧ Exa Z h a "gleanwell/Grammar$NumberReading" ∧ Fld Z h a "gleanwell/Grammar$NumberReading" "decimalSum" "J" (.long ((10 : Int64) * ((10 : Int64) * ((0 : Int64) - (c2 - (48 : Int32)).toInt64) - (c3 - (48 : Int32)).toInt64) - (c4 - (48 : Int32)).toInt64)) ∧ Fld Z h a "gleanwell/Grammar$NumberReading" "integerRadix" "I" u1 ∧ Fld Z h a "gleanwell/Grammar$NumberReading" "integerKind" "I" u2 ∧ Fld Z h a "gleanwell/Grammar$NumberReading" "value" "J" u3 ∧ Fld Z h a "gleanwell/Grammar$NumberReading" "realRead" "Z" u4) := by
  refine own_body (Ls := #[.val (.ref a), .val (.ref b), .val (.int (2 : Int32)), .unset, .unset, .unset, .unset, .unset]) (plainFor_of_name own_pn1) (fun m => by first | (simp [entryFrame, mkF, argsToLocals, Value.category]; done) | rfl) (fun p e s m below meth cO T0 hx hby hml hown hnm hret hlk hZ X0 e0 => ?_)
  have hown : s.vm.findClass "gleanwell/Grammar$NumberReading" = some m.cls := hown
  have N0 := Fr.nil n0
  have K0 := Keep.refl h0 [a]
  refine g_lconst X0 hx 1 (0 : Int64) (hb hby d5_0) (by decide) rfl ?_
  refine g_lstoreN X0 hx 2 #[.val (.ref a), .val (.ref b), .val (.int (2 : Int32)), .val (.long (0 : Int64)), .second, .unset, .unset, .unset] (hb hby d5_1) rfl rfl ?_
  refine g_iloadN X0 hx 3 (hb hby d5_2) rfl rfl ?_
  refine g_istore X0 hx 5 #[.val (.ref a), .val (.ref b), .val (.int (2 : Int32)), .val (.long (0 : Int64)), .second, .val (.int (2 : Int32)), .unset, .unset] (hb hby d5_3) rfl rfl ?_
  refine g_aloadN X0 hx 6 (hb hby d5_5) rfl rfl rfl ?_
  refine g_iload X0 hx 8 (hb hby d5_6) rfl rfl ?_
  refine g_caload X0 hx 9 hZ e0 V_b ⟨by decide, by decide⟩ (show _ = (.int c2) from rfl) (hb hby d5_8) rfl ?_
  refine g_istore X0 hx 11 #[.val (.ref a), .val (.ref b), .val (.int (2 : Int32)), .val (.long (0 : Int64)), .second, .val (.int (2 : Int32)), .val (.int c2), .unset] (hb hby d5_9) rfl rfl ?_
  refine g_iload X0 hx 13 (hb hby d5_11) rfl rfl ?_
  refine g_bipush X0 hx 15 (48 : Int32) (hb hby d5_13) (by decide) rfl ?_
  refine g_isub X0 hx 16 (c2 - (48 : Int32)) (hb hby d5_15) rfl rfl ?_
  refine g_istore X0 hx 18 #[.val (.ref a), .val (.ref b), .val (.int (2 : Int32)), .val (.long (0 : Int64)), .second, .val (.int (2 : Int32)), .val (.int c2), .val (.int (c2 - (48 : Int32)))] (hb hby d5_16) rfl rfl ?_
  refine g_iload X0 hx 20 (hb hby d5_18) rfl rfl ?_
  have hk1 : ¬ ((c2 - (48 : Int32)) < (0 : Int32)) := (own_dig_t hd2).1
  refine g_ifF X0 hx 23 (hb hby d5_20) ((if0 _ _).trans (flt hk1).1) rfl ?_
  refine g_iload X0 hx 25 (hb hby d5_23) rfl rfl ?_
  refine g_bipush X0 hx 27 (9 : Int32) (hb hby d5_25) (by decide) rfl ?_
  have hk2 : ¬ ((9 : Int32) < (c2 - (48 : Int32))) := (own_dig_t hd2).2
  refine g_icT X0 hx 33 (hb hby d5_27) (flt hk2).2.2.2 (by decide) (by decide) ?_
  refine g_ldc2J X0 hx 36 hZ hown (own_w hw 24 rfl) (hb hby d5_33) rfl ?_
  refine g_lloadN X0 hx 37 (hb hby d5_36) rfl rfl ?_
  refine g_lmul X0 hx 38 (0 : Int64) (hb hby d5_37) (by decide) rfl ?_
  refine g_iload X0 hx 40 (hb hby d5_38) rfl rfl ?_
  refine g_i2l X0 hx 41 ((c2 - (48 : Int32)).toInt64) (hb hby d5_40) rfl rfl ?_
  refine g_lsub X0 hx 42 ((0 : Int64) - ((c2 - (48 : Int32)).toInt64)) (hb hby d5_41) rfl rfl ?_
  refine g_lstoreN X0 hx 43 #[.val (.ref a), .val (.ref b), .val (.int (2 : Int32)), .val (.long ((0 : Int64) - ((c2 - (48 : Int32)).toInt64))), .second, .val (.int (2 : Int32)), .val (.int c2), .val (.int (c2 - (48 : Int32)))] (hb hby d5_42) rfl rfl ?_
  refine g_aloadN X0 hx 44 (hb hby d5_43) rfl rfl rfl ?_
  refine g_iinc X0 hx 47 (3 : Int32) #[.val (.ref a), .val (.ref b), .val (.int (2 : Int32)), .val (.long ((0 : Int64) - ((c2 - (48 : Int32)).toInt64))), .second, .val (.int (3 : Int32)), .val (.int c2), .val (.int (c2 - (48 : Int32)))] (hb hby d5_44) rfl (by decide) rfl rfl ?_
  refine g_iload X0 hx 49 (hb hby d5_47) rfl rfl ?_
  refine g_caload X0 hx 50 hZ e0 V_b ⟨by decide, by decide⟩ (show _ = (.int c3) from rfl) (hb hby d5_49) rfl ?_
  refine g_istore X0 hx 52 #[.val (.ref a), .val (.ref b), .val (.int (2 : Int32)), .val (.long ((0 : Int64) - ((c2 - (48 : Int32)).toInt64))), .second, .val (.int (3 : Int32)), .val (.int c3), .val (.int (c2 - (48 : Int32)))] (hb hby d5_50) rfl rfl ?_
  refine g_goto X0 hx 11 (hb hby d5_52) (by decide) (by decide) ?_
  refine g_iload X0 hx 13 (hb hby d5_11) rfl rfl ?_
  refine g_bipush X0 hx 15 (48 : Int32) (hb hby d5_13) (by decide) rfl ?_
  refine g_isub X0 hx 16 (c3 - (48 : Int32)) (hb hby d5_15) rfl rfl ?_
  refine g_istore X0 hx 18 #[.val (.ref a), .val (.ref b), .val (.int (2 : Int32)), .val (.long ((0 : Int64) - ((c2 - (48 : Int32)).toInt64))), .second, .val (.int (3 : Int32)), .val (.int c3), .val (.int (c3 - (48 : Int32)))] (hb hby d5_16) rfl rfl ?_
  refine g_iload X0 hx 20 (hb hby d5_18) rfl rfl ?_
  have hk3 : ¬ ((c3 - (48 : Int32)) < (0 : Int32)) := (own_dig_t hd3).1
  refine g_ifF X0 hx 23 (hb hby d5_20) ((if0 _ _).trans (flt hk3).1) rfl ?_
  refine g_iload X0 hx 25 (hb hby d5_23) rfl rfl ?_
  refine g_bipush X0 hx 27 (9 : Int32) (hb hby d5_25) (by decide) rfl ?_
  have hk4 : ¬ ((9 : Int32) < (c3 - (48 : Int32))) := (own_dig_t hd3).2
  refine g_icT X0 hx 33 (hb hby d5_27) (flt hk4).2.2.2 (by decide) (by decide) ?_
  refine g_ldc2J X0 hx 36 hZ hown (own_w hw 24 rfl) (hb hby d5_33) rfl ?_
  refine g_lloadN X0 hx 37 (hb hby d5_36) rfl rfl ?_
  refine g_lmul X0 hx 38 ((10 : Int64) * ((0 : Int64) - ((c2 - (48 : Int32)).toInt64))) (hb hby d5_37) rfl rfl ?_
  refine g_iload X0 hx 40 (hb hby d5_38) rfl rfl ?_
  refine g_i2l X0 hx 41 ((c3 - (48 : Int32)).toInt64) (hb hby d5_40) rfl rfl ?_
  refine g_lsub X0 hx 42 (((10 : Int64) * ((0 : Int64) - ((c2 - (48 : Int32)).toInt64))) - ((c3 - (48 : Int32)).toInt64)) (hb hby d5_41) rfl rfl ?_
  refine g_lstoreN X0 hx 43 #[.val (.ref a), .val (.ref b), .val (.int (2 : Int32)), .val (.long (((10 : Int64) * ((0 : Int64) - ((c2 - (48 : Int32)).toInt64))) - ((c3 - (48 : Int32)).toInt64))), .second, .val (.int (3 : Int32)), .val (.int c3), .val (.int (c3 - (48 : Int32)))] (hb hby d5_42) rfl rfl ?_
  refine g_aloadN X0 hx 44 (hb hby d5_43) rfl rfl rfl ?_
  refine g_iinc X0 hx 47 (4 : Int32) #[.val (.ref a), .val (.ref b), .val (.int (2 : Int32)), .val (.long (((10 : Int64) * ((0 : Int64) - ((c2 - (48 : Int32)).toInt64))) - ((c3 - (48 : Int32)).toInt64))), .second, .val (.int (4 : Int32)), .val (.int c3), .val (.int (c3 - (48 : Int32)))] (hb hby d5_44) rfl (by decide) rfl rfl ?_
  refine g_iload X0 hx 49 (hb hby d5_47) rfl rfl ?_
  refine g_caload X0 hx 50 hZ e0 V_b ⟨by decide, by decide⟩ (show _ = (.int c4) from rfl) (hb hby d5_49) rfl ?_
  refine g_istore X0 hx 52 #[.val (.ref a), .val (.ref b), .val (.int (2 : Int32)), .val (.long (((10 : Int64) * ((0 : Int64) - ((c2 - (48 : Int32)).toInt64))) - ((c3 - (48 : Int32)).toInt64))), .second, .val (.int (4 : Int32)), .val (.int c4), .val (.int (c3 - (48 : Int32)))] (hb hby d5_50) rfl rfl ?_
  refine g_goto X0 hx 11 (hb hby d5_52) (by decide) (by decide) ?_
  refine g_iload X0 hx 13 (hb hby d5_11) rfl rfl ?_
  refine g_bipush X0 hx 15 (48 : Int32) (hb hby d5_13) (by decide) rfl ?_
  refine g_isub X0 hx 16 (c4 - (48 : Int32)) (hb hby d5_15) rfl rfl ?_
  refine g_istore X0 hx 18 #[.val (.ref a), .val (.ref b), .val (.int (2 : Int32)), .val (.long (((10 : Int64) * ((0 : Int64) - ((c2 - (48 : Int32)).toInt64))) - ((c3 - (48 : Int32)).toInt64))), .second, .val (.int (4 : Int32)), .val (.int c4), .val (.int (c4 - (48 : Int32)))] (hb hby d5_16) rfl rfl ?_
  refine g_iload X0 hx 20 (hb hby d5_18) rfl rfl ?_
  have hk5 : ¬ ((c4 - (48 : Int32)) < (0 : Int32)) := (own_dig_t hd4).1
  refine g_ifF X0 hx 23 (hb hby d5_20) ((if0 _ _).trans (flt hk5).1) rfl ?_
  refine g_iload X0 hx 25 (hb hby d5_23) rfl rfl ?_
  refine g_bipush X0 hx 27 (9 : Int32) (hb hby d5_25) (by decide) rfl ?_
  have hk6 : ¬ ((9 : Int32) < (c4 - (48 : Int32))) := (own_dig_t hd4).2
  refine g_icT X0 hx 33 (hb hby d5_27) (flt hk6).2.2.2 (by decide) (by decide) ?_
  refine g_ldc2J X0 hx 36 hZ hown (own_w hw 24 rfl) (hb hby d5_33) rfl ?_
  refine g_lloadN X0 hx 37 (hb hby d5_36) rfl rfl ?_
  refine g_lmul X0 hx 38 ((10 : Int64) * (((10 : Int64) * ((0 : Int64) - ((c2 - (48 : Int32)).toInt64))) - ((c3 - (48 : Int32)).toInt64))) (hb hby d5_37) rfl rfl ?_
  refine g_iload X0 hx 40 (hb hby d5_38) rfl rfl ?_
  refine g_i2l X0 hx 41 ((c4 - (48 : Int32)).toInt64) (hb hby d5_40) rfl rfl ?_
  refine g_lsub X0 hx 42 (((10 : Int64) * (((10 : Int64) * ((0 : Int64) - ((c2 - (48 : Int32)).toInt64))) - ((c3 - (48 : Int32)).toInt64))) - ((c4 - (48 : Int32)).toInt64)) (hb hby d5_41) rfl rfl ?_
  refine g_lstoreN X0 hx 43 #[.val (.ref a), .val (.ref b), .val (.int (2 : Int32)), .val (.long (((10 : Int64) * (((10 : Int64) * ((0 : Int64) - ((c2 - (48 : Int32)).toInt64))) - ((c3 - (48 : Int32)).toInt64))) - ((c4 - (48 : Int32)).toInt64))), .second, .val (.int (4 : Int32)), .val (.int c4), .val (.int (c4 - (48 : Int32)))] (hb hby d5_42) rfl rfl ?_
  refine g_aloadN X0 hx 44 (hb hby d5_43) rfl rfl rfl ?_
  refine g_iinc X0 hx 47 (5 : Int32) #[.val (.ref a), .val (.ref b), .val (.int (2 : Int32)), .val (.long (((10 : Int64) * (((10 : Int64) * ((0 : Int64) - ((c2 - (48 : Int32)).toInt64))) - ((c3 - (48 : Int32)).toInt64))) - ((c4 - (48 : Int32)).toInt64))), .second, .val (.int (5 : Int32)), .val (.int c4), .val (.int (c4 - (48 : Int32)))] (hb hby d5_44) rfl (by decide) rfl rfl ?_
  refine g_iload X0 hx 49 (hb hby d5_47) rfl rfl ?_
  refine g_caload X0 hx 50 hZ e0 V_b ⟨by decide, by decide⟩ (show _ = (.int (32 : Int32)) from rfl) (hb hby d5_49) rfl ?_
  refine g_istore X0 hx 52 #[.val (.ref a), .val (.ref b), .val (.int (2 : Int32)), .val (.long (((10 : Int64) * (((10 : Int64) * ((0 : Int64) - ((c2 - (48 : Int32)).toInt64))) - ((c3 - (48 : Int32)).toInt64))) - ((c4 - (48 : Int32)).toInt64))), .second, .val (.int (5 : Int32)), .val (.int (32 : Int32)), .val (.int (c4 - (48 : Int32)))] (hb hby d5_50) rfl rfl ?_
  refine g_goto X0 hx 11 (hb hby d5_52) (by decide) (by decide) ?_
  refine g_iload X0 hx 13 (hb hby d5_11) rfl rfl ?_
  refine g_bipush X0 hx 15 (48 : Int32) (hb hby d5_13) (by decide) rfl ?_
  refine g_isub X0 hx 16 (-16 : Int32) (hb hby d5_15) (by decide) rfl ?_
  refine g_istore X0 hx 18 #[.val (.ref a), .val (.ref b), .val (.int (2 : Int32)), .val (.long (((10 : Int64) * (((10 : Int64) * ((0 : Int64) - ((c2 - (48 : Int32)).toInt64))) - ((c3 - (48 : Int32)).toInt64))) - ((c4 - (48 : Int32)).toInt64))), .second, .val (.int (5 : Int32)), .val (.int (32 : Int32)), .val (.int (-16 : Int32))] (hb hby d5_16) rfl rfl ?_
  refine g_iload X0 hx 20 (hb hby d5_18) rfl rfl ?_
  refine g_ifT X0 hx 55 (hb hby d5_20) (by decide) (by decide) (by decide) ?_
  refine g_aloadN X0 hx 56 (hb hby d5_55) rfl rfl rfl ?_
  refine g_lloadN X0 hx 57 (hb hby d5_56) rfl rfl ?_
  refine g_putF X0 hx 60 hZ hown (host := "") (Or.inl (own_w hw 25 rfl)) Via.refl e0 F_decimalSum E_a (Or.inl (own_w hw 26 rfl)) (own_w hw 11 rfl) (ty := .long) (by decide) rfl rfl (hb hby d5_57) rfl (fun T7 h7 X7 e7 W7 => ?_)
  have E_a := E_a.wr W7
  have F_decimalSum := F_decimalSum.same W7
  have F_integerRadix := F_integerRadix.other W7 (Or.inr (slot_ne (Or.inl (own_w hw 36 rfl)) (Or.inl (own_w hw 26 rfl)) (by decide) (t := .int) (t' := .long) (by decide) (by decide)))
  have F_integerKind := F_integerKind.other W7 (Or.inr (slot_ne (Or.inl (own_w hw 38 rfl)) (Or.inl (own_w hw 26 rfl)) (by decide) (t := .int) (t' := .long) (by decide) (by decide)))
  have F_value := F_value.other W7 (Or.inr (slot_ne (Or.inl (own_w hw 40 rfl)) (Or.inl (own_w hw 26 rfl)) (by decide) (t := .long) (t' := .long) (by decide) (by decide)))
  have F_realRead := F_realRead.other W7 (Or.inr (slot_ne (Or.inl (own_w hw 42 rfl)) (Or.inl (own_w hw 26 rfl)) (by decide) (t := .boolean) (t' := .long) (by decide) (by decide)))
  have V_b := V_b.other W7 (Ne.symm ne_a_b)
  have N7 := Fr.snoc X7 N0 g_a
  have Z7 : n0 ≤ h7.size := by rw [W7.size]; exact Z0
  have K7 := K0.wr W7 (Or.inl (List.mem_of_getElem? (i := 0) rfl))
  refine g_iload X7 hx 62 (hb hby d5_60) rfl rfl ?_
  exact g_retI X7 hx hret hlk (hb hby d5_62) (by decide) (by decide) (by rw [e7]; exact ⟨rfl, N7, K7, E_a, F_decimalSum, F_integerRadix, F_integerKind, F_value, F_realRead⟩)
set_option maxRecDepth 65536 in
set_option maxHeartbeats 40000000 in
theorem rm5_3_3 (l : Launch) (Z : State) (a0 : Array Value) (hw : ∀ d ∈ tables_1, d.before a0 Z = true) (a b : Addr) (c0 c1 c2 c3 c4 : Int32) (kA : ClassId) (u0 u1 u2 u3 u4 : Value) (h0 : Heap) (n0 : Nat) (Z0 : n0 ≤ h0.size) (g_a : n0 ≤ a) (E_a : Exa Z h0 a "gleanwell/Grammar$NumberReading") (F_decimalSum : Fld Z h0 a "gleanwell/Grammar$NumberReading" "decimalSum" "J" u0) (F_integerRadix : Fld Z h0 a "gleanwell/Grammar$NumberReading" "integerRadix" "I" u1) (F_integerKind : Fld Z h0 a "gleanwell/Grammar$NumberReading" "integerKind" "I" u2) (F_value : Fld Z h0 a "gleanwell/Grammar$NumberReading" "value" "J" u3) (F_realRead : Fld Z h0 a "gleanwell/Grammar$NumberReading" "realRead" "Z" u4) (V_b : Arv Z h0 b kA .char (6 : Int32) [(.int c0), (.int c1), (.int c2), (.int c3), (.int c4), (.int (32 : Int32))] (.int (0 : Int32))) (ne_a_b : a ≠ b) (hs3 : own_dig c3 = 0) :
    OwnMet l Z (⟨"gleanwell/Grammar$NumberReading", "sumDecimalDigits", "([CI)I"⟩ : MethodName) prog_28_method_5_code 8 (some .int) [] ({ frames := 0, cells := 0, slots := 0, locals := 0 } : Room) [(.ref a), (.ref b), (.int (3 : Int32))] h0 (fun v h L => v = some (.int 3) ∧ Fr n0 L ∧ Keep h0 h [a] ∧ Exa Z h a "gleanwell/Grammar$NumberReading" ∧ Fld Z h a "gleanwell/Grammar$NumberReading" "decimalSum" "J" (.long (0 : Int64)) ∧ Fld Z h a "gleanwell/Grammar$NumberReading" "integerRadix" "I" u1 ∧ Fld Z h a "gleanwell/Grammar$NumberReading" "integerKind" "I" u2 ∧ Fld Z h a "gleanwell/Grammar$NumberReading" "value" "J" u3 ∧ Fld Z h a "gleanwell/Grammar$NumberReading" "realRead" "Z" u4) := by
  refine own_body (Ls := #[.val (.ref a), .val (.ref b), .val (.int (3 : Int32)), .unset, .unset, .unset, .unset, .unset]) (plainFor_of_name own_pn1) (fun m => by first | (simp [entryFrame, mkF, argsToLocals, Value.category]; done) | rfl) (fun p e s m below meth cO T0 hx hby hml hown hnm hret hlk hZ X0 e0 => ?_)
  have hown : s.vm.findClass "gleanwell/Grammar$NumberReading" = some m.cls := hown
  have N0 := Fr.nil n0
  have K0 := Keep.refl h0 [a]
  refine g_lconst X0 hx 1 (0 : Int64) (hb hby d5_0) (by decide) rfl ?_
  refine g_lstoreN X0 hx 2 #[.val (.ref a), .val (.ref b), .val (.int (3 : Int32)), .val (.long (0 : Int64)), .second, .unset, .unset, .unset] (hb hby d5_1) rfl rfl ?_
  refine g_iloadN X0 hx 3 (hb hby d5_2) rfl rfl ?_
  refine g_istore X0 hx 5 #[.val (.ref a), .val (.ref b), .val (.int (3 : Int32)), .val (.long (0 : Int64)), .second, .val (.int (3 : Int32)), .unset, .unset] (hb hby d5_3) rfl rfl ?_
  refine g_aloadN X0 hx 6 (hb hby d5_5) rfl rfl rfl ?_
  refine g_iload X0 hx 8 (hb hby d5_6) rfl rfl ?_
  refine g_caload X0 hx 9 hZ e0 V_b ⟨by decide, by decide⟩ (show _ = (.int c3) from rfl) (hb hby d5_8) rfl ?_
  refine g_istore X0 hx 11 #[.val (.ref a), .val (.ref b), .val (.int (3 : Int32)), .val (.long (0 : Int64)), .second, .val (.int (3 : Int32)), .val (.int c3), .unset] (hb hby d5_9) rfl rfl ?_
  refine g_iload X0 hx 13 (hb hby d5_11) rfl rfl ?_
  refine g_bipush X0 hx 15 (48 : Int32) (hb hby d5_13) (by decide) rfl ?_
  refine g_isub X0 hx 16 (c3 - (48 : Int32)) (hb hby d5_15) rfl rfl ?_
  refine g_istore X0 hx 18 #[.val (.ref a), .val (.ref b), .val (.int (3 : Int32)), .val (.long (0 : Int64)), .second, .val (.int (3 : Int32)), .val (.int c3), .val (.int (c3 - (48 : Int32)))] (hb hby d5_16) rfl rfl ?_
  refine g_iload X0 hx 20 (hb hby d5_18) rfl rfl ?_
  by_cases hc1 : (c3 - (48 : Int32)) < (0 : Int32)
  · refine g_ifT X0 hx 55 (hb hby d5_20) ((if0 _ _).trans (tlt hc1).1) (by decide) (by decide) ?_
    refine g_aloadN X0 hx 56 (hb hby d5_55) rfl rfl rfl ?_
    refine g_lloadN X0 hx 57 (hb hby d5_56) rfl rfl ?_
    refine g_putF X0 hx 60 hZ hown (host := "") (Or.inl (own_w hw 25 rfl)) Via.refl e0 F_decimalSum E_a (Or.inl (own_w hw 26 rfl)) (own_w hw 11 rfl) (ty := .long) (by decide) rfl rfl (hb hby d5_57) rfl (fun T2 h2 X2 e2 W2 => ?_)
    have E_a := E_a.wr W2
    have F_decimalSum := F_decimalSum.same W2
    have F_integerRadix := F_integerRadix.other W2 (Or.inr (slot_ne (Or.inl (own_w hw 36 rfl)) (Or.inl (own_w hw 26 rfl)) (by decide) (t := .int) (t' := .long) (by decide) (by decide)))
    have F_integerKind := F_integerKind.other W2 (Or.inr (slot_ne (Or.inl (own_w hw 38 rfl)) (Or.inl (own_w hw 26 rfl)) (by decide) (t := .int) (t' := .long) (by decide) (by decide)))
    have F_value := F_value.other W2 (Or.inr (slot_ne (Or.inl (own_w hw 40 rfl)) (Or.inl (own_w hw 26 rfl)) (by decide) (t := .long) (t' := .long) (by decide) (by decide)))
    have F_realRead := F_realRead.other W2 (Or.inr (slot_ne (Or.inl (own_w hw 42 rfl)) (Or.inl (own_w hw 26 rfl)) (by decide) (t := .boolean) (t' := .long) (by decide) (by decide)))
    have V_b := V_b.other W2 (Ne.symm ne_a_b)
    have N2 := Fr.snoc X2 N0 g_a
    have Z2 : n0 ≤ h2.size := by rw [W2.size]; exact Z0
    have K2 := K0.wr W2 (Or.inl (List.mem_of_getElem? (i := 0) rfl))
    refine g_iload X2 hx 62 (hb hby d5_60) rfl rfl ?_
    exact g_retI X2 hx hret hlk (hb hby d5_62) (by decide) (by decide) (by rw [e2]; exact ⟨rfl, N2, K2, E_a, F_decimalSum, F_integerRadix, F_integerKind, F_value, F_realRead⟩)
  · refine g_ifF X0 hx 23 (hb hby d5_20) ((if0 _ _).trans (flt hc1).1) rfl ?_
    refine g_iload X0 hx 25 (hb hby d5_23) rfl rfl ?_
    refine g_bipush X0 hx 27 (9 : Int32) (hb hby d5_25) (by decide) rfl ?_
    have hk3 : (9 : Int32) < (c3 - (48 : Int32)) := (own_dig_f hs3).resolve_left hc1
    refine g_icF X0 hx 30 (hb hby d5_27) (tlt hk3).2.2.2 rfl ?_
    refine g_goto X0 hx 55 (hb hby d5_30) (by decide) (by decide) ?_
    refine g_aloadN X0 hx 56 (hb hby d5_55) rfl rfl rfl ?_
    refine g_lloadN X0 hx 57 (hb hby d5_56) rfl rfl ?_
    refine g_putF X0 hx 60 hZ hown (host := "") (Or.inl (own_w hw 25 rfl)) Via.refl e0 F_decimalSum E_a (Or.inl (own_w hw 26 rfl)) (own_w hw 11 rfl) (ty := .long) (by decide) rfl rfl (hb hby d5_57) rfl (fun T4 h4 X4 e4 W4 => ?_)
    have E_a := E_a.wr W4
    have F_decimalSum := F_decimalSum.same W4
    have F_integerRadix := F_integerRadix.other W4 (Or.inr (slot_ne (Or.inl (own_w hw 36 rfl)) (Or.inl (own_w hw 26 rfl)) (by decide) (t := .int) (t' := .long) (by decide) (by decide)))
    have F_integerKind := F_integerKind.other W4 (Or.inr (slot_ne (Or.inl (own_w hw 38 rfl)) (Or.inl (own_w hw 26 rfl)) (by decide) (t := .int) (t' := .long) (by decide) (by decide)))
    have F_value := F_value.other W4 (Or.inr (slot_ne (Or.inl (own_w hw 40 rfl)) (Or.inl (own_w hw 26 rfl)) (by decide) (t := .long) (t' := .long) (by decide) (by decide)))
    have F_realRead := F_realRead.other W4 (Or.inr (slot_ne (Or.inl (own_w hw 42 rfl)) (Or.inl (own_w hw 26 rfl)) (by decide) (t := .boolean) (t' := .long) (by decide) (by decide)))
    have V_b := V_b.other W4 (Ne.symm ne_a_b)
    have N4 := Fr.snoc X4 N0 g_a
    have Z4 : n0 ≤ h4.size := by rw [W4.size]; exact Z0
    have K4 := K0.wr W4 (Or.inl (List.mem_of_getElem? (i := 0) rfl))
    refine g_iload X4 hx 62 (hb hby d5_60) rfl rfl ?_
    exact g_retI X4 hx hret hlk (hb hby d5_62) (by decide) (by decide) (by rw [e4]; exact ⟨rfl, N4, K4, E_a, F_decimalSum, F_integerRadix, F_integerKind, F_value, F_realRead⟩)
set_option maxRecDepth 65536 in
set_option maxHeartbeats 40000000 in
theorem rm5_3_4 (l : Launch) (Z : State) (a0 : Array Value) (hw : ∀ d ∈ tables_1, d.before a0 Z = true) (a b : Addr) (c0 c1 c2 c3 c4 : Int32) (kA : ClassId) (u0 u1 u2 u3 u4 : Value) (h0 : Heap) (n0 : Nat) (Z0 : n0 ≤ h0.size) (g_a : n0 ≤ a) (E_a : Exa Z h0 a "gleanwell/Grammar$NumberReading") (F_decimalSum : Fld Z h0 a "gleanwell/Grammar$NumberReading" "decimalSum" "J" u0) (F_integerRadix : Fld Z h0 a "gleanwell/Grammar$NumberReading" "integerRadix" "I" u1) (F_integerKind : Fld Z h0 a "gleanwell/Grammar$NumberReading" "integerKind" "I" u2) (F_value : Fld Z h0 a "gleanwell/Grammar$NumberReading" "value" "J" u3) (F_realRead : Fld Z h0 a "gleanwell/Grammar$NumberReading" "realRead" "Z" u4) (V_b : Arv Z h0 b kA .char (6 : Int32) [(.int c0), (.int c1), (.int c2), (.int c3), (.int c4), (.int (32 : Int32))] (.int (0 : Int32))) (ne_a_b : a ≠ b) (hd3 : ¬ own_dig c3 = 0) (hs4 : own_dig c4 = 0) :
    OwnMet l Z (⟨"gleanwell/Grammar$NumberReading", "sumDecimalDigits", "([CI)I"⟩ : MethodName) prog_28_method_5_code 8 (some .int) [] ({ frames := 0, cells := 0, slots := 0, locals := 0 } : Room) [(.ref a), (.ref b), (.int (3 : Int32))] h0 (fun v h L => v = some (.int 4) ∧ Fr n0 L ∧ Keep h0 h [a] ∧ Exa Z h a "gleanwell/Grammar$NumberReading" ∧ Fld Z h a "gleanwell/Grammar$NumberReading" "decimalSum" "J" (.long ((0 : Int64) - (c3 - (48 : Int32)).toInt64)) ∧ Fld Z h a "gleanwell/Grammar$NumberReading" "integerRadix" "I" u1 ∧ Fld Z h a "gleanwell/Grammar$NumberReading" "integerKind" "I" u2 ∧ Fld Z h a "gleanwell/Grammar$NumberReading" "value" "J" u3 ∧ Fld Z h a "gleanwell/Grammar$NumberReading" "realRead" "Z" u4) := by
  refine own_body (Ls := #[.val (.ref a), .val (.ref b), .val (.int (3 : Int32)), .unset, .unset, .unset, .unset, .unset]) (plainFor_of_name own_pn1) (fun m => by first | (simp [entryFrame, mkF, argsToLocals, Value.category]; done) | rfl) (fun p e s m below meth cO T0 hx hby hml hown hnm hret hlk hZ X0 e0 => ?_)
  have hown : s.vm.findClass "gleanwell/Grammar$NumberReading" = some m.cls := hown
  have N0 := Fr.nil n0
  have K0 := Keep.refl h0 [a]
  refine g_lconst X0 hx 1 (0 : Int64) (hb hby d5_0) (by decide) rfl ?_
  refine g_lstoreN X0 hx 2 #[.val (.ref a), .val (.ref b), .val (.int (3 : Int32)), .val (.long (0 : Int64)), .second, .unset, .unset, .unset] (hb hby d5_1) rfl rfl ?_
  refine g_iloadN X0 hx 3 (hb hby d5_2) rfl rfl ?_
  refine g_istore X0 hx 5 #[.val (.ref a), .val (.ref b), .val (.int (3 : Int32)), .val (.long (0 : Int64)), .second, .val (.int (3 : Int32)), .unset, .unset] (hb hby d5_3) rfl rfl ?_
  refine g_aloadN X0 hx 6 (hb hby d5_5) rfl rfl rfl ?_
  refine g_iload X0 hx 8 (hb hby d5_6) rfl rfl ?_
  refine g_caload X0 hx 9 hZ e0 V_b ⟨by decide, by decide⟩ (show _ = (.int c3) from rfl) (hb hby d5_8) rfl ?_
  refine g_istore X0 hx 11 #[.val (.ref a), .val (.ref b), .val (.int (3 : Int32)), .val (.long (0 : Int64)), .second, .val (.int (3 : Int32)), .val (.int c3), .unset] (hb hby d5_9) rfl rfl ?_
  refine g_iload X0 hx 13 (hb hby d5_11) rfl rfl ?_
  refine g_bipush X0 hx 15 (48 : Int32) (hb hby d5_13) (by decide) rfl ?_
  refine g_isub X0 hx 16 (c3 - (48 : Int32)) (hb hby d5_15) rfl rfl ?_
  refine g_istore X0 hx 18 #[.val (.ref a), .val (.ref b), .val (.int (3 : Int32)), .val (.long (0 : Int64)), .second, .val (.int (3 : Int32)), .val (.int c3), .val (.int (c3 - (48 : Int32)))] (hb hby d5_16) rfl rfl ?_
  refine g_iload X0 hx 20 (hb hby d5_18) rfl rfl ?_
  have hk1 : ¬ ((c3 - (48 : Int32)) < (0 : Int32)) := (own_dig_t hd3).1
  refine g_ifF X0 hx 23 (hb hby d5_20) ((if0 _ _).trans (flt hk1).1) rfl ?_
  refine g_iload X0 hx 25 (hb hby d5_23) rfl rfl ?_
  refine g_bipush X0 hx 27 (9 : Int32) (hb hby d5_25) (by decide) rfl ?_
  have hk2 : ¬ ((9 : Int32) < (c3 - (48 : Int32))) := (own_dig_t hd3).2
  refine g_icT X0 hx 33 (hb hby d5_27) (flt hk2).2.2.2 (by decide) (by decide) ?_
  refine g_ldc2J X0 hx 36 hZ hown (own_w hw 24 rfl) (hb hby d5_33) rfl ?_
  refine g_lloadN X0 hx 37 (hb hby d5_36) rfl rfl ?_
  refine g_lmul X0 hx 38 (0 : Int64) (hb hby d5_37) (by decide) rfl ?_
  refine g_iload X0 hx 40 (hb hby d5_38) rfl rfl ?_
  refine g_i2l X0 hx 41 ((c3 - (48 : Int32)).toInt64) (hb hby d5_40) rfl rfl ?_
  refine g_lsub X0 hx 42 ((0 : Int64) - ((c3 - (48 : Int32)).toInt64)) (hb hby d5_41) rfl rfl ?_
  refine g_lstoreN X0 hx 43 #[.val (.ref a), .val (.ref b), .val (.int (3 : Int32)), .val (.long ((0 : Int64) - ((c3 - (48 : Int32)).toInt64))), .second, .val (.int (3 : Int32)), .val (.int c3), .val (.int (c3 - (48 : Int32)))] (hb hby d5_42) rfl rfl ?_
  refine g_aloadN X0 hx 44 (hb hby d5_43) rfl rfl rfl ?_
  refine g_iinc X0 hx 47 (4 : Int32) #[.val (.ref a), .val (.ref b), .val (.int (3 : Int32)), .val (.long ((0 : Int64) - ((c3 - (48 : Int32)).toInt64))), .second, .val (.int (4 : Int32)), .val (.int c3), .val (.int (c3 - (48 : Int32)))] (hb hby d5_44) rfl (by decide) rfl rfl ?_
  refine g_iload X0 hx 49 (hb hby d5_47) rfl rfl ?_
  refine g_caload X0 hx 50 hZ e0 V_b ⟨by decide, by decide⟩ (show _ = (.int c4) from rfl) (hb hby d5_49) rfl ?_
  refine g_istore X0 hx 52 #[.val (.ref a), .val (.ref b), .val (.int (3 : Int32)), .val (.long ((0 : Int64) - ((c3 - (48 : Int32)).toInt64))), .second, .val (.int (4 : Int32)), .val (.int c4), .val (.int (c3 - (48 : Int32)))] (hb hby d5_50) rfl rfl ?_
  refine g_goto X0 hx 11 (hb hby d5_52) (by decide) (by decide) ?_
  refine g_iload X0 hx 13 (hb hby d5_11) rfl rfl ?_
  refine g_bipush X0 hx 15 (48 : Int32) (hb hby d5_13) (by decide) rfl ?_
  refine g_isub X0 hx 16 (c4 - (48 : Int32)) (hb hby d5_15) rfl rfl ?_
  refine g_istore X0 hx 18 #[.val (.ref a), .val (.ref b), .val (.int (3 : Int32)), .val (.long ((0 : Int64) - ((c3 - (48 : Int32)).toInt64))), .second, .val (.int (4 : Int32)), .val (.int c4), .val (.int (c4 - (48 : Int32)))] (hb hby d5_16) rfl rfl ?_
  refine g_iload X0 hx 20 (hb hby d5_18) rfl rfl ?_
  by_cases hc3 : (c4 - (48 : Int32)) < (0 : Int32)
  · refine g_ifT X0 hx 55 (hb hby d5_20) ((if0 _ _).trans (tlt hc3).1) (by decide) (by decide) ?_
    refine g_aloadN X0 hx 56 (hb hby d5_55) rfl rfl rfl ?_
    refine g_lloadN X0 hx 57 (hb hby d5_56) rfl rfl ?_
    refine g_putF X0 hx 60 hZ hown (host := "") (Or.inl (own_w hw 25 rfl)) Via.refl e0 F_decimalSum E_a (Or.inl (own_w hw 26 rfl)) (own_w hw 11 rfl) (ty := .long) (by decide) rfl rfl (hb hby d5_57) rfl (fun T4 h4 X4 e4 W4 => ?_)
    have E_a := E_a.wr W4
    have F_decimalSum := F_decimalSum.same W4
    have F_integerRadix := F_integerRadix.other W4 (Or.inr (slot_ne (Or.inl (own_w hw 36 rfl)) (Or.inl (own_w hw 26 rfl)) (by decide) (t := .int) (t' := .long) (by decide) (by decide)))
    have F_integerKind := F_integerKind.other W4 (Or.inr (slot_ne (Or.inl (own_w hw 38 rfl)) (Or.inl (own_w hw 26 rfl)) (by decide) (t := .int) (t' := .long) (by decide) (by decide)))
    have F_value := F_value.other W4 (Or.inr (slot_ne (Or.inl (own_w hw 40 rfl)) (Or.inl (own_w hw 26 rfl)) (by decide) (t := .long) (t' := .long) (by decide) (by decide)))
    have F_realRead := F_realRead.other W4 (Or.inr (slot_ne (Or.inl (own_w hw 42 rfl)) (Or.inl (own_w hw 26 rfl)) (by decide) (t := .boolean) (t' := .long) (by decide) (by decide)))
    have V_b := V_b.other W4 (Ne.symm ne_a_b)
    have N4 := Fr.snoc X4 N0 g_a
    have Z4 : n0 ≤ h4.size := by rw [W4.size]; exact Z0
    have K4 := K0.wr W4 (Or.inl (List.mem_of_getElem? (i := 0) rfl))
    refine g_iload X4 hx 62 (hb hby d5_60) rfl rfl ?_
    exact g_retI X4 hx hret hlk (hb hby d5_62) (by decide) (by decide) (by rw [e4]; exact ⟨rfl, N4, K4, E_a, F_decimalSum, F_integerRadix, F_integerKind, F_value, F_realRead⟩)
  · refine g_ifF X0 hx 23 (hb hby d5_20) ((if0 _ _).trans (flt hc3).1) rfl ?_
    refine g_iload X0 hx 25 (hb hby d5_23) rfl rfl ?_
    refine g_bipush X0 hx 27 (9 : Int32) (hb hby d5_25) (by decide) rfl ?_
    have hk5 : (9 : Int32) < (c4 - (48 : Int32)) := (own_dig_f hs4).resolve_left hc3
    refine g_icF X0 hx 30 (hb hby d5_27) (tlt hk5).2.2.2 rfl ?_
    refine g_goto X0 hx 55 (hb hby d5_30) (by decide) (by decide) ?_
    refine g_aloadN X0 hx 56 (hb hby d5_55) rfl rfl rfl ?_
    refine g_lloadN X0 hx 57 (hb hby d5_56) rfl rfl ?_
    refine g_putF X0 hx 60 hZ hown (host := "") (Or.inl (own_w hw 25 rfl)) Via.refl e0 F_decimalSum E_a (Or.inl (own_w hw 26 rfl)) (own_w hw 11 rfl) (ty := .long) (by decide) rfl rfl (hb hby d5_57) rfl (fun T6 h6 X6 e6 W6 => ?_)
    have E_a := E_a.wr W6
    have F_decimalSum := F_decimalSum.same W6
    have F_integerRadix := F_integerRadix.other W6 (Or.inr (slot_ne (Or.inl (own_w hw 36 rfl)) (Or.inl (own_w hw 26 rfl)) (by decide) (t := .int) (t' := .long) (by decide) (by decide)))
    have F_integerKind := F_integerKind.other W6 (Or.inr (slot_ne (Or.inl (own_w hw 38 rfl)) (Or.inl (own_w hw 26 rfl)) (by decide) (t := .int) (t' := .long) (by decide) (by decide)))
    have F_value := F_value.other W6 (Or.inr (slot_ne (Or.inl (own_w hw 40 rfl)) (Or.inl (own_w hw 26 rfl)) (by decide) (t := .long) (t' := .long) (by decide) (by decide)))
    have F_realRead := F_realRead.other W6 (Or.inr (slot_ne (Or.inl (own_w hw 42 rfl)) (Or.inl (own_w hw 26 rfl)) (by decide) (t := .boolean) (t' := .long) (by decide) (by decide)))
    have V_b := V_b.other W6 (Ne.symm ne_a_b)
    have N6 := Fr.snoc X6 N0 g_a
    have Z6 : n0 ≤ h6.size := by rw [W6.size]; exact Z0
    have K6 := K0.wr W6 (Or.inl (List.mem_of_getElem? (i := 0) rfl))
    refine g_iload X6 hx 62 (hb hby d5_60) rfl rfl ?_
    exact g_retI X6 hx hret hlk (hb hby d5_62) (by decide) (by decide) (by rw [e6]; exact ⟨rfl, N6, K6, E_a, F_decimalSum, F_integerRadix, F_integerKind, F_value, F_realRead⟩)
set_option maxRecDepth 65536 in
set_option maxHeartbeats 40000000 in
theorem rm5_3_5 (l : Launch) (Z : State) (a0 : Array Value) (hw : ∀ d ∈ tables_1, d.before a0 Z = true) (a b : Addr) (c0 c1 c2 c3 c4 : Int32) (kA : ClassId) (u0 u1 u2 u3 u4 : Value) (h0 : Heap) (n0 : Nat) (Z0 : n0 ≤ h0.size) (g_a : n0 ≤ a) (E_a : Exa Z h0 a "gleanwell/Grammar$NumberReading") (F_decimalSum : Fld Z h0 a "gleanwell/Grammar$NumberReading" "decimalSum" "J" u0) (F_integerRadix : Fld Z h0 a "gleanwell/Grammar$NumberReading" "integerRadix" "I" u1) (F_integerKind : Fld Z h0 a "gleanwell/Grammar$NumberReading" "integerKind" "I" u2) (F_value : Fld Z h0 a "gleanwell/Grammar$NumberReading" "value" "J" u3) (F_realRead : Fld Z h0 a "gleanwell/Grammar$NumberReading" "realRead" "Z" u4) (V_b : Arv Z h0 b kA .char (6 : Int32) [(.int c0), (.int c1), (.int c2), (.int c3), (.int c4), (.int (32 : Int32))] (.int (0 : Int32))) (ne_a_b : a ≠ b) (hd3 : ¬ own_dig c3 = 0) (hd4 : ¬ own_dig c4 = 0) :
    OwnMet l Z (⟨"gleanwell/Grammar$NumberReading", "sumDecimalDigits", "([CI)I"⟩ : MethodName) prog_28_method_5_code 8 (some .int) [] ({ frames := 0, cells := 0, slots := 0, locals := 0 } : Room) [(.ref a), (.ref b), (.int (3 : Int32))] h0 (fun v h L => v = some (.int 5) ∧ Fr n0 L ∧ Keep h0 h [a] ∧ Exa Z h a "gleanwell/Grammar$NumberReading" ∧ Fld Z h a "gleanwell/Grammar$NumberReading" "decimalSum" "J" (.long ((10 : Int64) * ((0 : Int64) - (c3 - (48 : Int32)).toInt64) - (c4 - (48 : Int32)).toInt64)) ∧ Fld Z h a "gleanwell/Grammar$NumberReading" "integerRadix" "I" u1 ∧ Fld Z h a "gleanwell/Grammar$NumberReading" "integerKind" "I" u2 ∧ Fld Z h a "gleanwell/Grammar$NumberReading" "value" "J" u3 ∧ Fld Z h a "gleanwell/Grammar$NumberReading" "realRead" "Z" u4) := by
  refine own_body (Ls := #[.val (.ref a), .val (.ref b), .val (.int (3 : Int32)), .unset, .unset, .unset, .unset, .unset]) (plainFor_of_name own_pn1) (fun m => by first | (simp [entryFrame, mkF, argsToLocals, Value.category]; done) | rfl) (fun p e s m below meth cO T0 hx hby hml hown hnm hret hlk hZ X0 e0 => ?_)
  have hown : s.vm.findClass "gleanwell/Grammar$NumberReading" = some m.cls := hown
  have N0 := Fr.nil n0
  have K0 := Keep.refl h0 [a]
  refine g_lconst X0 hx 1 (0 : Int64) (hb hby d5_0) (by decide) rfl ?_
  refine g_lstoreN X0 hx 2 #[.val (.ref a), .val (.ref b), .val (.int (3 : Int32)), .val (.long (0 : Int64)), .second, .unset, .unset, .unset] (hb hby d5_1) rfl rfl ?_
  refine g_iloadN X0 hx 3 (hb hby d5_2) rfl rfl ?_
  refine g_istore X0 hx 5 #[.val (.ref a), .val (.ref b), .val (.int (3 : Int32)), .val (.long (0 : Int64)), .second, .val (.int (3 : Int32)), .unset, .unset] (hb hby d5_3) rfl rfl ?_
  refine g_aloadN X0 hx 6 (hb hby d5_5) rfl rfl rfl ?_
  refine g_iload X0 hx 8 (hb hby d5_6) rfl rfl ?_
  refine g_caload X0 hx 9 hZ e0 V_b ⟨by decide, by decide⟩ (show _ = (.int c3) from rfl) (hb hby d5_8) rfl ?_
  refine g_istore X0 hx 11 #[.val (.ref a), .val (.ref b), .val (.int (3 : Int32)), .val (.long (0 : Int64)), .second, .val (.int (3 : Int32)), .val (.int c3), .unset] (hb hby d5_9) rfl rfl ?_
  refine g_iload X0 hx 13 (hb hby d5_11) rfl rfl ?_
  refine g_bipush X0 hx 15 (48 : Int32) (hb hby d5_13) (by decide) rfl ?_
  refine g_isub X0 hx 16 (c3 - (48 : Int32)) (hb hby d5_15) rfl rfl ?_
  refine g_istore X0 hx 18 #[.val (.ref a), .val (.ref b), .val (.int (3 : Int32)), .val (.long (0 : Int64)), .second, .val (.int (3 : Int32)), .val (.int c3), .val (.int (c3 - (48 : Int32)))] (hb hby d5_16) rfl rfl ?_
  refine g_iload X0 hx 20 (hb hby d5_18) rfl rfl ?_
  have hk1 : ¬ ((c3 - (48 : Int32)) < (0 : Int32)) := (own_dig_t hd3).1
  refine g_ifF X0 hx 23 (hb hby d5_20) ((if0 _ _).trans (flt hk1).1) rfl ?_
  refine g_iload X0 hx 25 (hb hby d5_23) rfl rfl ?_
  refine g_bipush X0 hx 27 (9 : Int32) (hb hby d5_25) (by decide) rfl ?_
  have hk2 : ¬ ((9 : Int32) < (c3 - (48 : Int32))) := (own_dig_t hd3).2
  refine g_icT X0 hx 33 (hb hby d5_27) (flt hk2).2.2.2 (by decide) (by decide) ?_
  refine g_ldc2J X0 hx 36 hZ hown (own_w hw 24 rfl) (hb hby d5_33) rfl ?_
  refine g_lloadN X0 hx 37 (hb hby d5_36) rfl rfl ?_
  refine g_lmul X0 hx 38 (0 : Int64) (hb hby d5_37) (by decide) rfl ?_
  refine g_iload X0 hx 40 (hb hby d5_38) rfl rfl ?_
  refine g_i2l X0 hx 41 ((c3 - (48 : Int32)).toInt64) (hb hby d5_40) rfl rfl ?_
  refine g_lsub X0 hx 42 ((0 : Int64) - ((c3 - (48 : Int32)).toInt64)) (hb hby d5_41) rfl rfl ?_
  refine g_lstoreN X0 hx 43 #[.val (.ref a), .val (.ref b), .val (.int (3 : Int32)), .val (.long ((0 : Int64) - ((c3 - (48 : Int32)).toInt64))), .second, .val (.int (3 : Int32)), .val (.int c3), .val (.int (c3 - (48 : Int32)))] (hb hby d5_42) rfl rfl ?_
  refine g_aloadN X0 hx 44 (hb hby d5_43) rfl rfl rfl ?_
  refine g_iinc X0 hx 47 (4 : Int32) #[.val (.ref a), .val (.ref b), .val (.int (3 : Int32)), .val (.long ((0 : Int64) - ((c3 - (48 : Int32)).toInt64))), .second, .val (.int (4 : Int32)), .val (.int c3), .val (.int (c3 - (48 : Int32)))] (hb hby d5_44) rfl (by decide) rfl rfl ?_
  refine g_iload X0 hx 49 (hb hby d5_47) rfl rfl ?_
  refine g_caload X0 hx 50 hZ e0 V_b ⟨by decide, by decide⟩ (show _ = (.int c4) from rfl) (hb hby d5_49) rfl ?_
  refine g_istore X0 hx 52 #[.val (.ref a), .val (.ref b), .val (.int (3 : Int32)), .val (.long ((0 : Int64) - ((c3 - (48 : Int32)).toInt64))), .second, .val (.int (4 : Int32)), .val (.int c4), .val (.int (c3 - (48 : Int32)))] (hb hby d5_50) rfl rfl ?_
  refine g_goto X0 hx 11 (hb hby d5_52) (by decide) (by decide) ?_
  refine g_iload X0 hx 13 (hb hby d5_11) rfl rfl ?_
  refine g_bipush X0 hx 15 (48 : Int32) (hb hby d5_13) (by decide) rfl ?_
  refine g_isub X0 hx 16 (c4 - (48 : Int32)) (hb hby d5_15) rfl rfl ?_
  refine g_istore X0 hx 18 #[.val (.ref a), .val (.ref b), .val (.int (3 : Int32)), .val (.long ((0 : Int64) - ((c3 - (48 : Int32)).toInt64))), .second, .val (.int (4 : Int32)), .val (.int c4), .val (.int (c4 - (48 : Int32)))] (hb hby d5_16) rfl rfl ?_
  refine g_iload X0 hx 20 (hb hby d5_18) rfl rfl ?_
  have hk3 : ¬ ((c4 - (48 : Int32)) < (0 : Int32)) := (own_dig_t hd4).1
  refine g_ifF X0 hx 23 (hb hby d5_20) ((if0 _ _).trans (flt hk3).1) rfl ?_
  refine g_iload X0 hx 25 (hb hby d5_23) rfl rfl ?_
  refine g_bipush X0 hx 27 (9 : Int32) (hb hby d5_25) (by decide) rfl ?_
  have hk4 : ¬ ((9 : Int32) < (c4 - (48 : Int32))) := (own_dig_t hd4).2
  refine g_icT X0 hx 33 (hb hby d5_27) (flt hk4).2.2.2 (by decide) (by decide) ?_
  refine g_ldc2J X0 hx 36 hZ hown (own_w hw 24 rfl) (hb hby d5_33) rfl ?_
  refine g_lloadN X0 hx 37 (hb hby d5_36) rfl rfl ?_
  refine g_lmul X0 hx 38 ((10 : Int64) * ((0 : Int64) - ((c3 - (48 : Int32)).toInt64))) (hb hby d5_37) rfl rfl ?_
  refine g_iload X0 hx 40 (hb hby d5_38) rfl rfl ?_
  refine g_i2l X0 hx 41 ((c4 - (48 : Int32)).toInt64) (hb hby d5_40) rfl rfl ?_
  refine g_lsub X0 hx 42 (((10 : Int64) * ((0 : Int64) - ((c3 - (48 : Int32)).toInt64))) - ((c4 - (48 : Int32)).toInt64)) (hb hby d5_41) rfl rfl ?_
  refine g_lstoreN X0 hx 43 #[.val (.ref a), .val (.ref b), .val (.int (3 : Int32)), .val (.long (((10 : Int64) * ((0 : Int64) - ((c3 - (48 : Int32)).toInt64))) - ((c4 - (48 : Int32)).toInt64))), .second, .val (.int (4 : Int32)), .val (.int c4), .val (.int (c4 - (48 : Int32)))] (hb hby d5_42) rfl rfl ?_
  refine g_aloadN X0 hx 44 (hb hby d5_43) rfl rfl rfl ?_
  refine g_iinc X0 hx 47 (5 : Int32) #[.val (.ref a), .val (.ref b), .val (.int (3 : Int32)), .val (.long (((10 : Int64) * ((0 : Int64) - ((c3 - (48 : Int32)).toInt64))) - ((c4 - (48 : Int32)).toInt64))), .second, .val (.int (5 : Int32)), .val (.int c4), .val (.int (c4 - (48 : Int32)))] (hb hby d5_44) rfl (by decide) rfl rfl ?_
  refine g_iload X0 hx 49 (hb hby d5_47) rfl rfl ?_
  refine g_caload X0 hx 50 hZ e0 V_b ⟨by decide, by decide⟩ (show _ = (.int (32 : Int32)) from rfl) (hb hby d5_49) rfl ?_
  refine g_istore X0 hx 52 #[.val (.ref a), .val (.ref b), .val (.int (3 : Int32)), .val (.long (((10 : Int64) * ((0 : Int64) - ((c3 - (48 : Int32)).toInt64))) - ((c4 - (48 : Int32)).toInt64))), .second, .val (.int (5 : Int32)), .val (.int (32 : Int32)), .val (.int (c4 - (48 : Int32)))] (hb hby d5_50) rfl rfl ?_
  refine g_goto X0 hx 11 (hb hby d5_52) (by decide) (by decide) ?_
  refine g_iload X0 hx 13 (hb hby d5_11) rfl rfl ?_
  refine g_bipush X0 hx 15 (48 : Int32) (hb hby d5_13) (by decide) rfl ?_
  refine g_isub X0 hx 16 (-16 : Int32) (hb hby d5_15) (by decide) rfl ?_
  refine g_istore X0 hx 18 #[.val (.ref a), .val (.ref b), .val (.int (3 : Int32)), .val (.long (((10 : Int64) * ((0 : Int64) - ((c3 - (48 : Int32)).toInt64))) - ((c4 - (48 : Int32)).toInt64))), .second, .val (.int (5 : Int32)), .val (.int (32 : Int32)), .val (.int (-16 : Int32))] (hb hby d5_16) rfl rfl ?_
  refine g_iload X0 hx 20 (hb hby d5_18) rfl rfl ?_
  refine g_ifT X0 hx 55 (hb hby d5_20) (by decide) (by decide) (by decide) ?_
  refine g_aloadN X0 hx 56 (hb hby d5_55) rfl rfl rfl ?_
  refine g_lloadN X0 hx 57 (hb hby d5_56) rfl rfl ?_
  refine g_putF X0 hx 60 hZ hown (host := "") (Or.inl (own_w hw 25 rfl)) Via.refl e0 F_decimalSum E_a (Or.inl (own_w hw 26 rfl)) (own_w hw 11 rfl) (ty := .long) (by decide) rfl rfl (hb hby d5_57) rfl (fun T5 h5 X5 e5 W5 => ?_)
  have E_a := E_a.wr W5
  have F_decimalSum := F_decimalSum.same W5
  have F_integerRadix := F_integerRadix.other W5 (Or.inr (slot_ne (Or.inl (own_w hw 36 rfl)) (Or.inl (own_w hw 26 rfl)) (by decide) (t := .int) (t' := .long) (by decide) (by decide)))
  have F_integerKind := F_integerKind.other W5 (Or.inr (slot_ne (Or.inl (own_w hw 38 rfl)) (Or.inl (own_w hw 26 rfl)) (by decide) (t := .int) (t' := .long) (by decide) (by decide)))
  have F_value := F_value.other W5 (Or.inr (slot_ne (Or.inl (own_w hw 40 rfl)) (Or.inl (own_w hw 26 rfl)) (by decide) (t := .long) (t' := .long) (by decide) (by decide)))
  have F_realRead := F_realRead.other W5 (Or.inr (slot_ne (Or.inl (own_w hw 42 rfl)) (Or.inl (own_w hw 26 rfl)) (by decide) (t := .boolean) (t' := .long) (by decide) (by decide)))
  have V_b := V_b.other W5 (Ne.symm ne_a_b)
  have N5 := Fr.snoc X5 N0 g_a
  have Z5 : n0 ≤ h5.size := by rw [W5.size]; exact Z0
  have K5 := K0.wr W5 (Or.inl (List.mem_of_getElem? (i := 0) rfl))
  refine g_iload X5 hx 62 (hb hby d5_60) rfl rfl ?_
  exact g_retI X5 hx hret hlk (hb hby d5_62) (by decide) (by decide) (by rw [e5]; exact ⟨rfl, N5, K5, E_a, F_decimalSum, F_integerRadix, F_integerKind, F_value, F_realRead⟩)
set_option maxRecDepth 65536 in
set_option maxHeartbeats 40000000 in
theorem rm5_4_4 (l : Launch) (Z : State) (a0 : Array Value) (hw : ∀ d ∈ tables_1, d.before a0 Z = true) (a b : Addr) (c0 c1 c2 c3 c4 : Int32) (kA : ClassId) (u0 u1 u2 u3 u4 : Value) (h0 : Heap) (n0 : Nat) (Z0 : n0 ≤ h0.size) (g_a : n0 ≤ a) (E_a : Exa Z h0 a "gleanwell/Grammar$NumberReading") (F_decimalSum : Fld Z h0 a "gleanwell/Grammar$NumberReading" "decimalSum" "J" u0) (F_integerRadix : Fld Z h0 a "gleanwell/Grammar$NumberReading" "integerRadix" "I" u1) (F_integerKind : Fld Z h0 a "gleanwell/Grammar$NumberReading" "integerKind" "I" u2) (F_value : Fld Z h0 a "gleanwell/Grammar$NumberReading" "value" "J" u3) (F_realRead : Fld Z h0 a "gleanwell/Grammar$NumberReading" "realRead" "Z" u4) (V_b : Arv Z h0 b kA .char (6 : Int32) [(.int c0), (.int c1), (.int c2), (.int c3), (.int c4), (.int (32 : Int32))] (.int (0 : Int32))) (ne_a_b : a ≠ b) (hs4 : own_dig c4 = 0) :
    OwnMet l Z (⟨"gleanwell/Grammar$NumberReading", "sumDecimalDigits", "([CI)I"⟩ : MethodName) prog_28_method_5_code 8 (some .int) [] ({ frames := 0, cells := 0, slots := 0, locals := 0 } : Room) [(.ref a), (.ref b), (.int (4 : Int32))] h0 (fun v h L => v = some (.int 4) ∧ Fr n0 L ∧ Keep h0 h [a] ∧ Exa Z h a "gleanwell/Grammar$NumberReading" ∧ Fld Z h a "gleanwell/Grammar$NumberReading" "decimalSum" "J" (.long (0 : Int64)) ∧ Fld Z h a "gleanwell/Grammar$NumberReading" "integerRadix" "I" u1 ∧ Fld Z h a "gleanwell/Grammar$NumberReading" "integerKind" "I" u2 ∧ Fld Z h a "gleanwell/Grammar$NumberReading" "value" "J" u3 ∧ Fld Z h a "gleanwell/Grammar$NumberReading" "realRead" "Z" u4) := by
  refine own_body (Ls := #[.val (.ref a), .val (.ref b), .val (.int (4 : Int32)), .unset, .unset, .unset, .unset, .unset]) (plainFor_of_name own_pn1) (fun m => by first | (simp [entryFrame, mkF, argsToLocals, Value.category]; done) | rfl) (fun p e s m below meth cO T0 hx hby hml hown hnm hret hlk hZ X0 e0 => ?_)
  have hown : s.vm.findClass "gleanwell/Grammar$NumberReading" = some m.cls := hown
  have N0 := Fr.nil n0
  have K0 := Keep.refl h0 [a]
  refine g_lconst X0 hx 1 (0 : Int64) (hb hby d5_0) (by decide) rfl ?_
  refine g_lstoreN X0 hx 2 #[.val (.ref a), .val (.ref b), .val (.int (4 : Int32)), .val (.long (0 : Int64)), .second, .unset, .unset, .unset] (hb hby d5_1) rfl rfl ?_
  refine g_iloadN X0 hx 3 (hb hby d5_2) rfl rfl ?_
  refine g_istore X0 hx 5 #[.val (.ref a), .val (.ref b), .val (.int (4 : Int32)), .val (.long (0 : Int64)), .second, .val (.int (4 : Int32)), .unset, .unset] (hb hby d5_3) rfl rfl ?_
  refine g_aloadN X0 hx 6 (hb hby d5_5) rfl rfl rfl ?_
  refine g_iload X0 hx 8 (hb hby d5_6) rfl rfl ?_
  refine g_caload X0 hx 9 hZ e0 V_b ⟨by decide, by decide⟩ (show _ = (.int c4) from rfl) (hb hby d5_8) rfl ?_
  refine g_istore X0 hx 11 #[.val (.ref a), .val (.ref b), .val (.int (4 : Int32)), .val (.long (0 : Int64)), .second, .val (.int (4 : Int32)), .val (.int c4), .unset] (hb hby d5_9) rfl rfl ?_
  refine g_iload X0 hx 13 (hb hby d5_11) rfl rfl ?_
  refine g_bipush X0 hx 15 (48 : Int32) (hb hby d5_13) (by decide) rfl ?_
  refine g_isub X0 hx 16 (c4 - (48 : Int32)) (hb hby d5_15) rfl rfl ?_
  refine g_istore X0 hx 18 #[.val (.ref a), .val (.ref b), .val (.int (4 : Int32)), .val (.long (0 : Int64)), .second, .val (.int (4 : Int32)), .val (.int c4), .val (.int (c4 - (48 : Int32)))] (hb hby d5_16) rfl rfl ?_
  refine g_iload X0 hx 20 (hb hby d5_18) rfl rfl ?_
  by_cases hc1 : (c4 - (48 : Int32)) < (0 : Int32)
  · refine g_ifT X0 hx 55 (hb hby d5_20) ((if0 _ _).trans (tlt hc1).1) (by decide) (by decide) ?_
    refine g_aloadN X0 hx 56 (hb hby d5_55) rfl rfl rfl ?_
    refine g_lloadN X0 hx 57 (hb hby d5_56) rfl rfl ?_
    refine g_putF X0 hx 60 hZ hown (host := "") (Or.inl (own_w hw 25 rfl)) Via.refl e0 F_decimalSum E_a (Or.inl (own_w hw 26 rfl)) (own_w hw 11 rfl) (ty := .long) (by decide) rfl rfl (hb hby d5_57) rfl (fun T2 h2 X2 e2 W2 => ?_)
    have E_a := E_a.wr W2
    have F_decimalSum := F_decimalSum.same W2
    have F_integerRadix := F_integerRadix.other W2 (Or.inr (slot_ne (Or.inl (own_w hw 36 rfl)) (Or.inl (own_w hw 26 rfl)) (by decide) (t := .int) (t' := .long) (by decide) (by decide)))
    have F_integerKind := F_integerKind.other W2 (Or.inr (slot_ne (Or.inl (own_w hw 38 rfl)) (Or.inl (own_w hw 26 rfl)) (by decide) (t := .int) (t' := .long) (by decide) (by decide)))
    have F_value := F_value.other W2 (Or.inr (slot_ne (Or.inl (own_w hw 40 rfl)) (Or.inl (own_w hw 26 rfl)) (by decide) (t := .long) (t' := .long) (by decide) (by decide)))
    have F_realRead := F_realRead.other W2 (Or.inr (slot_ne (Or.inl (own_w hw 42 rfl)) (Or.inl (own_w hw 26 rfl)) (by decide) (t := .boolean) (t' := .long) (by decide) (by decide)))
    have V_b := V_b.other W2 (Ne.symm ne_a_b)
    have N2 := Fr.snoc X2 N0 g_a
    have Z2 : n0 ≤ h2.size := by rw [W2.size]; exact Z0
    have K2 := K0.wr W2 (Or.inl (List.mem_of_getElem? (i := 0) rfl))
    refine g_iload X2 hx 62 (hb hby d5_60) rfl rfl ?_
    exact g_retI X2 hx hret hlk (hb hby d5_62) (by decide) (by decide) (by rw [e2]; exact ⟨rfl, N2, K2, E_a, F_decimalSum, F_integerRadix, F_integerKind, F_value, F_realRead⟩)
  · refine g_ifF X0 hx 23 (hb hby d5_20) ((if0 _ _).trans (flt hc1).1) rfl ?_
    refine g_iload X0 hx 25 (hb hby d5_23) rfl rfl ?_
    refine g_bipush X0 hx 27 (9 : Int32) (hb hby d5_25) (by decide) rfl ?_
    have hk3 : (9 : Int32) < (c4 - (48 : Int32)) := (own_dig_f hs4).resolve_left hc1
    refine g_icF X0 hx 30 (hb hby d5_27) (tlt hk3).2.2.2 rfl ?_
    refine g_goto X0 hx 55 (hb hby d5_30) (by decide) (by decide) ?_
    refine g_aloadN X0 hx 56 (hb hby d5_55) rfl rfl rfl ?_
    refine g_lloadN X0 hx 57 (hb hby d5_56) rfl rfl ?_
    refine g_putF X0 hx 60 hZ hown (host := "") (Or.inl (own_w hw 25 rfl)) Via.refl e0 F_decimalSum E_a (Or.inl (own_w hw 26 rfl)) (own_w hw 11 rfl) (ty := .long) (by decide) rfl rfl (hb hby d5_57) rfl (fun T4 h4 X4 e4 W4 => ?_)
    have E_a := E_a.wr W4
    have F_decimalSum := F_decimalSum.same W4
    have F_integerRadix := F_integerRadix.other W4 (Or.inr (slot_ne (Or.inl (own_w hw 36 rfl)) (Or.inl (own_w hw 26 rfl)) (by decide) (t := .int) (t' := .long) (by decide) (by decide)))
    have F_integerKind := F_integerKind.other W4 (Or.inr (slot_ne (Or.inl (own_w hw 38 rfl)) (Or.inl (own_w hw 26 rfl)) (by decide) (t := .int) (t' := .long) (by decide) (by decide)))
    have F_value := F_value.other W4 (Or.inr (slot_ne (Or.inl (own_w hw 40 rfl)) (Or.inl (own_w hw 26 rfl)) (by decide) (t := .long) (t' := .long) (by decide) (by decide)))
    have F_realRead := F_realRead.other W4 (Or.inr (slot_ne (Or.inl (own_w hw 42 rfl)) (Or.inl (own_w hw 26 rfl)) (by decide) (t := .boolean) (t' := .long) (by decide) (by decide)))
    have V_b := V_b.other W4 (Ne.symm ne_a_b)
    have N4 := Fr.snoc X4 N0 g_a
    have Z4 : n0 ≤ h4.size := by rw [W4.size]; exact Z0
    have K4 := K0.wr W4 (Or.inl (List.mem_of_getElem? (i := 0) rfl))
    refine g_iload X4 hx 62 (hb hby d5_60) rfl rfl ?_
    exact g_retI X4 hx hret hlk (hb hby d5_62) (by decide) (by decide) (by rw [e4]; exact ⟨rfl, N4, K4, E_a, F_decimalSum, F_integerRadix, F_integerKind, F_value, F_realRead⟩)
set_option maxRecDepth 65536 in
set_option maxHeartbeats 40000000 in
theorem rm5_4_5 (l : Launch) (Z : State) (a0 : Array Value) (hw : ∀ d ∈ tables_1, d.before a0 Z = true) (a b : Addr) (c0 c1 c2 c3 c4 : Int32) (kA : ClassId) (u0 u1 u2 u3 u4 : Value) (h0 : Heap) (n0 : Nat) (Z0 : n0 ≤ h0.size) (g_a : n0 ≤ a) (E_a : Exa Z h0 a "gleanwell/Grammar$NumberReading") (F_decimalSum : Fld Z h0 a "gleanwell/Grammar$NumberReading" "decimalSum" "J" u0) (F_integerRadix : Fld Z h0 a "gleanwell/Grammar$NumberReading" "integerRadix" "I" u1) (F_integerKind : Fld Z h0 a "gleanwell/Grammar$NumberReading" "integerKind" "I" u2) (F_value : Fld Z h0 a "gleanwell/Grammar$NumberReading" "value" "J" u3) (F_realRead : Fld Z h0 a "gleanwell/Grammar$NumberReading" "realRead" "Z" u4) (V_b : Arv Z h0 b kA .char (6 : Int32) [(.int c0), (.int c1), (.int c2), (.int c3), (.int c4), (.int (32 : Int32))] (.int (0 : Int32))) (ne_a_b : a ≠ b) (hd4 : ¬ own_dig c4 = 0) :
    OwnMet l Z (⟨"gleanwell/Grammar$NumberReading", "sumDecimalDigits", "([CI)I"⟩ : MethodName) prog_28_method_5_code 8 (some .int) [] ({ frames := 0, cells := 0, slots := 0, locals := 0 } : Room) [(.ref a), (.ref b), (.int (4 : Int32))] h0 (fun v h L => v = some (.int 5) ∧ Fr n0 L ∧ Keep h0 h [a] ∧ Exa Z h a "gleanwell/Grammar$NumberReading" ∧ Fld Z h a "gleanwell/Grammar$NumberReading" "decimalSum" "J" (.long ((0 : Int64) - (c4 - (48 : Int32)).toInt64)) ∧ Fld Z h a "gleanwell/Grammar$NumberReading" "integerRadix" "I" u1 ∧ Fld Z h a "gleanwell/Grammar$NumberReading" "integerKind" "I" u2 ∧ Fld Z h a "gleanwell/Grammar$NumberReading" "value" "J" u3 ∧ Fld Z h a "gleanwell/Grammar$NumberReading" "realRead" "Z" u4) := by
  refine own_body (Ls := #[.val (.ref a), .val (.ref b), .val (.int (4 : Int32)), .unset, .unset, .unset, .unset, .unset]) (plainFor_of_name own_pn1) (fun m => by first | (simp [entryFrame, mkF, argsToLocals, Value.category]; done) | rfl) (fun p e s m below meth cO T0 hx hby hml hown hnm hret hlk hZ X0 e0 => ?_)
  have hown : s.vm.findClass "gleanwell/Grammar$NumberReading" = some m.cls := hown
  have N0 := Fr.nil n0
  have K0 := Keep.refl h0 [a]
  refine g_lconst X0 hx 1 (0 : Int64) (hb hby d5_0) (by decide) rfl ?_
  refine g_lstoreN X0 hx 2 #[.val (.ref a), .val (.ref b), .val (.int (4 : Int32)), .val (.long (0 : Int64)), .second, .unset, .unset, .unset] (hb hby d5_1) rfl rfl ?_
  refine g_iloadN X0 hx 3 (hb hby d5_2) rfl rfl ?_
  refine g_istore X0 hx 5 #[.val (.ref a), .val (.ref b), .val (.int (4 : Int32)), .val (.long (0 : Int64)), .second, .val (.int (4 : Int32)), .unset, .unset] (hb hby d5_3) rfl rfl ?_
  refine g_aloadN X0 hx 6 (hb hby d5_5) rfl rfl rfl ?_
  refine g_iload X0 hx 8 (hb hby d5_6) rfl rfl ?_
  refine g_caload X0 hx 9 hZ e0 V_b ⟨by decide, by decide⟩ (show _ = (.int c4) from rfl) (hb hby d5_8) rfl ?_
  refine g_istore X0 hx 11 #[.val (.ref a), .val (.ref b), .val (.int (4 : Int32)), .val (.long (0 : Int64)), .second, .val (.int (4 : Int32)), .val (.int c4), .unset] (hb hby d5_9) rfl rfl ?_
  refine g_iload X0 hx 13 (hb hby d5_11) rfl rfl ?_
  refine g_bipush X0 hx 15 (48 : Int32) (hb hby d5_13) (by decide) rfl ?_
  refine g_isub X0 hx 16 (c4 - (48 : Int32)) (hb hby d5_15) rfl rfl ?_
  refine g_istore X0 hx 18 #[.val (.ref a), .val (.ref b), .val (.int (4 : Int32)), .val (.long (0 : Int64)), .second, .val (.int (4 : Int32)), .val (.int c4), .val (.int (c4 - (48 : Int32)))] (hb hby d5_16) rfl rfl ?_
  refine g_iload X0 hx 20 (hb hby d5_18) rfl rfl ?_
  have hk1 : ¬ ((c4 - (48 : Int32)) < (0 : Int32)) := (own_dig_t hd4).1
  refine g_ifF X0 hx 23 (hb hby d5_20) ((if0 _ _).trans (flt hk1).1) rfl ?_
  refine g_iload X0 hx 25 (hb hby d5_23) rfl rfl ?_
  refine g_bipush X0 hx 27 (9 : Int32) (hb hby d5_25) (by decide) rfl ?_
  have hk2 : ¬ ((9 : Int32) < (c4 - (48 : Int32))) := (own_dig_t hd4).2
  refine g_icT X0 hx 33 (hb hby d5_27) (flt hk2).2.2.2 (by decide) (by decide) ?_
  refine g_ldc2J X0 hx 36 hZ hown (own_w hw 24 rfl) (hb hby d5_33) rfl ?_
  refine g_lloadN X0 hx 37 (hb hby d5_36) rfl rfl ?_
  refine g_lmul X0 hx 38 (0 : Int64) (hb hby d5_37) (by decide) rfl ?_
  refine g_iload X0 hx 40 (hb hby d5_38) rfl rfl ?_
  refine g_i2l X0 hx 41 ((c4 - (48 : Int32)).toInt64) (hb hby d5_40) rfl rfl ?_
  refine g_lsub X0 hx 42 ((0 : Int64) - ((c4 - (48 : Int32)).toInt64)) (hb hby d5_41) rfl rfl ?_
  refine g_lstoreN X0 hx 43 #[.val (.ref a), .val (.ref b), .val (.int (4 : Int32)), .val (.long ((0 : Int64) - ((c4 - (48 : Int32)).toInt64))), .second, .val (.int (4 : Int32)), .val (.int c4), .val (.int (c4 - (48 : Int32)))] (hb hby d5_42) rfl rfl ?_
  refine g_aloadN X0 hx 44 (hb hby d5_43) rfl rfl rfl ?_
  refine g_iinc X0 hx 47 (5 : Int32) #[.val (.ref a), .val (.ref b), .val (.int (4 : Int32)), .val (.long ((0 : Int64) - ((c4 - (48 : Int32)).toInt64))), .second, .val (.int (5 : Int32)), .val (.int c4), .val (.int (c4 - (48 : Int32)))] (hb hby d5_44) rfl (by decide) rfl rfl ?_
  refine g_iload X0 hx 49 (hb hby d5_47) rfl rfl ?_
  refine g_caload X0 hx 50 hZ e0 V_b ⟨by decide, by decide⟩ (show _ = (.int (32 : Int32)) from rfl) (hb hby d5_49) rfl ?_
  refine g_istore X0 hx 52 #[.val (.ref a), .val (.ref b), .val (.int (4 : Int32)), .val (.long ((0 : Int64) - ((c4 - (48 : Int32)).toInt64))), .second, .val (.int (5 : Int32)), .val (.int (32 : Int32)), .val (.int (c4 - (48 : Int32)))] (hb hby d5_50) rfl rfl ?_
  refine g_goto X0 hx 11 (hb hby d5_52) (by decide) (by decide) ?_
  refine g_iload X0 hx 13 (hb hby d5_11) rfl rfl ?_
  refine g_bipush X0 hx 15 (48 : Int32) (hb hby d5_13) (by decide) rfl ?_
  refine g_isub X0 hx 16 (-16 : Int32) (hb hby d5_15) (by decide) rfl ?_
  refine g_istore X0 hx 18 #[.val (.ref a), .val (.ref b), .val (.int (4 : Int32)), .val (.long ((0 : Int64) - ((c4 - (48 : Int32)).toInt64))), .second, .val (.int (5 : Int32)), .val (.int (32 : Int32)), .val (.int (-16 : Int32))] (hb hby d5_16) rfl rfl ?_
  refine g_iload X0 hx 20 (hb hby d5_18) rfl rfl ?_
  refine g_ifT X0 hx 55 (hb hby d5_20) (by decide) (by decide) (by decide) ?_
  refine g_aloadN X0 hx 56 (hb hby d5_55) rfl rfl rfl ?_
  refine g_lloadN X0 hx 57 (hb hby d5_56) rfl rfl ?_
  refine g_putF X0 hx 60 hZ hown (host := "") (Or.inl (own_w hw 25 rfl)) Via.refl e0 F_decimalSum E_a (Or.inl (own_w hw 26 rfl)) (own_w hw 11 rfl) (ty := .long) (by decide) rfl rfl (hb hby d5_57) rfl (fun T3 h3 X3 e3 W3 => ?_)
  have E_a := E_a.wr W3
  have F_decimalSum := F_decimalSum.same W3
  have F_integerRadix := F_integerRadix.other W3 (Or.inr (slot_ne (Or.inl (own_w hw 36 rfl)) (Or.inl (own_w hw 26 rfl)) (by decide) (t := .int) (t' := .long) (by decide) (by decide)))
  have F_integerKind := F_integerKind.other W3 (Or.inr (slot_ne (Or.inl (own_w hw 38 rfl)) (Or.inl (own_w hw 26 rfl)) (by decide) (t := .int) (t' := .long) (by decide) (by decide)))
  have F_value := F_value.other W3 (Or.inr (slot_ne (Or.inl (own_w hw 40 rfl)) (Or.inl (own_w hw 26 rfl)) (by decide) (t := .long) (t' := .long) (by decide) (by decide)))
  have F_realRead := F_realRead.other W3 (Or.inr (slot_ne (Or.inl (own_w hw 42 rfl)) (Or.inl (own_w hw 26 rfl)) (by decide) (t := .boolean) (t' := .long) (by decide) (by decide)))
  have V_b := V_b.other W3 (Ne.symm ne_a_b)
  have N3 := Fr.snoc X3 N0 g_a
  have Z3 : n0 ≤ h3.size := by rw [W3.size]; exact Z0
  have K3 := K0.wr W3 (Or.inl (List.mem_of_getElem? (i := 0) rfl))
  refine g_iload X3 hx 62 (hb hby d5_60) rfl rfl ?_
  exact g_retI X3 hx hret hlk (hb hby d5_62) (by decide) (by decide) (by rw [e3]; exact ⟨rfl, N3, K3, E_a, F_decimalSum, F_integerRadix, F_integerKind, F_value, F_realRead⟩)
set_option maxRecDepth 65536 in
set_option maxHeartbeats 40000000 in
theorem rm5_5_5 (l : Launch) (Z : State) (a0 : Array Value) (hw : ∀ d ∈ tables_1, d.before a0 Z = true) (a b : Addr) (c0 c1 c2 c3 c4 : Int32) (kA : ClassId) (u0 u1 u2 u3 u4 : Value) (h0 : Heap) (n0 : Nat) (Z0 : n0 ≤ h0.size) (g_a : n0 ≤ a) (E_a : Exa Z h0 a "gleanwell/Grammar$NumberReading") (F_decimalSum : Fld Z h0 a "gleanwell/Grammar$NumberReading" "decimalSum" "J" u0) (F_integerRadix : Fld Z h0 a "gleanwell/Grammar$NumberReading" "integerRadix" "I" u1) (F_integerKind : Fld Z h0 a "gleanwell/Grammar$NumberReading" "integerKind" "I" u2) (F_value : Fld Z h0 a "gleanwell/Grammar$NumberReading" "value" "J" u3) (F_realRead : Fld Z h0 a "gleanwell/Grammar$NumberReading" "realRead" "Z" u4) (V_b : Arv Z h0 b kA .char (6 : Int32) [(.int c0), (.int c1), (.int c2), (.int c3), (.int c4), (.int (32 : Int32))] (.int (0 : Int32))) (ne_a_b : a ≠ b) :
    OwnMet l Z (⟨"gleanwell/Grammar$NumberReading", "sumDecimalDigits", "([CI)I"⟩ : MethodName) prog_28_method_5_code 8 (some .int) [] ({ frames := 0, cells := 0, slots := 0, locals := 0 } : Room) [(.ref a), (.ref b), (.int (5 : Int32))] h0 (fun v h L => v = some (.int 5) ∧ Fr n0 L ∧ Keep h0 h [a] ∧ Exa Z h a "gleanwell/Grammar$NumberReading" ∧ Fld Z h a "gleanwell/Grammar$NumberReading" "decimalSum" "J" (.long (0 : Int64)) ∧ Fld Z h a "gleanwell/Grammar$NumberReading" "integerRadix" "I" u1 ∧ Fld Z h a "gleanwell/Grammar$NumberReading" "integerKind" "I" u2 ∧ Fld Z h a "gleanwell/Grammar$NumberReading" "value" "J" u3 ∧ Fld Z h a "gleanwell/Grammar$NumberReading" "realRead" "Z" u4) := by
  refine own_body (Ls := #[.val (.ref a), .val (.ref b), .val (.int (5 : Int32)), .unset, .unset, .unset, .unset, .unset]) (plainFor_of_name own_pn1) (fun m => by first | (simp [entryFrame, mkF, argsToLocals, Value.category]; done) | rfl) (fun p e s m below meth cO T0 hx hby hml hown hnm hret hlk hZ X0 e0 => ?_)
  have hown : s.vm.findClass "gleanwell/Grammar$NumberReading" = some m.cls := hown
  have N0 := Fr.nil n0
  have K0 := Keep.refl h0 [a]
  refine g_lconst X0 hx 1 (0 : Int64) (hb hby d5_0) (by decide) rfl ?_
  refine g_lstoreN X0 hx 2 #[.val (.ref a), .val (.ref b), .val (.int (5 : Int32)), .val (.long (0 : Int64)), .second, .unset, .unset, .unset] (hb hby d5_1) rfl rfl ?_
  refine g_iloadN X0 hx 3 (hb hby d5_2) rfl rfl ?_
  refine g_istore X0 hx 5 #[.val (.ref a), .val (.ref b), .val (.int (5 : Int32)), .val (.long (0 : Int64)), .second, .val (.int (5 : Int32)), .unset, .unset] (hb hby d5_3) rfl rfl ?_
  refine g_aloadN X0 hx 6 (hb hby d5_5) rfl rfl rfl ?_
  refine g_iload X0 hx 8 (hb hby d5_6) rfl rfl ?_
  refine g_caload X0 hx 9 hZ e0 V_b ⟨by decide, by decide⟩ (show _ = (.int (32 : Int32)) from rfl) (hb hby d5_8) rfl ?_
  refine g_istore X0 hx 11 #[.val (.ref a), .val (.ref b), .val (.int (5 : Int32)), .val (.long (0 : Int64)), .second, .val (.int (5 : Int32)), .val (.int (32 : Int32)), .unset] (hb hby d5_9) rfl rfl ?_
  refine g_iload X0 hx 13 (hb hby d5_11) rfl rfl ?_
  refine g_bipush X0 hx 15 (48 : Int32) (hb hby d5_13) (by decide) rfl ?_
  refine g_isub X0 hx 16 (-16 : Int32) (hb hby d5_15) (by decide) rfl ?_
  refine g_istore X0 hx 18 #[.val (.ref a), .val (.ref b), .val (.int (5 : Int32)), .val (.long (0 : Int64)), .second, .val (.int (5 : Int32)), .val (.int (32 : Int32)), .val (.int (-16 : Int32))] (hb hby d5_16) rfl rfl ?_
  refine g_iload X0 hx 20 (hb hby d5_18) rfl rfl ?_
  refine g_ifT X0 hx 55 (hb hby d5_20) (by decide) (by decide) (by decide) ?_
  refine g_aloadN X0 hx 56 (hb hby d5_55) rfl rfl rfl ?_
  refine g_lloadN X0 hx 57 (hb hby d5_56) rfl rfl ?_
  refine g_putF X0 hx 60 hZ hown (host := "") (Or.inl (own_w hw 25 rfl)) Via.refl e0 F_decimalSum E_a (Or.inl (own_w hw 26 rfl)) (own_w hw 11 rfl) (ty := .long) (by decide) rfl rfl (hb hby d5_57) rfl (fun T1 h1 X1 e1 W1 => ?_)
  have E_a := E_a.wr W1
  have F_decimalSum := F_decimalSum.same W1
  have F_integerRadix := F_integerRadix.other W1 (Or.inr (slot_ne (Or.inl (own_w hw 36 rfl)) (Or.inl (own_w hw 26 rfl)) (by decide) (t := .int) (t' := .long) (by decide) (by decide)))
  have F_integerKind := F_integerKind.other W1 (Or.inr (slot_ne (Or.inl (own_w hw 38 rfl)) (Or.inl (own_w hw 26 rfl)) (by decide) (t := .int) (t' := .long) (by decide) (by decide)))
  have F_value := F_value.other W1 (Or.inr (slot_ne (Or.inl (own_w hw 40 rfl)) (Or.inl (own_w hw 26 rfl)) (by decide) (t := .long) (t' := .long) (by decide) (by decide)))
  have F_realRead := F_realRead.other W1 (Or.inr (slot_ne (Or.inl (own_w hw 42 rfl)) (Or.inl (own_w hw 26 rfl)) (by decide) (t := .boolean) (t' := .long) (by decide) (by decide)))
  have V_b := V_b.other W1 (Ne.symm ne_a_b)
  have N1 := Fr.snoc X1 N0 g_a
  have Z1 : n0 ≤ h1.size := by rw [W1.size]; exact Z0
  have K1 := K0.wr W1 (Or.inl (List.mem_of_getElem? (i := 0) rfl))
  refine g_iload X1 hx 62 (hb hby d5_60) rfl rfl ?_
  exact g_retI X1 hx hret hlk (hb hby d5_62) (by decide) (by decide) (by rw [e1]; exact ⟨rfl, N1, K1, E_a, F_decimalSum, F_integerRadix, F_integerKind, F_value, F_realRead⟩)
theorem d6_0 : decode prog_28_method_6_code 0 = .ok (.aload_n 0, 1) := by decide +kernel
theorem d6_1 : decode prog_28_method_6_code 1 = .ok (.iload_n 2, 1) := by decide +kernel
theorem d6_2 : decode prog_28_method_6_code 2 = .ok (.ifCond .le 15, 3) := by decide +kernel
theorem d6_5 : decode prog_28_method_6_code 5 = .ok (.iload_n 2, 1) := by decide +kernel
theorem d6_6 : decode prog_28_method_6_code 6 = .ok (.getstatic 55, 3) := by decide +kernel
theorem d6_9 : decode prog_28_method_6_code 9 = .ok (.if_icmp .gt 8, 3) := by decide +kernel
theorem d6_17 : decode prog_28_method_6_code 17 = .ok (.iconst 0, 1) := by decide +kernel
theorem d6_18 : decode prog_28_method_6_code 18 = .ok (.putfield 9, 3) := by decide +kernel
theorem d6_21 : decode prog_28_method_6_code 21 = .ok (.aload_n 0, 1) := by decide +kernel
theorem d6_22 : decode prog_28_method_6_code 22 = .ok (.iconst 1, 1) := by decide +kernel
theorem d6_23 : decode prog_28_method_6_code 23 = .ok (.putfield 43, 3) := by decide +kernel
theorem d6_26 : decode prog_28_method_6_code 26 = .ok (.aload_n 0, 1) := by decide +kernel
theorem d6_27 : decode prog_28_method_6_code 27 = .ok (.iload_n 1, 1) := by decide +kernel
theorem d6_28 : decode prog_28_method_6_code 28 = .ok (.ifCond .eq 10, 3) := by decide +kernel
theorem d6_38 : decode prog_28_method_6_code 38 = .ok (.aload_n 0, 1) := by decide +kernel
theorem d6_39 : decode prog_28_method_6_code 39 = .ok (.getfield 52, 3) := by decide +kernel
theorem d6_42 : decode prog_28_method_6_code 42 = .ok (.lneg, 1) := by decide +kernel
theorem d6_43 : decode prog_28_method_6_code 43 = .ok (.putfield 46, 3) := by decide +kernel
theorem d6_46 : decode prog_28_method_6_code 46 = .ok (.aload_n 0, 1) := by decide +kernel
theorem d6_47 : decode prog_28_method_6_code 47 = .ok (.iconst 0, 1) := by decide +kernel
theorem d6_48 : decode prog_28_method_6_code 48 = .ok (.putfield 15, 3) := by decide +kernel
theorem d6_51 : decode prog_28_method_6_code 51 = .ok (.return_, 1) := by decide +kernel
theorem d6_12 : decode prog_28_method_6_code 12 = .ok (.bipush 10, 2) := by decide +kernel
theorem d6_14 : decode prog_28_method_6_code 14 = .ok (.goto 4, 3) := by decide +kernel
set_option maxRecDepth 65536 in
set_option maxHeartbeats 40000000 in
theorem rm6 (l : Launch) (Z : State) (a0 : Array Value) (hw : ∀ d ∈ tables_1, d.before a0 Z = true) (a : Addr) (n sd : Int32) (ds : Int64) (u1 u2 u3 u4 : Value) (h0 : Heap) (n0 : Nat) (Z0 : n0 ≤ h0.size) (g_a : n0 ≤ a) (S_sd : Sta Z h0 "gleanwell/Grammar" "SAFE_DECIMAL_DIGITS" "I" (.int sd)) (E_a : Exa Z h0 a "gleanwell/Grammar$NumberReading") (F_decimalSum : Fld Z h0 a "gleanwell/Grammar$NumberReading" "decimalSum" "J" (.long ds)) (F_integerRadix : Fld Z h0 a "gleanwell/Grammar$NumberReading" "integerRadix" "I" u1) (F_integerKind : Fld Z h0 a "gleanwell/Grammar$NumberReading" "integerKind" "I" u2) (F_value : Fld Z h0 a "gleanwell/Grammar$NumberReading" "value" "J" u3) (F_realRead : Fld Z h0 a "gleanwell/Grammar$NumberReading" "realRead" "Z" u4) :
    OwnMet l Z (⟨"gleanwell/Grammar$NumberReading", "keepDecimal", "(ZI)V"⟩ : MethodName) prog_28_method_6_code 3 none [] ({ frames := 0, cells := 0, slots := 0, locals := 0 } : Room) [(.ref a), (.int (0 : Int32)), (.int n)] h0 (fun v h L => v = none ∧ Fr n0 L ∧ Keep h0 h [a] ∧ Exa Z h a "gleanwell/Grammar$NumberReading" ∧ Fld Z h a "gleanwell/Grammar$NumberReading" "value" "J" (.long (-ds))) := by
  refine own_body (Ls := #[.val (.ref a), .val (.int (0 : Int32)), .val (.int n)]) (plainFor_of_name own_pn1) (fun m => by first | (simp [entryFrame, mkF, argsToLocals, Value.category]; done) | rfl) (fun p e s m below meth cO T0 hx hby hml hown hnm hret hlk hZ X0 e0 => ?_)
  have hown : s.vm.findClass "gleanwell/Grammar$NumberReading" = some m.cls := hown
  have N0 := Fr.nil n0
  have K0 := Keep.refl h0 [a]
  refine g_aloadN X0 hx 1 (hb hby d6_0) rfl rfl rfl ?_
  refine g_iloadN X0 hx 2 (hb hby d6_1) rfl rfl ?_
  by_cases hc1 : (0 : Int32) < n
  · refine g_ifF X0 hx 5 (hb hby d6_2) ((if0 _ _).trans (tlt hc1).2.2.2) rfl ?_
    refine g_iloadN X0 hx 6 (hb hby d6_5) rfl rfl ?_
    refine g_getS X0 hx 9 hZ hown (Or.inr (own_w hw 32 rfl)) Via.refl e0 S_sd (hb hby d6_6) rfl (fun T2 X2 e2 => ?_)
    by_cases hc3 : sd < n
    · refine g_icT X2 hx 17 (hb hby d6_9) (tlt hc3).2.2.1 (by decide) (by decide) ?_
      refine g_iconst X2 hx 18 (0 : Int32) (hb hby d6_17) (by decide) rfl ?_
      refine g_putF X2 hx 21 hZ hown (host := "") (Or.inl (own_w hw 35 rfl)) Via.refl e2 F_integerRadix E_a (Or.inl (own_w hw 36 rfl)) (own_w hw 11 rfl) (ty := .int) (by decide) rfl rfl (hb hby d6_18) rfl (fun T4 h4 X4 e4 W4 => ?_)
      have E_a := E_a.wr W4
      have F_decimalSum := F_decimalSum.other W4 (Or.inr (slot_ne (Or.inl (own_w hw 26 rfl)) (Or.inl (own_w hw 36 rfl)) (by decide) (t := .long) (t' := .int) (by decide) (by decide)))
      have F_integerRadix := F_integerRadix.same W4
      have F_integerKind := F_integerKind.other W4 (Or.inr (slot_ne (Or.inl (own_w hw 38 rfl)) (Or.inl (own_w hw 36 rfl)) (by decide) (t := .int) (t' := .int) (by decide) (by decide)))
      have F_value := F_value.other W4 (Or.inr (slot_ne (Or.inl (own_w hw 40 rfl)) (Or.inl (own_w hw 36 rfl)) (by decide) (t := .long) (t' := .int) (by decide) (by decide)))
      have F_realRead := F_realRead.other W4 (Or.inr (slot_ne (Or.inl (own_w hw 42 rfl)) (Or.inl (own_w hw 36 rfl)) (by decide) (t := .boolean) (t' := .int) (by decide) (by decide)))
      have S_sd := S_sd.wr W4
      have N4 := Fr.snoc X4 N0 g_a
      have Z4 : n0 ≤ h4.size := by rw [W4.size]; exact Z0
      have K4 := K0.wr W4 (Or.inl (List.mem_of_getElem? (i := 0) rfl))
      refine g_aloadN X4 hx 22 (hb hby d6_21) rfl rfl rfl ?_
      refine g_iconst X4 hx 23 (1 : Int32) (hb hby d6_22) (by decide) rfl ?_
      refine g_putF X4 hx 26 hZ hown (host := "") (Or.inl (own_w hw 37 rfl)) Via.refl e4 F_integerKind E_a (Or.inl (own_w hw 38 rfl)) (own_w hw 11 rfl) (ty := .int) (by decide) rfl rfl (hb hby d6_23) rfl (fun T5 h5 X5 e5 W5 => ?_)
      have E_a := E_a.wr W5
      have F_decimalSum := F_decimalSum.other W5 (Or.inr (slot_ne (Or.inl (own_w hw 26 rfl)) (Or.inl (own_w hw 38 rfl)) (by decide) (t := .long) (t' := .int) (by decide) (by decide)))
      have F_integerRadix := F_integerRadix.other W5 (Or.inr (slot_ne (Or.inl (own_w hw 36 rfl)) (Or.inl (own_w hw 38 rfl)) (by decide) (t := .int) (t' := .int) (by decide) (by decide)))
      have F_integerKind := F_integerKind.same W5
      have F_value := F_value.other W5 (Or.inr (slot_ne (Or.inl (own_w hw 40 rfl)) (Or.inl (own_w hw 38 rfl)) (by decide) (t := .long) (t' := .int) (by decide) (by decide)))
      have F_realRead := F_realRead.other W5 (Or.inr (slot_ne (Or.inl (own_w hw 42 rfl)) (Or.inl (own_w hw 38 rfl)) (by decide) (t := .boolean) (t' := .int) (by decide) (by decide)))
      have S_sd := S_sd.wr W5
      have N5 := Fr.snoc X5 N4 g_a
      have Z5 : n0 ≤ h5.size := by rw [W5.size]; exact Z4
      have K5 := K4.wr W5 (Or.inl (List.mem_of_getElem? (i := 0) rfl))
      refine g_aloadN X5 hx 27 (hb hby d6_26) rfl rfl rfl ?_
      refine g_iloadN X5 hx 28 (hb hby d6_27) rfl rfl ?_
      refine g_ifT X5 hx 38 (hb hby d6_28) (by decide) (by decide) (by decide) ?_
      refine g_aloadN X5 hx 39 (hb hby d6_38) rfl rfl rfl ?_
      refine g_getF X5 hx 42 hZ hown (host := "") (Or.inl (own_w hw 25 rfl)) Via.refl e5 F_decimalSum (hb hby d6_39) rfl (fun T6 X6 e6 => ?_)
      refine g_lneg X6 hx 43 (-ds) (hb hby d6_42) rfl rfl ?_
      refine g_putF X6 hx 46 hZ hown (host := "") (Or.inl (own_w hw 39 rfl)) Via.refl e6 F_value E_a (Or.inl (own_w hw 40 rfl)) (own_w hw 11 rfl) (ty := .long) (by decide) rfl rfl (hb hby d6_43) rfl (fun T7 h7 X7 e7 W7 => ?_)
      have E_a := E_a.wr W7
      have F_decimalSum := F_decimalSum.other W7 (Or.inr (slot_ne (Or.inl (own_w hw 26 rfl)) (Or.inl (own_w hw 40 rfl)) (by decide) (t := .long) (t' := .long) (by decide) (by decide)))
      have F_integerRadix := F_integerRadix.other W7 (Or.inr (slot_ne (Or.inl (own_w hw 36 rfl)) (Or.inl (own_w hw 40 rfl)) (by decide) (t := .int) (t' := .long) (by decide) (by decide)))
      have F_integerKind := F_integerKind.other W7 (Or.inr (slot_ne (Or.inl (own_w hw 38 rfl)) (Or.inl (own_w hw 40 rfl)) (by decide) (t := .int) (t' := .long) (by decide) (by decide)))
      have F_value := F_value.same W7
      have F_realRead := F_realRead.other W7 (Or.inr (slot_ne (Or.inl (own_w hw 42 rfl)) (Or.inl (own_w hw 40 rfl)) (by decide) (t := .boolean) (t' := .long) (by decide) (by decide)))
      have S_sd := S_sd.wr W7
      have N7 := Fr.snoc X7 N5 g_a
      have Z7 : n0 ≤ h7.size := by rw [W7.size]; exact Z5
      have K7 := K5.wr W7 (Or.inl (List.mem_of_getElem? (i := 0) rfl))
      refine g_aloadN X7 hx 47 (hb hby d6_46) rfl rfl rfl ?_
      refine g_iconst X7 hx 48 (0 : Int32) (hb hby d6_47) (by decide) rfl ?_
      refine g_putF X7 hx 51 hZ hown (host := "") (Or.inl (own_w hw 41 rfl)) Via.refl e7 F_realRead E_a (Or.inl (own_w hw 42 rfl)) (own_w hw 11 rfl) (ty := .boolean) (by decide) rfl rfl (hb hby d6_48) rfl (fun T8 h8 X8 e8 W8 => ?_)
      have E_a := E_a.wr W8
      have F_decimalSum := F_decimalSum.other W8 (Or.inr (slot_ne (Or.inl (own_w hw 26 rfl)) (Or.inl (own_w hw 42 rfl)) (by decide) (t := .long) (t' := .boolean) (by decide) (by decide)))
      have F_integerRadix := F_integerRadix.other W8 (Or.inr (slot_ne (Or.inl (own_w hw 36 rfl)) (Or.inl (own_w hw 42 rfl)) (by decide) (t := .int) (t' := .boolean) (by decide) (by decide)))
      have F_integerKind := F_integerKind.other W8 (Or.inr (slot_ne (Or.inl (own_w hw 38 rfl)) (Or.inl (own_w hw 42 rfl)) (by decide) (t := .int) (t' := .boolean) (by decide) (by decide)))
      have F_value := F_value.other W8 (Or.inr (slot_ne (Or.inl (own_w hw 40 rfl)) (Or.inl (own_w hw 42 rfl)) (by decide) (t := .long) (t' := .boolean) (by decide) (by decide)))
      have F_realRead := F_realRead.same W8
      have S_sd := S_sd.wr W8
      have N8 := Fr.snoc X8 N7 g_a
      have Z8 : n0 ≤ h8.size := by rw [W8.size]; exact Z7
      have K8 := K7.wr W8 (Or.inl (List.mem_of_getElem? (i := 0) rfl))
      exact g_retV X8 hx hret hlk (hb hby d6_51) (by decide) (by decide) (by rw [e8]; exact ⟨rfl, N8, K8, E_a, F_value⟩)
    · refine g_icF X2 hx 12 (hb hby d6_9) (flt hc3).2.2.1 rfl ?_
      refine g_bipush X2 hx 14 (10 : Int32) (hb hby d6_12) (by decide) rfl ?_
      refine g_goto X2 hx 18 (hb hby d6_14) (by decide) (by decide) ?_
      refine g_putF X2 hx 21 hZ hown (host := "") (Or.inl (own_w hw 35 rfl)) Via.refl e2 F_integerRadix E_a (Or.inl (own_w hw 36 rfl)) (own_w hw 11 rfl) (ty := .int) (by decide) rfl rfl (hb hby d6_18) rfl (fun T9 h9 X9 e9 W9 => ?_)
      have E_a := E_a.wr W9
      have F_decimalSum := F_decimalSum.other W9 (Or.inr (slot_ne (Or.inl (own_w hw 26 rfl)) (Or.inl (own_w hw 36 rfl)) (by decide) (t := .long) (t' := .int) (by decide) (by decide)))
      have F_integerRadix := F_integerRadix.same W9
      have F_integerKind := F_integerKind.other W9 (Or.inr (slot_ne (Or.inl (own_w hw 38 rfl)) (Or.inl (own_w hw 36 rfl)) (by decide) (t := .int) (t' := .int) (by decide) (by decide)))
      have F_value := F_value.other W9 (Or.inr (slot_ne (Or.inl (own_w hw 40 rfl)) (Or.inl (own_w hw 36 rfl)) (by decide) (t := .long) (t' := .int) (by decide) (by decide)))
      have F_realRead := F_realRead.other W9 (Or.inr (slot_ne (Or.inl (own_w hw 42 rfl)) (Or.inl (own_w hw 36 rfl)) (by decide) (t := .boolean) (t' := .int) (by decide) (by decide)))
      have S_sd := S_sd.wr W9
      have N9 := Fr.snoc X9 N0 g_a
      have Z9 : n0 ≤ h9.size := by rw [W9.size]; exact Z0
      have K9 := K0.wr W9 (Or.inl (List.mem_of_getElem? (i := 0) rfl))
      refine g_aloadN X9 hx 22 (hb hby d6_21) rfl rfl rfl ?_
      refine g_iconst X9 hx 23 (1 : Int32) (hb hby d6_22) (by decide) rfl ?_
      refine g_putF X9 hx 26 hZ hown (host := "") (Or.inl (own_w hw 37 rfl)) Via.refl e9 F_integerKind E_a (Or.inl (own_w hw 38 rfl)) (own_w hw 11 rfl) (ty := .int) (by decide) rfl rfl (hb hby d6_23) rfl (fun T10 h10 X10 e10 W10 => ?_)
      have E_a := E_a.wr W10
      have F_decimalSum := F_decimalSum.other W10 (Or.inr (slot_ne (Or.inl (own_w hw 26 rfl)) (Or.inl (own_w hw 38 rfl)) (by decide) (t := .long) (t' := .int) (by decide) (by decide)))
      have F_integerRadix := F_integerRadix.other W10 (Or.inr (slot_ne (Or.inl (own_w hw 36 rfl)) (Or.inl (own_w hw 38 rfl)) (by decide) (t := .int) (t' := .int) (by decide) (by decide)))
      have F_integerKind := F_integerKind.same W10
      have F_value := F_value.other W10 (Or.inr (slot_ne (Or.inl (own_w hw 40 rfl)) (Or.inl (own_w hw 38 rfl)) (by decide) (t := .long) (t' := .int) (by decide) (by decide)))
      have F_realRead := F_realRead.other W10 (Or.inr (slot_ne (Or.inl (own_w hw 42 rfl)) (Or.inl (own_w hw 38 rfl)) (by decide) (t := .boolean) (t' := .int) (by decide) (by decide)))
      have S_sd := S_sd.wr W10
      have N10 := Fr.snoc X10 N9 g_a
      have Z10 : n0 ≤ h10.size := by rw [W10.size]; exact Z9
      have K10 := K9.wr W10 (Or.inl (List.mem_of_getElem? (i := 0) rfl))
      refine g_aloadN X10 hx 27 (hb hby d6_26) rfl rfl rfl ?_
      refine g_iloadN X10 hx 28 (hb hby d6_27) rfl rfl ?_
      refine g_ifT X10 hx 38 (hb hby d6_28) (by decide) (by decide) (by decide) ?_
      refine g_aloadN X10 hx 39 (hb hby d6_38) rfl rfl rfl ?_
      refine g_getF X10 hx 42 hZ hown (host := "") (Or.inl (own_w hw 25 rfl)) Via.refl e10 F_decimalSum (hb hby d6_39) rfl (fun T11 X11 e11 => ?_)
      refine g_lneg X11 hx 43 (-ds) (hb hby d6_42) rfl rfl ?_
      refine g_putF X11 hx 46 hZ hown (host := "") (Or.inl (own_w hw 39 rfl)) Via.refl e11 F_value E_a (Or.inl (own_w hw 40 rfl)) (own_w hw 11 rfl) (ty := .long) (by decide) rfl rfl (hb hby d6_43) rfl (fun T12 h12 X12 e12 W12 => ?_)
      have E_a := E_a.wr W12
      have F_decimalSum := F_decimalSum.other W12 (Or.inr (slot_ne (Or.inl (own_w hw 26 rfl)) (Or.inl (own_w hw 40 rfl)) (by decide) (t := .long) (t' := .long) (by decide) (by decide)))
      have F_integerRadix := F_integerRadix.other W12 (Or.inr (slot_ne (Or.inl (own_w hw 36 rfl)) (Or.inl (own_w hw 40 rfl)) (by decide) (t := .int) (t' := .long) (by decide) (by decide)))
      have F_integerKind := F_integerKind.other W12 (Or.inr (slot_ne (Or.inl (own_w hw 38 rfl)) (Or.inl (own_w hw 40 rfl)) (by decide) (t := .int) (t' := .long) (by decide) (by decide)))
      have F_value := F_value.same W12
      have F_realRead := F_realRead.other W12 (Or.inr (slot_ne (Or.inl (own_w hw 42 rfl)) (Or.inl (own_w hw 40 rfl)) (by decide) (t := .boolean) (t' := .long) (by decide) (by decide)))
      have S_sd := S_sd.wr W12
      have N12 := Fr.snoc X12 N10 g_a
      have Z12 : n0 ≤ h12.size := by rw [W12.size]; exact Z10
      have K12 := K10.wr W12 (Or.inl (List.mem_of_getElem? (i := 0) rfl))
      refine g_aloadN X12 hx 47 (hb hby d6_46) rfl rfl rfl ?_
      refine g_iconst X12 hx 48 (0 : Int32) (hb hby d6_47) (by decide) rfl ?_
      refine g_putF X12 hx 51 hZ hown (host := "") (Or.inl (own_w hw 41 rfl)) Via.refl e12 F_realRead E_a (Or.inl (own_w hw 42 rfl)) (own_w hw 11 rfl) (ty := .boolean) (by decide) rfl rfl (hb hby d6_48) rfl (fun T13 h13 X13 e13 W13 => ?_)
      have E_a := E_a.wr W13
      have F_decimalSum := F_decimalSum.other W13 (Or.inr (slot_ne (Or.inl (own_w hw 26 rfl)) (Or.inl (own_w hw 42 rfl)) (by decide) (t := .long) (t' := .boolean) (by decide) (by decide)))
      have F_integerRadix := F_integerRadix.other W13 (Or.inr (slot_ne (Or.inl (own_w hw 36 rfl)) (Or.inl (own_w hw 42 rfl)) (by decide) (t := .int) (t' := .boolean) (by decide) (by decide)))
      have F_integerKind := F_integerKind.other W13 (Or.inr (slot_ne (Or.inl (own_w hw 38 rfl)) (Or.inl (own_w hw 42 rfl)) (by decide) (t := .int) (t' := .boolean) (by decide) (by decide)))
      have F_value := F_value.other W13 (Or.inr (slot_ne (Or.inl (own_w hw 40 rfl)) (Or.inl (own_w hw 42 rfl)) (by decide) (t := .long) (t' := .boolean) (by decide) (by decide)))
      have F_realRead := F_realRead.same W13
      have S_sd := S_sd.wr W13
      have N13 := Fr.snoc X13 N12 g_a
      have Z13 : n0 ≤ h13.size := by rw [W13.size]; exact Z12
      have K13 := K12.wr W13 (Or.inl (List.mem_of_getElem? (i := 0) rfl))
      exact g_retV X13 hx hret hlk (hb hby d6_51) (by decide) (by decide) (by rw [e13]; exact ⟨rfl, N13, K13, E_a, F_value⟩)
  · refine g_ifT X0 hx 17 (hb hby d6_2) ((if0 _ _).trans (flt hc1).2.2.2) (by decide) (by decide) ?_
    refine g_iconst X0 hx 18 (0 : Int32) (hb hby d6_17) (by decide) rfl ?_
    refine g_putF X0 hx 21 hZ hown (host := "") (Or.inl (own_w hw 35 rfl)) Via.refl e0 F_integerRadix E_a (Or.inl (own_w hw 36 rfl)) (own_w hw 11 rfl) (ty := .int) (by decide) rfl rfl (hb hby d6_18) rfl (fun T14 h14 X14 e14 W14 => ?_)
    have E_a := E_a.wr W14
    have F_decimalSum := F_decimalSum.other W14 (Or.inr (slot_ne (Or.inl (own_w hw 26 rfl)) (Or.inl (own_w hw 36 rfl)) (by decide) (t := .long) (t' := .int) (by decide) (by decide)))
    have F_integerRadix := F_integerRadix.same W14
    have F_integerKind := F_integerKind.other W14 (Or.inr (slot_ne (Or.inl (own_w hw 38 rfl)) (Or.inl (own_w hw 36 rfl)) (by decide) (t := .int) (t' := .int) (by decide) (by decide)))
    have F_value := F_value.other W14 (Or.inr (slot_ne (Or.inl (own_w hw 40 rfl)) (Or.inl (own_w hw 36 rfl)) (by decide) (t := .long) (t' := .int) (by decide) (by decide)))
    have F_realRead := F_realRead.other W14 (Or.inr (slot_ne (Or.inl (own_w hw 42 rfl)) (Or.inl (own_w hw 36 rfl)) (by decide) (t := .boolean) (t' := .int) (by decide) (by decide)))
    have S_sd := S_sd.wr W14
    have N14 := Fr.snoc X14 N0 g_a
    have Z14 : n0 ≤ h14.size := by rw [W14.size]; exact Z0
    have K14 := K0.wr W14 (Or.inl (List.mem_of_getElem? (i := 0) rfl))
    refine g_aloadN X14 hx 22 (hb hby d6_21) rfl rfl rfl ?_
    refine g_iconst X14 hx 23 (1 : Int32) (hb hby d6_22) (by decide) rfl ?_
    refine g_putF X14 hx 26 hZ hown (host := "") (Or.inl (own_w hw 37 rfl)) Via.refl e14 F_integerKind E_a (Or.inl (own_w hw 38 rfl)) (own_w hw 11 rfl) (ty := .int) (by decide) rfl rfl (hb hby d6_23) rfl (fun T15 h15 X15 e15 W15 => ?_)
    have E_a := E_a.wr W15
    have F_decimalSum := F_decimalSum.other W15 (Or.inr (slot_ne (Or.inl (own_w hw 26 rfl)) (Or.inl (own_w hw 38 rfl)) (by decide) (t := .long) (t' := .int) (by decide) (by decide)))
    have F_integerRadix := F_integerRadix.other W15 (Or.inr (slot_ne (Or.inl (own_w hw 36 rfl)) (Or.inl (own_w hw 38 rfl)) (by decide) (t := .int) (t' := .int) (by decide) (by decide)))
    have F_integerKind := F_integerKind.same W15
    have F_value := F_value.other W15 (Or.inr (slot_ne (Or.inl (own_w hw 40 rfl)) (Or.inl (own_w hw 38 rfl)) (by decide) (t := .long) (t' := .int) (by decide) (by decide)))
    have F_realRead := F_realRead.other W15 (Or.inr (slot_ne (Or.inl (own_w hw 42 rfl)) (Or.inl (own_w hw 38 rfl)) (by decide) (t := .boolean) (t' := .int) (by decide) (by decide)))
    have S_sd := S_sd.wr W15
    have N15 := Fr.snoc X15 N14 g_a
    have Z15 : n0 ≤ h15.size := by rw [W15.size]; exact Z14
    have K15 := K14.wr W15 (Or.inl (List.mem_of_getElem? (i := 0) rfl))
    refine g_aloadN X15 hx 27 (hb hby d6_26) rfl rfl rfl ?_
    refine g_iloadN X15 hx 28 (hb hby d6_27) rfl rfl ?_
    refine g_ifT X15 hx 38 (hb hby d6_28) (by decide) (by decide) (by decide) ?_
    refine g_aloadN X15 hx 39 (hb hby d6_38) rfl rfl rfl ?_
    refine g_getF X15 hx 42 hZ hown (host := "") (Or.inl (own_w hw 25 rfl)) Via.refl e15 F_decimalSum (hb hby d6_39) rfl (fun T16 X16 e16 => ?_)
    refine g_lneg X16 hx 43 (-ds) (hb hby d6_42) rfl rfl ?_
    refine g_putF X16 hx 46 hZ hown (host := "") (Or.inl (own_w hw 39 rfl)) Via.refl e16 F_value E_a (Or.inl (own_w hw 40 rfl)) (own_w hw 11 rfl) (ty := .long) (by decide) rfl rfl (hb hby d6_43) rfl (fun T17 h17 X17 e17 W17 => ?_)
    have E_a := E_a.wr W17
    have F_decimalSum := F_decimalSum.other W17 (Or.inr (slot_ne (Or.inl (own_w hw 26 rfl)) (Or.inl (own_w hw 40 rfl)) (by decide) (t := .long) (t' := .long) (by decide) (by decide)))
    have F_integerRadix := F_integerRadix.other W17 (Or.inr (slot_ne (Or.inl (own_w hw 36 rfl)) (Or.inl (own_w hw 40 rfl)) (by decide) (t := .int) (t' := .long) (by decide) (by decide)))
    have F_integerKind := F_integerKind.other W17 (Or.inr (slot_ne (Or.inl (own_w hw 38 rfl)) (Or.inl (own_w hw 40 rfl)) (by decide) (t := .int) (t' := .long) (by decide) (by decide)))
    have F_value := F_value.same W17
    have F_realRead := F_realRead.other W17 (Or.inr (slot_ne (Or.inl (own_w hw 42 rfl)) (Or.inl (own_w hw 40 rfl)) (by decide) (t := .boolean) (t' := .long) (by decide) (by decide)))
    have S_sd := S_sd.wr W17
    have N17 := Fr.snoc X17 N15 g_a
    have Z17 : n0 ≤ h17.size := by rw [W17.size]; exact Z15
    have K17 := K15.wr W17 (Or.inl (List.mem_of_getElem? (i := 0) rfl))
    refine g_aloadN X17 hx 47 (hb hby d6_46) rfl rfl rfl ?_
    refine g_iconst X17 hx 48 (0 : Int32) (hb hby d6_47) (by decide) rfl ?_
    refine g_putF X17 hx 51 hZ hown (host := "") (Or.inl (own_w hw 41 rfl)) Via.refl e17 F_realRead E_a (Or.inl (own_w hw 42 rfl)) (own_w hw 11 rfl) (ty := .boolean) (by decide) rfl rfl (hb hby d6_48) rfl (fun T18 h18 X18 e18 W18 => ?_)
    have E_a := E_a.wr W18
    have F_decimalSum := F_decimalSum.other W18 (Or.inr (slot_ne (Or.inl (own_w hw 26 rfl)) (Or.inl (own_w hw 42 rfl)) (by decide) (t := .long) (t' := .boolean) (by decide) (by decide)))
    have F_integerRadix := F_integerRadix.other W18 (Or.inr (slot_ne (Or.inl (own_w hw 36 rfl)) (Or.inl (own_w hw 42 rfl)) (by decide) (t := .int) (t' := .boolean) (by decide) (by decide)))
    have F_integerKind := F_integerKind.other W18 (Or.inr (slot_ne (Or.inl (own_w hw 38 rfl)) (Or.inl (own_w hw 42 rfl)) (by decide) (t := .int) (t' := .boolean) (by decide) (by decide)))
    have F_value := F_value.other W18 (Or.inr (slot_ne (Or.inl (own_w hw 40 rfl)) (Or.inl (own_w hw 42 rfl)) (by decide) (t := .long) (t' := .boolean) (by decide) (by decide)))
    have F_realRead := F_realRead.same W18
    have S_sd := S_sd.wr W18
    have N18 := Fr.snoc X18 N17 g_a
    have Z18 : n0 ≤ h18.size := by rw [W18.size]; exact Z17
    have K18 := K17.wr W18 (Or.inl (List.mem_of_getElem? (i := 0) rfl))
    exact g_retV X18 hx hret hlk (hb hby d6_51) (by decide) (by decide) (by rw [e18]; exact ⟨rfl, N18, K18, E_a, F_value⟩)
theorem d7_0 : decode prog_28_method_9_code 0 = .ok (.aload_n 0, 1) := by decide +kernel
theorem d7_1 : decode prog_28_method_9_code 1 = .ok (.getfield 46, 3) := by decide +kernel
theorem d7_4 : decode prog_28_method_9_code 4 = .ok (.lreturn, 1) := by decide +kernel
set_option maxRecDepth 65536 in
set_option maxHeartbeats 40000000 in
theorem rm7 (l : Launch) (Z : State) (a0 : Array Value) (hw : ∀ d ∈ tables_1, d.before a0 Z = true) (a : Addr) (z : Int64) (h0 : Heap) (n0 : Nat) (Z0 : n0 ≤ h0.size) (F_a : Fld Z h0 a "gleanwell/Grammar$NumberReading" "value" "J" (.long z)) :
    OwnMet l Z (⟨"gleanwell/Grammar$NumberReading", "integerValue", "()J"⟩ : MethodName) prog_28_method_9_code 1 (some .long) [] ({ frames := 0, cells := 0, slots := 0, locals := 0 } : Room) [(.ref a)] h0 (fun v h L => v = some (.long z) ∧ Fr n0 L ∧ h = h0) := by
  refine own_body (Ls := #[.val (.ref a)]) (plainFor_of_name own_pn1) (fun m => by first | (simp [entryFrame, mkF, argsToLocals, Value.category]; done) | rfl) (fun p e s m below meth cO T0 hx hby hml hown hnm hret hlk hZ X0 e0 => ?_)
  have hown : s.vm.findClass "gleanwell/Grammar$NumberReading" = some m.cls := hown
  have N0 := Fr.nil n0
  refine g_aloadN X0 hx 1 (hb hby d7_0) rfl rfl rfl ?_
  refine g_getF X0 hx 4 hZ hown (host := "") (Or.inl (own_w hw 39 rfl)) Via.refl e0 F_a (hb hby d7_1) rfl (fun T1 X1 e1 => ?_)
  exact g_retJ X1 hx hret hlk (hb hby d7_4) (by decide) (by decide) ⟨rfl, N0, e1⟩
theorem own_six (a : Int32) (h0 : ¬ a < 0) (h : a < 6) : a = 0 ∨ a = 1 ∨ a = 2 ∨ a = 3 ∨ a = 4 ∨ a = 5 := by
  rw [Int32.lt_iff_toInt_lt] at h0 h
  have z : (0 : Int32).toInt = 0 := rfl
  have z : (6 : Int32).toInt = 6 := rfl
  have : a.toInt = 0 ∨ a.toInt = 1 ∨ a.toInt = 2 ∨ a.toInt = 3 ∨ a.toInt = 4 ∨ a.toInt = 5 := by omega
  simp only [← Int32.toInt_inj]
  exact this
theorem own_pd0 : parseMethodDescriptor "(I)C" = some ⟨[.int], some .char⟩ := by decide +kernel
theorem own_pd1 : parseMethodDescriptor "(C)Z" = some ⟨[.char], some .boolean⟩ := by decide +kernel
theorem own_pd2 : parseMethodDescriptor "()V" = some ⟨[], none⟩ := by decide +kernel
theorem own_pd3 : parseMethodDescriptor "([CI)I" = some ⟨[(.array .char), .int], some .int⟩ := by decide +kernel
theorem own_pd4 : parseMethodDescriptor "(ZI)V" = some ⟨[.boolean, .int], none⟩ := by decide +kernel
theorem own_pd5 : parseMethodDescriptor "()J" = some ⟨[], some .long⟩ := by decide +kernel
set_option maxRecDepth 65536 in
set_option maxHeartbeats 40000000 in
theorem rm0 (l : Launch) (Z : State) (a0 : Array Value) (hw : ∀ d ∈ tables_1, d.before a0 Z = true) (a b c d g f sd : Int32) (h0 : Heap) (n0 : Nat) (Z0 : n0 ≤ h0.size) (S_sd : Sta Z h0 "gleanwell/Grammar" "SAFE_DECIMAL_DIGITS" "I" (.int sd)) :
    OwnMet l Z Jvm.Pilot.@@N@@.x code maxLocals ret tables_1 room_1 [(.int a), (.int b), (.int c), (.int d), (.int g), (.int f)] h0 (fun v h L => v = some (.int 1) ∧ Fr n0 L) := by
  refine own_body (Ls := #[.val (.int a), .val (.int b), .val (.int c), .val (.int d), .val (.int g), .val (.int f), .unset, .unset, .unset, .unset, .unset, .unset, .unset, .unset]) (plainFor_of_name own_pn0) (fun m => by first | (simp [entryFrame, mkF, argsToLocals, Value.category, maxLocals]; done) | rfl) (fun p e s m below meth cO T0 hx hby hml hown hnm hret hlk hZ X0 e0 => ?_)
  have hml : cO.maxLocals = 14 := hml
  have hown : s.vm.findClass "gleanwell/NumberReadingSumDecimalDigitsPinLaw" = some m.cls := hown
  have N0 := Fr.nil n0
  have K0 := Keep.refl h0 []
  refine g_bipush X0 hx 2 (6 : Int32) (hb hby at_0) (by decide) rfl ?_
  refine g_newP X0 hx 4 hZ (own_w hw 0 rfl) e0 (hb hby at_2) (by decide) 6 (by decide) (by decide) (by decide) (by decide) rfl (fun T1 h1 b1 kl1 g1 X1 e1 E1 A1 => ?_)
  have G_b1 : n0 ≤ b1 := Nat.le_trans Z0 (Nat.le_of_eq g1.symm)
  have Z1 : n0 ≤ h1.size := Nat.le_trans Z0 E1.1
  have SZ_b1 : h0.size ≤ b1 := Nat.le_trans K0.1 (Nat.le_of_eq g1.symm)
  have K1 := K0.ext E1
  have V_b1 : Arv Z h1 b1 kl1 .char (6 : Int32) [(.int (0 : Int32)), (.int (0 : Int32)), (.int (0 : Int32)), (.int (0 : Int32)), (.int (0 : Int32)), (.int (0 : Int32))] (.int (0 : Int32)) := A1.pad (pad_rep [] (.int (0 : Int32)) 6)
  refine g_astore X1 hx 6 #[.val (.int a), .val (.int b), .val (.int c), .val (.int d), .val (.int g), .val (.int f), .val (.ref b1), .unset, .unset, .unset, .unset, .unset, .unset, .unset] (hb hby at_4) rfl rfl rfl ?_
  refine g_aload X1 hx 8 (hb hby at_6) rfl rfl rfl ?_
  refine g_iconst X1 hx 9 (0 : Int32) (hb hby at_8) (by decide) rfl ?_
  refine g_iloadN X1 hx 10 (hb hby at_9) rfl rfl ?_
  refine g_callS X1 hx 13 hZ hown (own_w hw 1 rfl) (own_w hw 2 rfl) (own_w hw 3 rfl) (own_w hw 4 rfl) (by decide) [(.int a)] [(.int (0 : Int32)), (.ref b1)] (rm1 l Z a0 hw a h1 n0 Z1) e1 2 (by decide) (by decide) (by decide) (by decide) (by rw [hml]; rfl) (lenOf own_pd0 rfl) (hb hby at_10) rfl (Nat.le_of_eq rfl) rfl (fun v2 T2 L2 X2 hQ2 => ?_)
  obtain ⟨⟨z2, rfl⟩, N2q, e2⟩ := hQ2
  have N2 := Fr.app N0 N2q
  show Go p e below _ _ T2 (mkF m 13 #[.val (.int a), .val (.int b), .val (.int c), .val (.int d), .val (.int g), .val (.int f), .val (.ref b1), .unset, .unset, .unset, .unset, .unset, .unset, .unset] [(.int z2), (.int (0 : Int32)), (.ref b1)])
  refine g_castore X2 hx 14 hZ e2 V_b1 0 (by decide) ⟨by decide, by decide⟩ (Nat.le_of_ble_eq_true rfl) (hb hby at_13) rfl (fun T3 h3 X3 e3 W3 V3 => ?_)
  have V_b1 : Arv Z h3 b1 kl1 .char (6 : Int32) [(.int (nar .char z2)), (.int (0 : Int32)), (.int (0 : Int32)), (.int (0 : Int32)), (.int (0 : Int32)), (.int (0 : Int32))] (.int (0 : Int32)) := V3
  have N3 := Fr.snoc X3 N2 G_b1
  have Z3 : n0 ≤ h3.size := by rw [W3.size]; exact Z1
  have K3 := K1.wr W3 (Or.inr SZ_b1)
  refine g_aload X3 hx 16 (hb hby at_14) rfl rfl rfl ?_
  refine g_iconst X3 hx 17 (1 : Int32) (hb hby at_16) (by decide) rfl ?_
  refine g_iloadN X3 hx 18 (hb hby at_17) rfl rfl ?_
  refine g_callS X3 hx 21 hZ hown (own_w hw 1 rfl) (own_w hw 2 rfl) (own_w hw 3 rfl) (own_w hw 4 rfl) (by decide) [(.int b)] [(.int (1 : Int32)), (.ref b1)] (rm1 l Z a0 hw b h3 n0 Z3) e3 2 (by decide) (by decide) (by decide) (by decide) (by rw [hml]; rfl) (lenOf own_pd0 rfl) (hb hby at_18) rfl (Nat.le_of_eq rfl) rfl (fun v4 T4 L4 X4 hQ4 => ?_)
  obtain ⟨⟨z4, rfl⟩, N4q, e4⟩ := hQ4
  have N4 := Fr.app N3 N4q
  show Go p e below _ _ T4 (mkF m 21 #[.val (.int a), .val (.int b), .val (.int c), .val (.int d), .val (.int g), .val (.int f), .val (.ref b1), .unset, .unset, .unset, .unset, .unset, .unset, .unset] [(.int z4), (.int (1 : Int32)), (.ref b1)])
  refine g_castore X4 hx 22 hZ e4 V_b1 1 (by decide) ⟨by decide, by decide⟩ (Nat.le_of_ble_eq_true rfl) (hb hby at_21) rfl (fun T5 h5 X5 e5 W5 V5 => ?_)
  have V_b1 : Arv Z h5 b1 kl1 .char (6 : Int32) [(.int (nar .char z2)), (.int (nar .char z4)), (.int (0 : Int32)), (.int (0 : Int32)), (.int (0 : Int32)), (.int (0 : Int32))] (.int (0 : Int32)) := V5
  have N5 := Fr.snoc X5 N4 G_b1
  have Z5 : n0 ≤ h5.size := by rw [W5.size]; exact Z3
  have K5 := K3.wr W5 (Or.inr SZ_b1)
  refine g_aload X5 hx 24 (hb hby at_22) rfl rfl rfl ?_
  refine g_iconst X5 hx 25 (2 : Int32) (hb hby at_24) (by decide) rfl ?_
  refine g_iloadN X5 hx 26 (hb hby at_25) rfl rfl ?_
  refine g_callS X5 hx 29 hZ hown (own_w hw 1 rfl) (own_w hw 2 rfl) (own_w hw 3 rfl) (own_w hw 4 rfl) (by decide) [(.int c)] [(.int (2 : Int32)), (.ref b1)] (rm1 l Z a0 hw c h5 n0 Z5) e5 2 (by decide) (by decide) (by decide) (by decide) (by rw [hml]; rfl) (lenOf own_pd0 rfl) (hb hby at_26) rfl (Nat.le_of_eq rfl) rfl (fun v6 T6 L6 X6 hQ6 => ?_)
  obtain ⟨⟨z6, rfl⟩, N6q, e6⟩ := hQ6
  have N6 := Fr.app N5 N6q
  show Go p e below _ _ T6 (mkF m 29 #[.val (.int a), .val (.int b), .val (.int c), .val (.int d), .val (.int g), .val (.int f), .val (.ref b1), .unset, .unset, .unset, .unset, .unset, .unset, .unset] [(.int z6), (.int (2 : Int32)), (.ref b1)])
  refine g_castore X6 hx 30 hZ e6 V_b1 2 (by decide) ⟨by decide, by decide⟩ (Nat.le_of_ble_eq_true rfl) (hb hby at_29) rfl (fun T7 h7 X7 e7 W7 V7 => ?_)
  have V_b1 : Arv Z h7 b1 kl1 .char (6 : Int32) [(.int (nar .char z2)), (.int (nar .char z4)), (.int (nar .char z6)), (.int (0 : Int32)), (.int (0 : Int32)), (.int (0 : Int32))] (.int (0 : Int32)) := V7
  have N7 := Fr.snoc X7 N6 G_b1
  have Z7 : n0 ≤ h7.size := by rw [W7.size]; exact Z5
  have K7 := K5.wr W7 (Or.inr SZ_b1)
  refine g_aload X7 hx 32 (hb hby at_30) rfl rfl rfl ?_
  refine g_iconst X7 hx 33 (3 : Int32) (hb hby at_32) (by decide) rfl ?_
  refine g_iloadN X7 hx 34 (hb hby at_33) rfl rfl ?_
  refine g_callS X7 hx 37 hZ hown (own_w hw 1 rfl) (own_w hw 2 rfl) (own_w hw 3 rfl) (own_w hw 4 rfl) (by decide) [(.int d)] [(.int (3 : Int32)), (.ref b1)] (rm1 l Z a0 hw d h7 n0 Z7) e7 2 (by decide) (by decide) (by decide) (by decide) (by rw [hml]; rfl) (lenOf own_pd0 rfl) (hb hby at_34) rfl (Nat.le_of_eq rfl) rfl (fun v8 T8 L8 X8 hQ8 => ?_)
  obtain ⟨⟨z8, rfl⟩, N8q, e8⟩ := hQ8
  have N8 := Fr.app N7 N8q
  show Go p e below _ _ T8 (mkF m 37 #[.val (.int a), .val (.int b), .val (.int c), .val (.int d), .val (.int g), .val (.int f), .val (.ref b1), .unset, .unset, .unset, .unset, .unset, .unset, .unset] [(.int z8), (.int (3 : Int32)), (.ref b1)])
  refine g_castore X8 hx 38 hZ e8 V_b1 3 (by decide) ⟨by decide, by decide⟩ (Nat.le_of_ble_eq_true rfl) (hb hby at_37) rfl (fun T9 h9 X9 e9 W9 V9 => ?_)
  have V_b1 : Arv Z h9 b1 kl1 .char (6 : Int32) [(.int (nar .char z2)), (.int (nar .char z4)), (.int (nar .char z6)), (.int (nar .char z8)), (.int (0 : Int32)), (.int (0 : Int32))] (.int (0 : Int32)) := V9
  have N9 := Fr.snoc X9 N8 G_b1
  have Z9 : n0 ≤ h9.size := by rw [W9.size]; exact Z7
  have K9 := K7.wr W9 (Or.inr SZ_b1)
  refine g_aload X9 hx 40 (hb hby at_38) rfl rfl rfl ?_
  refine g_iconst X9 hx 41 (4 : Int32) (hb hby at_40) (by decide) rfl ?_
  refine g_iload X9 hx 43 (hb hby at_41) rfl rfl ?_
  refine g_callS X9 hx 46 hZ hown (own_w hw 1 rfl) (own_w hw 2 rfl) (own_w hw 3 rfl) (own_w hw 4 rfl) (by decide) [(.int g)] [(.int (4 : Int32)), (.ref b1)] (rm1 l Z a0 hw g h9 n0 Z9) e9 2 (by decide) (by decide) (by decide) (by decide) (by rw [hml]; rfl) (lenOf own_pd0 rfl) (hb hby at_43) rfl (Nat.le_of_eq rfl) rfl (fun v10 T10 L10 X10 hQ10 => ?_)
  obtain ⟨⟨z10, rfl⟩, N10q, e10⟩ := hQ10
  have N10 := Fr.app N9 N10q
  show Go p e below _ _ T10 (mkF m 46 #[.val (.int a), .val (.int b), .val (.int c), .val (.int d), .val (.int g), .val (.int f), .val (.ref b1), .unset, .unset, .unset, .unset, .unset, .unset, .unset] [(.int z10), (.int (4 : Int32)), (.ref b1)])
  refine g_castore X10 hx 47 hZ e10 V_b1 4 (by decide) ⟨by decide, by decide⟩ (Nat.le_of_ble_eq_true rfl) (hb hby at_46) rfl (fun T11 h11 X11 e11 W11 V11 => ?_)
  have V_b1 : Arv Z h11 b1 kl1 .char (6 : Int32) [(.int (nar .char z2)), (.int (nar .char z4)), (.int (nar .char z6)), (.int (nar .char z8)), (.int (nar .char z10)), (.int (0 : Int32))] (.int (0 : Int32)) := V11
  have N11 := Fr.snoc X11 N10 G_b1
  have Z11 : n0 ≤ h11.size := by rw [W11.size]; exact Z9
  have K11 := K9.wr W11 (Or.inr SZ_b1)
  refine g_aload X11 hx 49 (hb hby at_47) rfl rfl rfl ?_
  refine g_iconst X11 hx 50 (5 : Int32) (hb hby at_49) (by decide) rfl ?_
  refine g_bipush X11 hx 52 (32 : Int32) (hb hby at_50) (by decide) rfl ?_
  refine g_castore X11 hx 53 hZ e11 V_b1 5 (by decide) ⟨by decide, by decide⟩ (Nat.le_of_ble_eq_true rfl) (hb hby at_52) rfl (fun T12 h12 X12 e12 W12 V12 => ?_)
  have V_b1 : Arv Z h12 b1 kl1 .char (6 : Int32) [(.int (nar .char z2)), (.int (nar .char z4)), (.int (nar .char z6)), (.int (nar .char z8)), (.int (nar .char z10)), (.int (32 : Int32))] (.int (0 : Int32)) := V12
  have N12 := Fr.snoc X12 N11 G_b1
  have Z12 : n0 ≤ h12.size := by rw [W12.size]; exact Z11
  have K12 := K11.wr W12 (Or.inr SZ_b1)
  refine g_iload X12 hx 55 (hb hby at_53) rfl rfl ?_
  refine g_ldcI X12 hx 57 hZ hown (own_w hw 5 rfl) (hb hby at_55) rfl ?_
  refine g_iand X12 hx 58 (f &&& (2147483647 : Int32)) (hb hby at_57) rfl rfl ?_
  refine g_bipush X12 hx 60 (6 : Int32) (hb hby at_58) (by decide) rfl ?_
  refine g_irem X12 hx 61 ((f &&& (2147483647 : Int32)) % (6 : Int32)) (hb hby at_60) (by decide) rfl rfl ?_
  have hf6 := own_modb _ 6 (own_nn f) (by decide)
  generalize ((f &&& (2147483647 : Int32)) % (6 : Int32)) = fr at hf6 ⊢
  rcases (own_six fr hf6.1 hf6.2) with rfl | rfl | rfl | rfl | rfl | rfl
  · refine g_istore X12 hx 63 #[.val (.int a), .val (.int b), .val (.int c), .val (.int d), .val (.int g), .val (.int f), .val (.ref b1), .val (.int (0 : Int32)), .unset, .unset, .unset, .unset, .unset, .unset] (hb hby at_61) rfl rfl ?_
    refine g_iload X12 hx 65 (hb hby at_63) rfl rfl ?_
    refine g_istore X12 hx 67 #[.val (.int a), .val (.int b), .val (.int c), .val (.int d), .val (.int g), .val (.int f), .val (.ref b1), .val (.int (0 : Int32)), .val (.int (0 : Int32)), .unset, .unset, .unset, .unset, .unset] (hb hby at_65) rfl rfl ?_
    refine g_lconst X12 hx 68 (0 : Int64) (hb hby at_67) (by decide) rfl ?_
    refine g_lstore X12 hx 70 #[.val (.int a), .val (.int b), .val (.int c), .val (.int d), .val (.int g), .val (.int f), .val (.ref b1), .val (.int (0 : Int32)), .val (.int (0 : Int32)), .val (.long (0 : Int64)), .second, .unset, .unset, .unset] (hb hby at_68) rfl rfl ?_
    refine g_iconst X12 hx 71 (1 : Int32) (hb hby at_70) (by decide) rfl ?_
    refine g_istore X12 hx 73 #[.val (.int a), .val (.int b), .val (.int c), .val (.int d), .val (.int g), .val (.int f), .val (.ref b1), .val (.int (0 : Int32)), .val (.int (0 : Int32)), .val (.long (0 : Int64)), .second, .val (.int (1 : Int32)), .unset, .unset] (hb hby at_71) rfl rfl ?_
    refine g_iload X12 hx 75 (hb hby at_73) rfl rfl ?_
    refine g_ifF X12 hx 78 (hb hby at_75) (by decide) rfl ?_
    refine g_iload X12 hx 80 (hb hby at_78) rfl rfl ?_
    refine g_iconst X12 hx 81 (5 : Int32) (hb hby at_80) (by decide) rfl ?_
    refine g_icF X12 hx 84 (hb hby at_81) (by decide) rfl ?_
    refine g_aload X12 hx 86 (hb hby at_84) rfl rfl rfl ?_
    refine g_iload X12 hx 88 (hb hby at_86) rfl rfl ?_
    refine g_caload X12 hx 89 hZ e12 V_b1 ⟨by decide, by decide⟩ (show _ = (.int (nar .char z2)) from rfl) (hb hby at_88) rfl ?_
    refine g_callS X12 hx 92 hZ hown (own_w hw 6 rfl) (own_w hw 7 rfl) (own_w hw 3 rfl) (own_w hw 8 rfl) (by decide) [(.int (nar .char z2))] [] (rm2 l Z a0 hw (nar .char z2) h12 n0 Z12) e12 0 (by decide) (by decide) (by decide) (by decide) (by rw [hml]; rfl) (lenOf own_pd1 rfl) (hb hby at_89) rfl (Nat.le_of_eq rfl) rfl (fun v13 T13 L13 X13 hQ13 => ?_)
    obtain ⟨rfl, N13q, e13⟩ := hQ13
    have N13 := Fr.app N12 N13q
    show Go p e below _ _ T13 (mkF m 92 #[.val (.int a), .val (.int b), .val (.int c), .val (.int d), .val (.int g), .val (.int f), .val (.ref b1), .val (.int (0 : Int32)), .val (.int (0 : Int32)), .val (.long (0 : Int64)), .second, .val (.int (1 : Int32)), .unset, .unset] [(.int (own_dig (nar .char z2)))])
    by_cases hc14 : (own_dig (nar .char z2)) = (0 : Int32)
    · refine g_ifT X13 hx 119 (hb hby at_92) ((if0 _ _).trans (teq hc14).1) (by decide) (by decide) ?_
      refine g_iconst X13 hx 120 (0 : Int32) (hb hby at_119) (by decide) rfl ?_
      refine g_istore X13 hx 122 #[.val (.int a), .val (.int b), .val (.int c), .val (.int d), .val (.int g), .val (.int f), .val (.ref b1), .val (.int (0 : Int32)), .val (.int (0 : Int32)), .val (.long (0 : Int64)), .second, .val (.int (0 : Int32)), .unset, .unset] (hb hby at_120) rfl rfl ?_
      refine g_iload X13 hx 124 (hb hby at_122) rfl rfl ?_
      refine g_ifT X13 hx 168 (hb hby at_124) (by decide) (by decide) (by decide) ?_
      refine g_iconst X13 hx 169 (0 : Int32) (hb hby at_168) (by decide) rfl ?_
      refine g_istore X13 hx 171 #[.val (.int a), .val (.int b), .val (.int c), .val (.int d), .val (.int g), .val (.int f), .val (.ref b1), .val (.int (0 : Int32)), .val (.int (0 : Int32)), .val (.long (0 : Int64)), .second, .val (.int (0 : Int32)), .unset, .unset] (hb hby at_169) rfl rfl ?_
      refine g_iload X13 hx 173 (hb hby at_171) rfl rfl ?_
      refine g_ifT X13 hx 217 (hb hby at_173) (by decide) (by decide) (by decide) ?_
      refine g_iconst X13 hx 218 (0 : Int32) (hb hby at_217) (by decide) rfl ?_
      refine g_istore X13 hx 220 #[.val (.int a), .val (.int b), .val (.int c), .val (.int d), .val (.int g), .val (.int f), .val (.ref b1), .val (.int (0 : Int32)), .val (.int (0 : Int32)), .val (.long (0 : Int64)), .second, .val (.int (0 : Int32)), .unset, .unset] (hb hby at_218) rfl rfl ?_
      refine g_iload X13 hx 222 (hb hby at_220) rfl rfl ?_
      refine g_ifT X13 hx 266 (hb hby at_222) (by decide) (by decide) (by decide) ?_
      refine g_iconst X13 hx 267 (0 : Int32) (hb hby at_266) (by decide) rfl ?_
      refine g_istore X13 hx 269 #[.val (.int a), .val (.int b), .val (.int c), .val (.int d), .val (.int g), .val (.int f), .val (.ref b1), .val (.int (0 : Int32)), .val (.int (0 : Int32)), .val (.long (0 : Int64)), .second, .val (.int (0 : Int32)), .unset, .unset] (hb hby at_267) rfl rfl ?_
      refine g_iload X13 hx 271 (hb hby at_269) rfl rfl ?_
      refine g_ifT X13 hx 315 (hb hby at_271) (by decide) (by decide) (by decide) ?_
      refine g_iconst X13 hx 316 (0 : Int32) (hb hby at_315) (by decide) rfl ?_
      refine g_istore X13 hx 318 #[.val (.int a), .val (.int b), .val (.int c), .val (.int d), .val (.int g), .val (.int f), .val (.ref b1), .val (.int (0 : Int32)), .val (.int (0 : Int32)), .val (.long (0 : Int64)), .second, .val (.int (0 : Int32)), .unset, .unset] (hb hby at_316) rfl rfl ?_
      refine g_new X13 hx 321 hZ hown (own_w hw 10 rfl) (own_w hw 11 rfl) (own_w hw 12 rfl) e13 (hb hby at_318) (by decide) (by decide) rfl (fun T15 h15 b15 g15 X15 e15 E15 A15 D15 => ?_)
      have ne_b1_b15 : b1 ≠ b15 := Nat.ne_of_lt (Nat.lt_of_lt_of_le V_b1.lt (Nat.le_of_eq g15.symm))
      have V_b1 := V_b1.ext E15
      have G_b15 : n0 ≤ b15 := Nat.le_trans Z12 (Nat.le_of_eq g15.symm)
      have Z15 : n0 ≤ h15.size := Nat.le_trans Z12 E15.1
      have SZ_b15 : h0.size ≤ b15 := Nat.le_trans K12.1 (Nat.le_of_eq g15.symm)
      have K15 := K12.ext E15
      have E_b15 : Exa Z h15 b15 "gleanwell/Grammar$NumberReading" := A15
      have F_b15_decimalSum : Fld Z h15 b15 "gleanwell/Grammar$NumberReading" "decimalSum" "J" (.long (0 : Int64)) := D15 (Or.inl (own_w hw 26 rfl)) (ty := .long) (by decide)
      have F_b15_integerRadix : Fld Z h15 b15 "gleanwell/Grammar$NumberReading" "integerRadix" "I" (.int (0 : Int32)) := D15 (Or.inl (own_w hw 36 rfl)) (ty := .int) (by decide)
      have F_b15_integerKind : Fld Z h15 b15 "gleanwell/Grammar$NumberReading" "integerKind" "I" (.int (0 : Int32)) := D15 (Or.inl (own_w hw 38 rfl)) (ty := .int) (by decide)
      have F_b15_value : Fld Z h15 b15 "gleanwell/Grammar$NumberReading" "value" "J" (.long (0 : Int64)) := D15 (Or.inl (own_w hw 40 rfl)) (ty := .long) (by decide)
      have F_b15_realRead : Fld Z h15 b15 "gleanwell/Grammar$NumberReading" "realRead" "Z" (.int (0 : Int32)) := D15 (Or.inl (own_w hw 42 rfl)) (ty := .boolean) (by decide)
      refine g_dup X15 hx 322 (hb hby at_321) rfl rfl ?_
      refine g_callI X15 hx 325 hZ rfl hown (own_w hw 13 rfl) (own_w hw 14 rfl) (own_w hw 12 rfl) (own_w hw 15 rfl) (by decide) b15 [] [(.ref b15)] (rm3 l Z a0 hw b15 h15 n0 Z15) e15 1 (by decide) (by decide) (by decide) (by decide) (by rw [hml]; rfl) (lenOf own_pd2 rfl) (hb hby at_322) rfl (Nat.le_of_eq rfl) rfl (fun v16 T16 L16 X16 hQ16 => ?_)
      obtain ⟨rfl, N16q, e16⟩ := hQ16
      have N16 := Fr.app N13 N16q
      show Go p e below _ _ T16 (mkF m 325 #[.val (.int a), .val (.int b), .val (.int c), .val (.int d), .val (.int g), .val (.int f), .val (.ref b1), .val (.int (0 : Int32)), .val (.int (0 : Int32)), .val (.long (0 : Int64)), .second, .val (.int (0 : Int32)), .unset, .unset] [(.ref b15)])
      refine g_astore X16 hx 327 #[.val (.int a), .val (.int b), .val (.int c), .val (.int d), .val (.int g), .val (.int f), .val (.ref b1), .val (.int (0 : Int32)), .val (.int (0 : Int32)), .val (.long (0 : Int64)), .second, .val (.int (0 : Int32)), .val (.ref b15), .unset] (hb hby at_325) rfl rfl rfl ?_
      refine g_aload X16 hx 329 (hb hby at_327) rfl rfl rfl ?_
      refine g_aload X16 hx 331 (hb hby at_329) rfl rfl rfl ?_
      refine g_iload X16 hx 333 (hb hby at_331) rfl rfl ?_
      refine g_callV X16 hx 336 hZ hown (own_w hw 19 rfl) (own_w hw 20 rfl) (own_w hw 22 rfl) (own_w hw 21 rfl) (own_w hw 12 rfl) (own_w hw 23 rfl) (by decide) b15 E_b15 [(.ref b1), (.int (0 : Int32))] [] (rm5_0_0 l Z a0 hw b15 b1 (nar .char z2) (nar .char z4) (nar .char z6) (nar .char z8) (nar .char z10) kl1 _ _ _ _ _ h15 n0 Z15 G_b15 E_b15 F_b15_decimalSum F_b15_integerRadix F_b15_integerKind F_b15_value F_b15_realRead V_b1 (Ne.symm ne_b1_b15) hc14) e16 0 (by decide) (by decide) (by decide) (by decide) (by rw [hml]; rfl) (lenOf own_pd3 rfl) (hb hby at_333) rfl (Nat.le_of_eq rfl) rfl (fun v17 T17 L17 X17 hQ17 => ?_)
      obtain ⟨rfl, N17q, K17, E17x, F17_decimalSum, F17_integerRadix, F17_integerKind, F17_value, F17_realRead⟩ := hQ17
      have N17 := Fr.app N16 N17q
      have V_b1 := V_b1.keep K17 (ninS ne_b1_b15 nin0)
      have E_b15 := E_b15.keep K17
      have KK17 : Keep h0 T17.heap [] := K15.trans K17 (allS (Or.inr SZ_b15) all0)
      have Z17 := Nat.le_trans Z15 K17.1
      show Go p e below _ _ T17 (mkF m 336 #[.val (.int a), .val (.int b), .val (.int c), .val (.int d), .val (.int g), .val (.int f), .val (.ref b1), .val (.int (0 : Int32)), .val (.int (0 : Int32)), .val (.long (0 : Int64)), .second, .val (.int (0 : Int32)), .val (.ref b15), .unset] [(.int (0 : Int32))])
      refine g_istore X17 hx 338 #[.val (.int a), .val (.int b), .val (.int c), .val (.int d), .val (.int g), .val (.int f), .val (.ref b1), .val (.int (0 : Int32)), .val (.int (0 : Int32)), .val (.long (0 : Int64)), .second, .val (.int (0 : Int32)), .val (.ref b15), .val (.int (0 : Int32))] (hb hby at_336) rfl rfl ?_
      refine g_iload X17 hx 340 (hb hby at_338) rfl rfl ?_
      refine g_iload X17 hx 342 (hb hby at_340) rfl rfl ?_
      refine g_icT X17 hx 347 (hb hby at_342) (by decide) (by decide) (by decide) ?_
      refine g_aload X17 hx 349 (hb hby at_347) rfl rfl rfl ?_
      refine g_iconst X17 hx 350 (0 : Int32) (hb hby at_349) (by decide) rfl ?_
      refine g_iload X17 hx 352 (hb hby at_350) rfl rfl ?_
      refine g_iload X17 hx 354 (hb hby at_352) rfl rfl ?_
      refine g_isub X17 hx 355 (0 : Int32) (hb hby at_354) (by decide) rfl ?_
      refine g_callV X17 hx 358 hZ hown (own_w hw 27 rfl) (own_w hw 28 rfl) (own_w hw 30 rfl) (own_w hw 29 rfl) (own_w hw 12 rfl) (own_w hw 31 rfl) (by decide) b15 E_b15 [(.int (0 : Int32)), (.int (0 : Int32))] [] (rm6 l Z a0 hw b15 (0 : Int32) sd (0 : Int64) _ _ _ _ T17.heap n0 Z17 G_b15 (own_sta_keep S_sd KK17) E_b15 F17_decimalSum F17_integerRadix F17_integerKind F17_value F17_realRead) rfl 0 (by decide) (by decide) (by decide) (by decide) (by rw [hml]; rfl) (lenOf own_pd4 rfl) (hb hby at_355) rfl (Nat.le_of_eq rfl) rfl (fun v18 T18 L18 X18 hQ18 => ?_)
      obtain ⟨rfl, N18q, K18, E18x, F18_value⟩ := hQ18
      have N18 := Fr.app N17 N18q
      have V_b1 := V_b1.keep K18 (ninS ne_b1_b15 nin0)
      have E_b15 := E_b15.keep K18
      have KK18 : Keep h0 T18.heap [] := KK17.trans K18 (allS (Or.inr SZ_b15) all0)
      have Z18 := Nat.le_trans Z17 K18.1
      show Go p e below _ _ T18 (mkF m 358 #[.val (.int a), .val (.int b), .val (.int c), .val (.int d), .val (.int g), .val (.int f), .val (.ref b1), .val (.int (0 : Int32)), .val (.int (0 : Int32)), .val (.long (0 : Int64)), .second, .val (.int (0 : Int32)), .val (.ref b15), .val (.int (0 : Int32))] [])
      refine g_aload X18 hx 360 (hb hby at_358) rfl rfl rfl ?_
      refine g_callV X18 hx 363 hZ hown (own_w hw 43 rfl) (own_w hw 44 rfl) (own_w hw 46 rfl) (own_w hw 45 rfl) (own_w hw 12 rfl) (own_w hw 47 rfl) (by decide) b15 E_b15 [] [] (rm7 l Z a0 hw b15 (-(0 : Int64)) T18.heap n0 Z18 F18_value) rfl 0 (by decide) (by decide) (by decide) (by decide) (by rw [hml]; rfl) (lenOf own_pd5 rfl) (hb hby at_360) rfl (Nat.le_of_eq rfl) rfl (fun v19 T19 L19 X19 hQ19 => ?_)
      obtain ⟨rfl, N19q, e19⟩ := hQ19
      have N19 := Fr.app N18 N19q
      show Go p e below _ _ T19 (mkF m 363 #[.val (.int a), .val (.int b), .val (.int c), .val (.int d), .val (.int g), .val (.int f), .val (.ref b1), .val (.int (0 : Int32)), .val (.int (0 : Int32)), .val (.long (0 : Int64)), .second, .val (.int (0 : Int32)), .val (.ref b15), .val (.int (0 : Int32))] [(.long (-(0 : Int64)))])
      refine g_lload X19 hx 365 (hb hby at_363) rfl rfl ?_
      refine g_lcmp X19 hx 366 (hb hby at_365) rfl ?_
      have hk20 : (-(0 : Int64)) = (0 : Int64) := by grind
      refine g_ifF X19 hx 369 (hb hby at_366) (own_eqL hk20).2 rfl ?_
      refine g_iconst X19 hx 370 (1 : Int32) (hb hby at_369) (by decide) rfl ?_
      refine g_goto X19 hx 374 (hb hby at_370) (by decide) (by decide) ?_
      exact g_retZ X19 hx hret hlk rfl (hb hby at_374) (by decide) (by decide) ⟨rfl, N19⟩
    · refine g_ifF X13 hx 95 (hb hby at_92) ((if0 _ _).trans (feq hc14).1) rfl ?_
      refine g_ldc2J X13 hx 98 hZ hown (own_w hw 9 rfl) (hb hby at_95) rfl ?_
      refine g_lload X13 hx 100 (hb hby at_98) rfl rfl ?_
      refine g_lmul X13 hx 101 (0 : Int64) (hb hby at_100) (by decide) rfl ?_
      refine g_aload X13 hx 103 (hb hby at_101) rfl rfl rfl ?_
      refine g_iload X13 hx 105 (hb hby at_103) rfl rfl ?_
      refine g_caload X13 hx 106 hZ e13 V_b1 ⟨by decide, by decide⟩ (show _ = (.int (nar .char z2)) from rfl) (hb hby at_105) rfl ?_
      refine g_bipush X13 hx 108 (48 : Int32) (hb hby at_106) (by decide) rfl ?_
      refine g_isub X13 hx 109 ((nar .char z2) - (48 : Int32)) (hb hby at_108) rfl rfl ?_
      refine g_i2l X13 hx 110 (((nar .char z2) - (48 : Int32)).toInt64) (hb hby at_109) rfl rfl ?_
      refine g_ladd X13 hx 111 ((0 : Int64) + (((nar .char z2) - (48 : Int32)).toInt64)) (hb hby at_110) rfl rfl ?_
      refine g_lstore X13 hx 113 #[.val (.int a), .val (.int b), .val (.int c), .val (.int d), .val (.int g), .val (.int f), .val (.ref b1), .val (.int (0 : Int32)), .val (.int (0 : Int32)), .val (.long ((0 : Int64) + (((nar .char z2) - (48 : Int32)).toInt64))), .second, .val (.int (1 : Int32)), .unset, .unset] (hb hby at_111) rfl rfl ?_
      refine g_iinc X13 hx 116 (1 : Int32) #[.val (.int a), .val (.int b), .val (.int c), .val (.int d), .val (.int g), .val (.int f), .val (.ref b1), .val (.int (0 : Int32)), .val (.int (1 : Int32)), .val (.long ((0 : Int64) + (((nar .char z2) - (48 : Int32)).toInt64))), .second, .val (.int (1 : Int32)), .unset, .unset] (hb hby at_113) rfl (by decide) rfl rfl ?_
      refine g_goto X13 hx 122 (hb hby at_116) (by decide) (by decide) ?_
      refine g_iload X13 hx 124 (hb hby at_122) rfl rfl ?_
      refine g_ifF X13 hx 127 (hb hby at_124) (by decide) rfl ?_
      refine g_iload X13 hx 129 (hb hby at_127) rfl rfl ?_
      refine g_iconst X13 hx 130 (5 : Int32) (hb hby at_129) (by decide) rfl ?_
      refine g_icF X13 hx 133 (hb hby at_130) (by decide) rfl ?_
      refine g_aload X13 hx 135 (hb hby at_133) rfl rfl rfl ?_
      refine g_iload X13 hx 137 (hb hby at_135) rfl rfl ?_
      refine g_caload X13 hx 138 hZ e13 V_b1 ⟨by decide, by decide⟩ (show _ = (.int (nar .char z4)) from rfl) (hb hby at_137) rfl ?_
      refine g_callS X13 hx 141 hZ hown (own_w hw 6 rfl) (own_w hw 7 rfl) (own_w hw 3 rfl) (own_w hw 8 rfl) (by decide) [(.int (nar .char z4))] [] (rm2 l Z a0 hw (nar .char z4) h12 n0 Z12) e13 0 (by decide) (by decide) (by decide) (by decide) (by rw [hml]; rfl) (lenOf own_pd1 rfl) (hb hby at_138) rfl (Nat.le_of_eq rfl) rfl (fun v21 T21 L21 X21 hQ21 => ?_)
      obtain ⟨rfl, N21q, e21⟩ := hQ21
      have N21 := Fr.app N13 N21q
      show Go p e below _ _ T21 (mkF m 141 #[.val (.int a), .val (.int b), .val (.int c), .val (.int d), .val (.int g), .val (.int f), .val (.ref b1), .val (.int (0 : Int32)), .val (.int (1 : Int32)), .val (.long ((0 : Int64) + (((nar .char z2) - (48 : Int32)).toInt64))), .second, .val (.int (1 : Int32)), .unset, .unset] [(.int (own_dig (nar .char z4)))])
      by_cases hc22 : (own_dig (nar .char z4)) = (0 : Int32)
      · refine g_ifT X21 hx 168 (hb hby at_141) ((if0 _ _).trans (teq hc22).1) (by decide) (by decide) ?_
        refine g_iconst X21 hx 169 (0 : Int32) (hb hby at_168) (by decide) rfl ?_
        refine g_istore X21 hx 171 #[.val (.int a), .val (.int b), .val (.int c), .val (.int d), .val (.int g), .val (.int f), .val (.ref b1), .val (.int (0 : Int32)), .val (.int (1 : Int32)), .val (.long ((0 : Int64) + (((nar .char z2) - (48 : Int32)).toInt64))), .second, .val (.int (0 : Int32)), .unset, .unset] (hb hby at_169) rfl rfl ?_
        refine g_iload X21 hx 173 (hb hby at_171) rfl rfl ?_
        refine g_ifT X21 hx 217 (hb hby at_173) (by decide) (by decide) (by decide) ?_
        refine g_iconst X21 hx 218 (0 : Int32) (hb hby at_217) (by decide) rfl ?_
        refine g_istore X21 hx 220 #[.val (.int a), .val (.int b), .val (.int c), .val (.int d), .val (.int g), .val (.int f), .val (.ref b1), .val (.int (0 : Int32)), .val (.int (1 : Int32)), .val (.long ((0 : Int64) + (((nar .char z2) - (48 : Int32)).toInt64))), .second, .val (.int (0 : Int32)), .unset, .unset] (hb hby at_218) rfl rfl ?_
        refine g_iload X21 hx 222 (hb hby at_220) rfl rfl ?_
        refine g_ifT X21 hx 266 (hb hby at_222) (by decide) (by decide) (by decide) ?_
        refine g_iconst X21 hx 267 (0 : Int32) (hb hby at_266) (by decide) rfl ?_
        refine g_istore X21 hx 269 #[.val (.int a), .val (.int b), .val (.int c), .val (.int d), .val (.int g), .val (.int f), .val (.ref b1), .val (.int (0 : Int32)), .val (.int (1 : Int32)), .val (.long ((0 : Int64) + (((nar .char z2) - (48 : Int32)).toInt64))), .second, .val (.int (0 : Int32)), .unset, .unset] (hb hby at_267) rfl rfl ?_
        refine g_iload X21 hx 271 (hb hby at_269) rfl rfl ?_
        refine g_ifT X21 hx 315 (hb hby at_271) (by decide) (by decide) (by decide) ?_
        refine g_iconst X21 hx 316 (0 : Int32) (hb hby at_315) (by decide) rfl ?_
        refine g_istore X21 hx 318 #[.val (.int a), .val (.int b), .val (.int c), .val (.int d), .val (.int g), .val (.int f), .val (.ref b1), .val (.int (0 : Int32)), .val (.int (1 : Int32)), .val (.long ((0 : Int64) + (((nar .char z2) - (48 : Int32)).toInt64))), .second, .val (.int (0 : Int32)), .unset, .unset] (hb hby at_316) rfl rfl ?_
        refine g_new X21 hx 321 hZ hown (own_w hw 10 rfl) (own_w hw 11 rfl) (own_w hw 12 rfl) e21 (hb hby at_318) (by decide) (by decide) rfl (fun T23 h23 b23 g23 X23 e23 E23 A23 D23 => ?_)
        have ne_b1_b23 : b1 ≠ b23 := Nat.ne_of_lt (Nat.lt_of_lt_of_le V_b1.lt (Nat.le_of_eq g23.symm))
        have V_b1 := V_b1.ext E23
        have G_b23 : n0 ≤ b23 := Nat.le_trans Z12 (Nat.le_of_eq g23.symm)
        have Z23 : n0 ≤ h23.size := Nat.le_trans Z12 E23.1
        have SZ_b23 : h0.size ≤ b23 := Nat.le_trans K12.1 (Nat.le_of_eq g23.symm)
        have K23 := K12.ext E23
        have E_b23 : Exa Z h23 b23 "gleanwell/Grammar$NumberReading" := A23
        have F_b23_decimalSum : Fld Z h23 b23 "gleanwell/Grammar$NumberReading" "decimalSum" "J" (.long (0 : Int64)) := D23 (Or.inl (own_w hw 26 rfl)) (ty := .long) (by decide)
        have F_b23_integerRadix : Fld Z h23 b23 "gleanwell/Grammar$NumberReading" "integerRadix" "I" (.int (0 : Int32)) := D23 (Or.inl (own_w hw 36 rfl)) (ty := .int) (by decide)
        have F_b23_integerKind : Fld Z h23 b23 "gleanwell/Grammar$NumberReading" "integerKind" "I" (.int (0 : Int32)) := D23 (Or.inl (own_w hw 38 rfl)) (ty := .int) (by decide)
        have F_b23_value : Fld Z h23 b23 "gleanwell/Grammar$NumberReading" "value" "J" (.long (0 : Int64)) := D23 (Or.inl (own_w hw 40 rfl)) (ty := .long) (by decide)
        have F_b23_realRead : Fld Z h23 b23 "gleanwell/Grammar$NumberReading" "realRead" "Z" (.int (0 : Int32)) := D23 (Or.inl (own_w hw 42 rfl)) (ty := .boolean) (by decide)
        refine g_dup X23 hx 322 (hb hby at_321) rfl rfl ?_
        refine g_callI X23 hx 325 hZ rfl hown (own_w hw 13 rfl) (own_w hw 14 rfl) (own_w hw 12 rfl) (own_w hw 15 rfl) (by decide) b23 [] [(.ref b23)] (rm3 l Z a0 hw b23 h23 n0 Z23) e23 1 (by decide) (by decide) (by decide) (by decide) (by rw [hml]; rfl) (lenOf own_pd2 rfl) (hb hby at_322) rfl (Nat.le_of_eq rfl) rfl (fun v24 T24 L24 X24 hQ24 => ?_)
        obtain ⟨rfl, N24q, e24⟩ := hQ24
        have N24 := Fr.app N21 N24q
        show Go p e below _ _ T24 (mkF m 325 #[.val (.int a), .val (.int b), .val (.int c), .val (.int d), .val (.int g), .val (.int f), .val (.ref b1), .val (.int (0 : Int32)), .val (.int (1 : Int32)), .val (.long ((0 : Int64) + (((nar .char z2) - (48 : Int32)).toInt64))), .second, .val (.int (0 : Int32)), .unset, .unset] [(.ref b23)])
        refine g_astore X24 hx 327 #[.val (.int a), .val (.int b), .val (.int c), .val (.int d), .val (.int g), .val (.int f), .val (.ref b1), .val (.int (0 : Int32)), .val (.int (1 : Int32)), .val (.long ((0 : Int64) + (((nar .char z2) - (48 : Int32)).toInt64))), .second, .val (.int (0 : Int32)), .val (.ref b23), .unset] (hb hby at_325) rfl rfl rfl ?_
        refine g_aload X24 hx 329 (hb hby at_327) rfl rfl rfl ?_
        refine g_aload X24 hx 331 (hb hby at_329) rfl rfl rfl ?_
        refine g_iload X24 hx 333 (hb hby at_331) rfl rfl ?_
        refine g_callV X24 hx 336 hZ hown (own_w hw 19 rfl) (own_w hw 20 rfl) (own_w hw 22 rfl) (own_w hw 21 rfl) (own_w hw 12 rfl) (own_w hw 23 rfl) (by decide) b23 E_b23 [(.ref b1), (.int (0 : Int32))] [] (rm5_0_1 l Z a0 hw b23 b1 (nar .char z2) (nar .char z4) (nar .char z6) (nar .char z8) (nar .char z10) kl1 _ _ _ _ _ h23 n0 Z23 G_b23 E_b23 F_b23_decimalSum F_b23_integerRadix F_b23_integerKind F_b23_value F_b23_realRead V_b1 (Ne.symm ne_b1_b23) hc14 hc22) e24 0 (by decide) (by decide) (by decide) (by decide) (by rw [hml]; rfl) (lenOf own_pd3 rfl) (hb hby at_333) rfl (Nat.le_of_eq rfl) rfl (fun v25 T25 L25 X25 hQ25 => ?_)
        obtain ⟨rfl, N25q, K25, E25x, F25_decimalSum, F25_integerRadix, F25_integerKind, F25_value, F25_realRead⟩ := hQ25
        have N25 := Fr.app N24 N25q
        have V_b1 := V_b1.keep K25 (ninS ne_b1_b23 nin0)
        have E_b23 := E_b23.keep K25
        have KK25 : Keep h0 T25.heap [] := K23.trans K25 (allS (Or.inr SZ_b23) all0)
        have Z25 := Nat.le_trans Z23 K25.1
        show Go p e below _ _ T25 (mkF m 336 #[.val (.int a), .val (.int b), .val (.int c), .val (.int d), .val (.int g), .val (.int f), .val (.ref b1), .val (.int (0 : Int32)), .val (.int (1 : Int32)), .val (.long ((0 : Int64) + (((nar .char z2) - (48 : Int32)).toInt64))), .second, .val (.int (0 : Int32)), .val (.ref b23), .unset] [(.int (1 : Int32))])
        refine g_istore X25 hx 338 #[.val (.int a), .val (.int b), .val (.int c), .val (.int d), .val (.int g), .val (.int f), .val (.ref b1), .val (.int (0 : Int32)), .val (.int (1 : Int32)), .val (.long ((0 : Int64) + (((nar .char z2) - (48 : Int32)).toInt64))), .second, .val (.int (0 : Int32)), .val (.ref b23), .val (.int (1 : Int32))] (hb hby at_336) rfl rfl ?_
        refine g_iload X25 hx 340 (hb hby at_338) rfl rfl ?_
        refine g_iload X25 hx 342 (hb hby at_340) rfl rfl ?_
        refine g_icT X25 hx 347 (hb hby at_342) (by decide) (by decide) (by decide) ?_
        refine g_aload X25 hx 349 (hb hby at_347) rfl rfl rfl ?_
        refine g_iconst X25 hx 350 (0 : Int32) (hb hby at_349) (by decide) rfl ?_
        refine g_iload X25 hx 352 (hb hby at_350) rfl rfl ?_
        refine g_iload X25 hx 354 (hb hby at_352) rfl rfl ?_
        refine g_isub X25 hx 355 (1 : Int32) (hb hby at_354) (by decide) rfl ?_
        refine g_callV X25 hx 358 hZ hown (own_w hw 27 rfl) (own_w hw 28 rfl) (own_w hw 30 rfl) (own_w hw 29 rfl) (own_w hw 12 rfl) (own_w hw 31 rfl) (by decide) b23 E_b23 [(.int (0 : Int32)), (.int (1 : Int32))] [] (rm6 l Z a0 hw b23 (1 : Int32) sd ((0 : Int64) - ((nar .char z2) - (48 : Int32)).toInt64) _ _ _ _ T25.heap n0 Z25 G_b23 (own_sta_keep S_sd KK25) E_b23 F25_decimalSum F25_integerRadix F25_integerKind F25_value F25_realRead) rfl 0 (by decide) (by decide) (by decide) (by decide) (by rw [hml]; rfl) (lenOf own_pd4 rfl) (hb hby at_355) rfl (Nat.le_of_eq rfl) rfl (fun v26 T26 L26 X26 hQ26 => ?_)
        obtain ⟨rfl, N26q, K26, E26x, F26_value⟩ := hQ26
        have N26 := Fr.app N25 N26q
        have V_b1 := V_b1.keep K26 (ninS ne_b1_b23 nin0)
        have E_b23 := E_b23.keep K26
        have KK26 : Keep h0 T26.heap [] := KK25.trans K26 (allS (Or.inr SZ_b23) all0)
        have Z26 := Nat.le_trans Z25 K26.1
        show Go p e below _ _ T26 (mkF m 358 #[.val (.int a), .val (.int b), .val (.int c), .val (.int d), .val (.int g), .val (.int f), .val (.ref b1), .val (.int (0 : Int32)), .val (.int (1 : Int32)), .val (.long ((0 : Int64) + (((nar .char z2) - (48 : Int32)).toInt64))), .second, .val (.int (0 : Int32)), .val (.ref b23), .val (.int (1 : Int32))] [])
        refine g_aload X26 hx 360 (hb hby at_358) rfl rfl rfl ?_
        refine g_callV X26 hx 363 hZ hown (own_w hw 43 rfl) (own_w hw 44 rfl) (own_w hw 46 rfl) (own_w hw 45 rfl) (own_w hw 12 rfl) (own_w hw 47 rfl) (by decide) b23 E_b23 [] [] (rm7 l Z a0 hw b23 (-((0 : Int64) - ((nar .char z2) - (48 : Int32)).toInt64)) T26.heap n0 Z26 F26_value) rfl 0 (by decide) (by decide) (by decide) (by decide) (by rw [hml]; rfl) (lenOf own_pd5 rfl) (hb hby at_360) rfl (Nat.le_of_eq rfl) rfl (fun v27 T27 L27 X27 hQ27 => ?_)
        obtain ⟨rfl, N27q, e27⟩ := hQ27
        have N27 := Fr.app N26 N27q
        show Go p e below _ _ T27 (mkF m 363 #[.val (.int a), .val (.int b), .val (.int c), .val (.int d), .val (.int g), .val (.int f), .val (.ref b1), .val (.int (0 : Int32)), .val (.int (1 : Int32)), .val (.long ((0 : Int64) + (((nar .char z2) - (48 : Int32)).toInt64))), .second, .val (.int (0 : Int32)), .val (.ref b23), .val (.int (1 : Int32))] [(.long (-((0 : Int64) - ((nar .char z2) - (48 : Int32)).toInt64)))])
        refine g_lload X27 hx 365 (hb hby at_363) rfl rfl ?_
        refine g_lcmp X27 hx 366 (hb hby at_365) rfl ?_
        have hk28 : (-((0 : Int64) - ((nar .char z2) - (48 : Int32)).toInt64)) = ((0 : Int64) + (((nar .char z2) - (48 : Int32)).toInt64)) := by grind
        refine g_ifF X27 hx 369 (hb hby at_366) (own_eqL hk28).2 rfl ?_
        refine g_iconst X27 hx 370 (1 : Int32) (hb hby at_369) (by decide) rfl ?_
        refine g_goto X27 hx 374 (hb hby at_370) (by decide) (by decide) ?_
        exact g_retZ X27 hx hret hlk rfl (hb hby at_374) (by decide) (by decide) ⟨rfl, N27⟩
      · refine g_ifF X21 hx 144 (hb hby at_141) ((if0 _ _).trans (feq hc22).1) rfl ?_
        refine g_ldc2J X21 hx 147 hZ hown (own_w hw 9 rfl) (hb hby at_144) rfl ?_
        refine g_lload X21 hx 149 (hb hby at_147) rfl rfl ?_
        refine g_lmul X21 hx 150 ((10 : Int64) * ((0 : Int64) + (((nar .char z2) - (48 : Int32)).toInt64))) (hb hby at_149) rfl rfl ?_
        refine g_aload X21 hx 152 (hb hby at_150) rfl rfl rfl ?_
        refine g_iload X21 hx 154 (hb hby at_152) rfl rfl ?_
        refine g_caload X21 hx 155 hZ e21 V_b1 ⟨by decide, by decide⟩ (show _ = (.int (nar .char z4)) from rfl) (hb hby at_154) rfl ?_
        refine g_bipush X21 hx 157 (48 : Int32) (hb hby at_155) (by decide) rfl ?_
        refine g_isub X21 hx 158 ((nar .char z4) - (48 : Int32)) (hb hby at_157) rfl rfl ?_
        refine g_i2l X21 hx 159 (((nar .char z4) - (48 : Int32)).toInt64) (hb hby at_158) rfl rfl ?_
        refine g_ladd X21 hx 160 (((10 : Int64) * ((0 : Int64) + (((nar .char z2) - (48 : Int32)).toInt64))) + (((nar .char z4) - (48 : Int32)).toInt64)) (hb hby at_159) rfl rfl ?_
        refine g_lstore X21 hx 162 #[.val (.int a), .val (.int b), .val (.int c), .val (.int d), .val (.int g), .val (.int f), .val (.ref b1), .val (.int (0 : Int32)), .val (.int (1 : Int32)), .val (.long (((10 : Int64) * ((0 : Int64) + (((nar .char z2) - (48 : Int32)).toInt64))) + (((nar .char z4) - (48 : Int32)).toInt64))), .second, .val (.int (1 : Int32)), .unset, .unset] (hb hby at_160) rfl rfl ?_
        refine g_iinc X21 hx 165 (2 : Int32) #[.val (.int a), .val (.int b), .val (.int c), .val (.int d), .val (.int g), .val (.int f), .val (.ref b1), .val (.int (0 : Int32)), .val (.int (2 : Int32)), .val (.long (((10 : Int64) * ((0 : Int64) + (((nar .char z2) - (48 : Int32)).toInt64))) + (((nar .char z4) - (48 : Int32)).toInt64))), .second, .val (.int (1 : Int32)), .unset, .unset] (hb hby at_162) rfl (by decide) rfl rfl ?_
        refine g_goto X21 hx 171 (hb hby at_165) (by decide) (by decide) ?_
        refine g_iload X21 hx 173 (hb hby at_171) rfl rfl ?_
        refine g_ifF X21 hx 176 (hb hby at_173) (by decide) rfl ?_
        refine g_iload X21 hx 178 (hb hby at_176) rfl rfl ?_
        refine g_iconst X21 hx 179 (5 : Int32) (hb hby at_178) (by decide) rfl ?_
        refine g_icF X21 hx 182 (hb hby at_179) (by decide) rfl ?_
        refine g_aload X21 hx 184 (hb hby at_182) rfl rfl rfl ?_
        refine g_iload X21 hx 186 (hb hby at_184) rfl rfl ?_
        refine g_caload X21 hx 187 hZ e21 V_b1 ⟨by decide, by decide⟩ (show _ = (.int (nar .char z6)) from rfl) (hb hby at_186) rfl ?_
        refine g_callS X21 hx 190 hZ hown (own_w hw 6 rfl) (own_w hw 7 rfl) (own_w hw 3 rfl) (own_w hw 8 rfl) (by decide) [(.int (nar .char z6))] [] (rm2 l Z a0 hw (nar .char z6) h12 n0 Z12) e21 0 (by decide) (by decide) (by decide) (by decide) (by rw [hml]; rfl) (lenOf own_pd1 rfl) (hb hby at_187) rfl (Nat.le_of_eq rfl) rfl (fun v29 T29 L29 X29 hQ29 => ?_)
        obtain ⟨rfl, N29q, e29⟩ := hQ29
        have N29 := Fr.app N21 N29q
        show Go p e below _ _ T29 (mkF m 190 #[.val (.int a), .val (.int b), .val (.int c), .val (.int d), .val (.int g), .val (.int f), .val (.ref b1), .val (.int (0 : Int32)), .val (.int (2 : Int32)), .val (.long (((10 : Int64) * ((0 : Int64) + (((nar .char z2) - (48 : Int32)).toInt64))) + (((nar .char z4) - (48 : Int32)).toInt64))), .second, .val (.int (1 : Int32)), .unset, .unset] [(.int (own_dig (nar .char z6)))])
        by_cases hc30 : (own_dig (nar .char z6)) = (0 : Int32)
        · refine g_ifT X29 hx 217 (hb hby at_190) ((if0 _ _).trans (teq hc30).1) (by decide) (by decide) ?_
          refine g_iconst X29 hx 218 (0 : Int32) (hb hby at_217) (by decide) rfl ?_
          refine g_istore X29 hx 220 #[.val (.int a), .val (.int b), .val (.int c), .val (.int d), .val (.int g), .val (.int f), .val (.ref b1), .val (.int (0 : Int32)), .val (.int (2 : Int32)), .val (.long (((10 : Int64) * ((0 : Int64) + (((nar .char z2) - (48 : Int32)).toInt64))) + (((nar .char z4) - (48 : Int32)).toInt64))), .second, .val (.int (0 : Int32)), .unset, .unset] (hb hby at_218) rfl rfl ?_
          refine g_iload X29 hx 222 (hb hby at_220) rfl rfl ?_
          refine g_ifT X29 hx 266 (hb hby at_222) (by decide) (by decide) (by decide) ?_
          refine g_iconst X29 hx 267 (0 : Int32) (hb hby at_266) (by decide) rfl ?_
          refine g_istore X29 hx 269 #[.val (.int a), .val (.int b), .val (.int c), .val (.int d), .val (.int g), .val (.int f), .val (.ref b1), .val (.int (0 : Int32)), .val (.int (2 : Int32)), .val (.long (((10 : Int64) * ((0 : Int64) + (((nar .char z2) - (48 : Int32)).toInt64))) + (((nar .char z4) - (48 : Int32)).toInt64))), .second, .val (.int (0 : Int32)), .unset, .unset] (hb hby at_267) rfl rfl ?_
          refine g_iload X29 hx 271 (hb hby at_269) rfl rfl ?_
          refine g_ifT X29 hx 315 (hb hby at_271) (by decide) (by decide) (by decide) ?_
          refine g_iconst X29 hx 316 (0 : Int32) (hb hby at_315) (by decide) rfl ?_
          refine g_istore X29 hx 318 #[.val (.int a), .val (.int b), .val (.int c), .val (.int d), .val (.int g), .val (.int f), .val (.ref b1), .val (.int (0 : Int32)), .val (.int (2 : Int32)), .val (.long (((10 : Int64) * ((0 : Int64) + (((nar .char z2) - (48 : Int32)).toInt64))) + (((nar .char z4) - (48 : Int32)).toInt64))), .second, .val (.int (0 : Int32)), .unset, .unset] (hb hby at_316) rfl rfl ?_
          refine g_new X29 hx 321 hZ hown (own_w hw 10 rfl) (own_w hw 11 rfl) (own_w hw 12 rfl) e29 (hb hby at_318) (by decide) (by decide) rfl (fun T31 h31 b31 g31 X31 e31 E31 A31 D31 => ?_)
          have ne_b1_b31 : b1 ≠ b31 := Nat.ne_of_lt (Nat.lt_of_lt_of_le V_b1.lt (Nat.le_of_eq g31.symm))
          have V_b1 := V_b1.ext E31
          have G_b31 : n0 ≤ b31 := Nat.le_trans Z12 (Nat.le_of_eq g31.symm)
          have Z31 : n0 ≤ h31.size := Nat.le_trans Z12 E31.1
          have SZ_b31 : h0.size ≤ b31 := Nat.le_trans K12.1 (Nat.le_of_eq g31.symm)
          have K31 := K12.ext E31
          have E_b31 : Exa Z h31 b31 "gleanwell/Grammar$NumberReading" := A31
          have F_b31_decimalSum : Fld Z h31 b31 "gleanwell/Grammar$NumberReading" "decimalSum" "J" (.long (0 : Int64)) := D31 (Or.inl (own_w hw 26 rfl)) (ty := .long) (by decide)
          have F_b31_integerRadix : Fld Z h31 b31 "gleanwell/Grammar$NumberReading" "integerRadix" "I" (.int (0 : Int32)) := D31 (Or.inl (own_w hw 36 rfl)) (ty := .int) (by decide)
          have F_b31_integerKind : Fld Z h31 b31 "gleanwell/Grammar$NumberReading" "integerKind" "I" (.int (0 : Int32)) := D31 (Or.inl (own_w hw 38 rfl)) (ty := .int) (by decide)
          have F_b31_value : Fld Z h31 b31 "gleanwell/Grammar$NumberReading" "value" "J" (.long (0 : Int64)) := D31 (Or.inl (own_w hw 40 rfl)) (ty := .long) (by decide)
          have F_b31_realRead : Fld Z h31 b31 "gleanwell/Grammar$NumberReading" "realRead" "Z" (.int (0 : Int32)) := D31 (Or.inl (own_w hw 42 rfl)) (ty := .boolean) (by decide)
          refine g_dup X31 hx 322 (hb hby at_321) rfl rfl ?_
          refine g_callI X31 hx 325 hZ rfl hown (own_w hw 13 rfl) (own_w hw 14 rfl) (own_w hw 12 rfl) (own_w hw 15 rfl) (by decide) b31 [] [(.ref b31)] (rm3 l Z a0 hw b31 h31 n0 Z31) e31 1 (by decide) (by decide) (by decide) (by decide) (by rw [hml]; rfl) (lenOf own_pd2 rfl) (hb hby at_322) rfl (Nat.le_of_eq rfl) rfl (fun v32 T32 L32 X32 hQ32 => ?_)
          obtain ⟨rfl, N32q, e32⟩ := hQ32
          have N32 := Fr.app N29 N32q
          show Go p e below _ _ T32 (mkF m 325 #[.val (.int a), .val (.int b), .val (.int c), .val (.int d), .val (.int g), .val (.int f), .val (.ref b1), .val (.int (0 : Int32)), .val (.int (2 : Int32)), .val (.long (((10 : Int64) * ((0 : Int64) + (((nar .char z2) - (48 : Int32)).toInt64))) + (((nar .char z4) - (48 : Int32)).toInt64))), .second, .val (.int (0 : Int32)), .unset, .unset] [(.ref b31)])
          refine g_astore X32 hx 327 #[.val (.int a), .val (.int b), .val (.int c), .val (.int d), .val (.int g), .val (.int f), .val (.ref b1), .val (.int (0 : Int32)), .val (.int (2 : Int32)), .val (.long (((10 : Int64) * ((0 : Int64) + (((nar .char z2) - (48 : Int32)).toInt64))) + (((nar .char z4) - (48 : Int32)).toInt64))), .second, .val (.int (0 : Int32)), .val (.ref b31), .unset] (hb hby at_325) rfl rfl rfl ?_
          refine g_aload X32 hx 329 (hb hby at_327) rfl rfl rfl ?_
          refine g_aload X32 hx 331 (hb hby at_329) rfl rfl rfl ?_
          refine g_iload X32 hx 333 (hb hby at_331) rfl rfl ?_
          refine g_callV X32 hx 336 hZ hown (own_w hw 19 rfl) (own_w hw 20 rfl) (own_w hw 22 rfl) (own_w hw 21 rfl) (own_w hw 12 rfl) (own_w hw 23 rfl) (by decide) b31 E_b31 [(.ref b1), (.int (0 : Int32))] [] (rm5_0_2 l Z a0 hw b31 b1 (nar .char z2) (nar .char z4) (nar .char z6) (nar .char z8) (nar .char z10) kl1 _ _ _ _ _ h31 n0 Z31 G_b31 E_b31 F_b31_decimalSum F_b31_integerRadix F_b31_integerKind F_b31_value F_b31_realRead V_b1 (Ne.symm ne_b1_b31) hc14 hc22 hc30) e32 0 (by decide) (by decide) (by decide) (by decide) (by rw [hml]; rfl) (lenOf own_pd3 rfl) (hb hby at_333) rfl (Nat.le_of_eq rfl) rfl (fun v33 T33 L33 X33 hQ33 => ?_)
          obtain ⟨rfl, N33q, K33, E33x, F33_decimalSum, F33_integerRadix, F33_integerKind, F33_value, F33_realRead⟩ := hQ33
          have N33 := Fr.app N32 N33q
          have V_b1 := V_b1.keep K33 (ninS ne_b1_b31 nin0)
          have E_b31 := E_b31.keep K33
          have KK33 : Keep h0 T33.heap [] := K31.trans K33 (allS (Or.inr SZ_b31) all0)
          have Z33 := Nat.le_trans Z31 K33.1
          show Go p e below _ _ T33 (mkF m 336 #[.val (.int a), .val (.int b), .val (.int c), .val (.int d), .val (.int g), .val (.int f), .val (.ref b1), .val (.int (0 : Int32)), .val (.int (2 : Int32)), .val (.long (((10 : Int64) * ((0 : Int64) + (((nar .char z2) - (48 : Int32)).toInt64))) + (((nar .char z4) - (48 : Int32)).toInt64))), .second, .val (.int (0 : Int32)), .val (.ref b31), .unset] [(.int (2 : Int32))])
          refine g_istore X33 hx 338 #[.val (.int a), .val (.int b), .val (.int c), .val (.int d), .val (.int g), .val (.int f), .val (.ref b1), .val (.int (0 : Int32)), .val (.int (2 : Int32)), .val (.long (((10 : Int64) * ((0 : Int64) + (((nar .char z2) - (48 : Int32)).toInt64))) + (((nar .char z4) - (48 : Int32)).toInt64))), .second, .val (.int (0 : Int32)), .val (.ref b31), .val (.int (2 : Int32))] (hb hby at_336) rfl rfl ?_
          refine g_iload X33 hx 340 (hb hby at_338) rfl rfl ?_
          refine g_iload X33 hx 342 (hb hby at_340) rfl rfl ?_
          refine g_icT X33 hx 347 (hb hby at_342) (by decide) (by decide) (by decide) ?_
          refine g_aload X33 hx 349 (hb hby at_347) rfl rfl rfl ?_
          refine g_iconst X33 hx 350 (0 : Int32) (hb hby at_349) (by decide) rfl ?_
          refine g_iload X33 hx 352 (hb hby at_350) rfl rfl ?_
          refine g_iload X33 hx 354 (hb hby at_352) rfl rfl ?_
          refine g_isub X33 hx 355 (2 : Int32) (hb hby at_354) (by decide) rfl ?_
          refine g_callV X33 hx 358 hZ hown (own_w hw 27 rfl) (own_w hw 28 rfl) (own_w hw 30 rfl) (own_w hw 29 rfl) (own_w hw 12 rfl) (own_w hw 31 rfl) (by decide) b31 E_b31 [(.int (0 : Int32)), (.int (2 : Int32))] [] (rm6 l Z a0 hw b31 (2 : Int32) sd ((10 : Int64) * ((0 : Int64) - ((nar .char z2) - (48 : Int32)).toInt64) - ((nar .char z4) - (48 : Int32)).toInt64) _ _ _ _ T33.heap n0 Z33 G_b31 (own_sta_keep S_sd KK33) E_b31 F33_decimalSum F33_integerRadix F33_integerKind F33_value F33_realRead) rfl 0 (by decide) (by decide) (by decide) (by decide) (by rw [hml]; rfl) (lenOf own_pd4 rfl) (hb hby at_355) rfl (Nat.le_of_eq rfl) rfl (fun v34 T34 L34 X34 hQ34 => ?_)
          obtain ⟨rfl, N34q, K34, E34x, F34_value⟩ := hQ34
          have N34 := Fr.app N33 N34q
          have V_b1 := V_b1.keep K34 (ninS ne_b1_b31 nin0)
          have E_b31 := E_b31.keep K34
          have KK34 : Keep h0 T34.heap [] := KK33.trans K34 (allS (Or.inr SZ_b31) all0)
          have Z34 := Nat.le_trans Z33 K34.1
          show Go p e below _ _ T34 (mkF m 358 #[.val (.int a), .val (.int b), .val (.int c), .val (.int d), .val (.int g), .val (.int f), .val (.ref b1), .val (.int (0 : Int32)), .val (.int (2 : Int32)), .val (.long (((10 : Int64) * ((0 : Int64) + (((nar .char z2) - (48 : Int32)).toInt64))) + (((nar .char z4) - (48 : Int32)).toInt64))), .second, .val (.int (0 : Int32)), .val (.ref b31), .val (.int (2 : Int32))] [])
          refine g_aload X34 hx 360 (hb hby at_358) rfl rfl rfl ?_
          refine g_callV X34 hx 363 hZ hown (own_w hw 43 rfl) (own_w hw 44 rfl) (own_w hw 46 rfl) (own_w hw 45 rfl) (own_w hw 12 rfl) (own_w hw 47 rfl) (by decide) b31 E_b31 [] [] (rm7 l Z a0 hw b31 (-((10 : Int64) * ((0 : Int64) - ((nar .char z2) - (48 : Int32)).toInt64) - ((nar .char z4) - (48 : Int32)).toInt64)) T34.heap n0 Z34 F34_value) rfl 0 (by decide) (by decide) (by decide) (by decide) (by rw [hml]; rfl) (lenOf own_pd5 rfl) (hb hby at_360) rfl (Nat.le_of_eq rfl) rfl (fun v35 T35 L35 X35 hQ35 => ?_)
          obtain ⟨rfl, N35q, e35⟩ := hQ35
          have N35 := Fr.app N34 N35q
          show Go p e below _ _ T35 (mkF m 363 #[.val (.int a), .val (.int b), .val (.int c), .val (.int d), .val (.int g), .val (.int f), .val (.ref b1), .val (.int (0 : Int32)), .val (.int (2 : Int32)), .val (.long (((10 : Int64) * ((0 : Int64) + (((nar .char z2) - (48 : Int32)).toInt64))) + (((nar .char z4) - (48 : Int32)).toInt64))), .second, .val (.int (0 : Int32)), .val (.ref b31), .val (.int (2 : Int32))] [(.long (-((10 : Int64) * ((0 : Int64) - ((nar .char z2) - (48 : Int32)).toInt64) - ((nar .char z4) - (48 : Int32)).toInt64)))])
          refine g_lload X35 hx 365 (hb hby at_363) rfl rfl ?_
          refine g_lcmp X35 hx 366 (hb hby at_365) rfl ?_
          have hk36 : (-((10 : Int64) * ((0 : Int64) - ((nar .char z2) - (48 : Int32)).toInt64) - ((nar .char z4) - (48 : Int32)).toInt64)) = (((10 : Int64) * ((0 : Int64) + (((nar .char z2) - (48 : Int32)).toInt64))) + (((nar .char z4) - (48 : Int32)).toInt64)) := by grind
          refine g_ifF X35 hx 369 (hb hby at_366) (own_eqL hk36).2 rfl ?_
          refine g_iconst X35 hx 370 (1 : Int32) (hb hby at_369) (by decide) rfl ?_
          refine g_goto X35 hx 374 (hb hby at_370) (by decide) (by decide) ?_
          exact g_retZ X35 hx hret hlk rfl (hb hby at_374) (by decide) (by decide) ⟨rfl, N35⟩
        · refine g_ifF X29 hx 193 (hb hby at_190) ((if0 _ _).trans (feq hc30).1) rfl ?_
          refine g_ldc2J X29 hx 196 hZ hown (own_w hw 9 rfl) (hb hby at_193) rfl ?_
          refine g_lload X29 hx 198 (hb hby at_196) rfl rfl ?_
          refine g_lmul X29 hx 199 ((10 : Int64) * (((10 : Int64) * ((0 : Int64) + (((nar .char z2) - (48 : Int32)).toInt64))) + (((nar .char z4) - (48 : Int32)).toInt64))) (hb hby at_198) rfl rfl ?_
          refine g_aload X29 hx 201 (hb hby at_199) rfl rfl rfl ?_
          refine g_iload X29 hx 203 (hb hby at_201) rfl rfl ?_
          refine g_caload X29 hx 204 hZ e29 V_b1 ⟨by decide, by decide⟩ (show _ = (.int (nar .char z6)) from rfl) (hb hby at_203) rfl ?_
          refine g_bipush X29 hx 206 (48 : Int32) (hb hby at_204) (by decide) rfl ?_
          refine g_isub X29 hx 207 ((nar .char z6) - (48 : Int32)) (hb hby at_206) rfl rfl ?_
          refine g_i2l X29 hx 208 (((nar .char z6) - (48 : Int32)).toInt64) (hb hby at_207) rfl rfl ?_
          refine g_ladd X29 hx 209 (((10 : Int64) * (((10 : Int64) * ((0 : Int64) + (((nar .char z2) - (48 : Int32)).toInt64))) + (((nar .char z4) - (48 : Int32)).toInt64))) + (((nar .char z6) - (48 : Int32)).toInt64)) (hb hby at_208) rfl rfl ?_
          refine g_lstore X29 hx 211 #[.val (.int a), .val (.int b), .val (.int c), .val (.int d), .val (.int g), .val (.int f), .val (.ref b1), .val (.int (0 : Int32)), .val (.int (2 : Int32)), .val (.long (((10 : Int64) * (((10 : Int64) * ((0 : Int64) + (((nar .char z2) - (48 : Int32)).toInt64))) + (((nar .char z4) - (48 : Int32)).toInt64))) + (((nar .char z6) - (48 : Int32)).toInt64))), .second, .val (.int (1 : Int32)), .unset, .unset] (hb hby at_209) rfl rfl ?_
          refine g_iinc X29 hx 214 (3 : Int32) #[.val (.int a), .val (.int b), .val (.int c), .val (.int d), .val (.int g), .val (.int f), .val (.ref b1), .val (.int (0 : Int32)), .val (.int (3 : Int32)), .val (.long (((10 : Int64) * (((10 : Int64) * ((0 : Int64) + (((nar .char z2) - (48 : Int32)).toInt64))) + (((nar .char z4) - (48 : Int32)).toInt64))) + (((nar .char z6) - (48 : Int32)).toInt64))), .second, .val (.int (1 : Int32)), .unset, .unset] (hb hby at_211) rfl (by decide) rfl rfl ?_
          refine g_goto X29 hx 220 (hb hby at_214) (by decide) (by decide) ?_
          refine g_iload X29 hx 222 (hb hby at_220) rfl rfl ?_
          refine g_ifF X29 hx 225 (hb hby at_222) (by decide) rfl ?_
          refine g_iload X29 hx 227 (hb hby at_225) rfl rfl ?_
          refine g_iconst X29 hx 228 (5 : Int32) (hb hby at_227) (by decide) rfl ?_
          refine g_icF X29 hx 231 (hb hby at_228) (by decide) rfl ?_
          refine g_aload X29 hx 233 (hb hby at_231) rfl rfl rfl ?_
          refine g_iload X29 hx 235 (hb hby at_233) rfl rfl ?_
          refine g_caload X29 hx 236 hZ e29 V_b1 ⟨by decide, by decide⟩ (show _ = (.int (nar .char z8)) from rfl) (hb hby at_235) rfl ?_
          refine g_callS X29 hx 239 hZ hown (own_w hw 6 rfl) (own_w hw 7 rfl) (own_w hw 3 rfl) (own_w hw 8 rfl) (by decide) [(.int (nar .char z8))] [] (rm2 l Z a0 hw (nar .char z8) h12 n0 Z12) e29 0 (by decide) (by decide) (by decide) (by decide) (by rw [hml]; rfl) (lenOf own_pd1 rfl) (hb hby at_236) rfl (Nat.le_of_eq rfl) rfl (fun v37 T37 L37 X37 hQ37 => ?_)
          obtain ⟨rfl, N37q, e37⟩ := hQ37
          have N37 := Fr.app N29 N37q
          show Go p e below _ _ T37 (mkF m 239 #[.val (.int a), .val (.int b), .val (.int c), .val (.int d), .val (.int g), .val (.int f), .val (.ref b1), .val (.int (0 : Int32)), .val (.int (3 : Int32)), .val (.long (((10 : Int64) * (((10 : Int64) * ((0 : Int64) + (((nar .char z2) - (48 : Int32)).toInt64))) + (((nar .char z4) - (48 : Int32)).toInt64))) + (((nar .char z6) - (48 : Int32)).toInt64))), .second, .val (.int (1 : Int32)), .unset, .unset] [(.int (own_dig (nar .char z8)))])
          by_cases hc38 : (own_dig (nar .char z8)) = (0 : Int32)
          · refine g_ifT X37 hx 266 (hb hby at_239) ((if0 _ _).trans (teq hc38).1) (by decide) (by decide) ?_
            refine g_iconst X37 hx 267 (0 : Int32) (hb hby at_266) (by decide) rfl ?_
            refine g_istore X37 hx 269 #[.val (.int a), .val (.int b), .val (.int c), .val (.int d), .val (.int g), .val (.int f), .val (.ref b1), .val (.int (0 : Int32)), .val (.int (3 : Int32)), .val (.long (((10 : Int64) * (((10 : Int64) * ((0 : Int64) + (((nar .char z2) - (48 : Int32)).toInt64))) + (((nar .char z4) - (48 : Int32)).toInt64))) + (((nar .char z6) - (48 : Int32)).toInt64))), .second, .val (.int (0 : Int32)), .unset, .unset] (hb hby at_267) rfl rfl ?_
            refine g_iload X37 hx 271 (hb hby at_269) rfl rfl ?_
            refine g_ifT X37 hx 315 (hb hby at_271) (by decide) (by decide) (by decide) ?_
            refine g_iconst X37 hx 316 (0 : Int32) (hb hby at_315) (by decide) rfl ?_
            refine g_istore X37 hx 318 #[.val (.int a), .val (.int b), .val (.int c), .val (.int d), .val (.int g), .val (.int f), .val (.ref b1), .val (.int (0 : Int32)), .val (.int (3 : Int32)), .val (.long (((10 : Int64) * (((10 : Int64) * ((0 : Int64) + (((nar .char z2) - (48 : Int32)).toInt64))) + (((nar .char z4) - (48 : Int32)).toInt64))) + (((nar .char z6) - (48 : Int32)).toInt64))), .second, .val (.int (0 : Int32)), .unset, .unset] (hb hby at_316) rfl rfl ?_
            refine g_new X37 hx 321 hZ hown (own_w hw 10 rfl) (own_w hw 11 rfl) (own_w hw 12 rfl) e37 (hb hby at_318) (by decide) (by decide) rfl (fun T39 h39 b39 g39 X39 e39 E39 A39 D39 => ?_)
            have ne_b1_b39 : b1 ≠ b39 := Nat.ne_of_lt (Nat.lt_of_lt_of_le V_b1.lt (Nat.le_of_eq g39.symm))
            have V_b1 := V_b1.ext E39
            have G_b39 : n0 ≤ b39 := Nat.le_trans Z12 (Nat.le_of_eq g39.symm)
            have Z39 : n0 ≤ h39.size := Nat.le_trans Z12 E39.1
            have SZ_b39 : h0.size ≤ b39 := Nat.le_trans K12.1 (Nat.le_of_eq g39.symm)
            have K39 := K12.ext E39
            have E_b39 : Exa Z h39 b39 "gleanwell/Grammar$NumberReading" := A39
            have F_b39_decimalSum : Fld Z h39 b39 "gleanwell/Grammar$NumberReading" "decimalSum" "J" (.long (0 : Int64)) := D39 (Or.inl (own_w hw 26 rfl)) (ty := .long) (by decide)
            have F_b39_integerRadix : Fld Z h39 b39 "gleanwell/Grammar$NumberReading" "integerRadix" "I" (.int (0 : Int32)) := D39 (Or.inl (own_w hw 36 rfl)) (ty := .int) (by decide)
            have F_b39_integerKind : Fld Z h39 b39 "gleanwell/Grammar$NumberReading" "integerKind" "I" (.int (0 : Int32)) := D39 (Or.inl (own_w hw 38 rfl)) (ty := .int) (by decide)
            have F_b39_value : Fld Z h39 b39 "gleanwell/Grammar$NumberReading" "value" "J" (.long (0 : Int64)) := D39 (Or.inl (own_w hw 40 rfl)) (ty := .long) (by decide)
            have F_b39_realRead : Fld Z h39 b39 "gleanwell/Grammar$NumberReading" "realRead" "Z" (.int (0 : Int32)) := D39 (Or.inl (own_w hw 42 rfl)) (ty := .boolean) (by decide)
            refine g_dup X39 hx 322 (hb hby at_321) rfl rfl ?_
            refine g_callI X39 hx 325 hZ rfl hown (own_w hw 13 rfl) (own_w hw 14 rfl) (own_w hw 12 rfl) (own_w hw 15 rfl) (by decide) b39 [] [(.ref b39)] (rm3 l Z a0 hw b39 h39 n0 Z39) e39 1 (by decide) (by decide) (by decide) (by decide) (by rw [hml]; rfl) (lenOf own_pd2 rfl) (hb hby at_322) rfl (Nat.le_of_eq rfl) rfl (fun v40 T40 L40 X40 hQ40 => ?_)
            obtain ⟨rfl, N40q, e40⟩ := hQ40
            have N40 := Fr.app N37 N40q
            show Go p e below _ _ T40 (mkF m 325 #[.val (.int a), .val (.int b), .val (.int c), .val (.int d), .val (.int g), .val (.int f), .val (.ref b1), .val (.int (0 : Int32)), .val (.int (3 : Int32)), .val (.long (((10 : Int64) * (((10 : Int64) * ((0 : Int64) + (((nar .char z2) - (48 : Int32)).toInt64))) + (((nar .char z4) - (48 : Int32)).toInt64))) + (((nar .char z6) - (48 : Int32)).toInt64))), .second, .val (.int (0 : Int32)), .unset, .unset] [(.ref b39)])
            refine g_astore X40 hx 327 #[.val (.int a), .val (.int b), .val (.int c), .val (.int d), .val (.int g), .val (.int f), .val (.ref b1), .val (.int (0 : Int32)), .val (.int (3 : Int32)), .val (.long (((10 : Int64) * (((10 : Int64) * ((0 : Int64) + (((nar .char z2) - (48 : Int32)).toInt64))) + (((nar .char z4) - (48 : Int32)).toInt64))) + (((nar .char z6) - (48 : Int32)).toInt64))), .second, .val (.int (0 : Int32)), .val (.ref b39), .unset] (hb hby at_325) rfl rfl rfl ?_
            refine g_aload X40 hx 329 (hb hby at_327) rfl rfl rfl ?_
            refine g_aload X40 hx 331 (hb hby at_329) rfl rfl rfl ?_
            refine g_iload X40 hx 333 (hb hby at_331) rfl rfl ?_
            refine g_callV X40 hx 336 hZ hown (own_w hw 19 rfl) (own_w hw 20 rfl) (own_w hw 22 rfl) (own_w hw 21 rfl) (own_w hw 12 rfl) (own_w hw 23 rfl) (by decide) b39 E_b39 [(.ref b1), (.int (0 : Int32))] [] (rm5_0_3 l Z a0 hw b39 b1 (nar .char z2) (nar .char z4) (nar .char z6) (nar .char z8) (nar .char z10) kl1 _ _ _ _ _ h39 n0 Z39 G_b39 E_b39 F_b39_decimalSum F_b39_integerRadix F_b39_integerKind F_b39_value F_b39_realRead V_b1 (Ne.symm ne_b1_b39) hc14 hc22 hc30 hc38) e40 0 (by decide) (by decide) (by decide) (by decide) (by rw [hml]; rfl) (lenOf own_pd3 rfl) (hb hby at_333) rfl (Nat.le_of_eq rfl) rfl (fun v41 T41 L41 X41 hQ41 => ?_)
            obtain ⟨rfl, N41q, K41, E41x, F41_decimalSum, F41_integerRadix, F41_integerKind, F41_value, F41_realRead⟩ := hQ41
            have N41 := Fr.app N40 N41q
            have V_b1 := V_b1.keep K41 (ninS ne_b1_b39 nin0)
            have E_b39 := E_b39.keep K41
            have KK41 : Keep h0 T41.heap [] := K39.trans K41 (allS (Or.inr SZ_b39) all0)
            have Z41 := Nat.le_trans Z39 K41.1
            show Go p e below _ _ T41 (mkF m 336 #[.val (.int a), .val (.int b), .val (.int c), .val (.int d), .val (.int g), .val (.int f), .val (.ref b1), .val (.int (0 : Int32)), .val (.int (3 : Int32)), .val (.long (((10 : Int64) * (((10 : Int64) * ((0 : Int64) + (((nar .char z2) - (48 : Int32)).toInt64))) + (((nar .char z4) - (48 : Int32)).toInt64))) + (((nar .char z6) - (48 : Int32)).toInt64))), .second, .val (.int (0 : Int32)), .val (.ref b39), .unset] [(.int (3 : Int32))])
            refine g_istore X41 hx 338 #[.val (.int a), .val (.int b), .val (.int c), .val (.int d), .val (.int g), .val (.int f), .val (.ref b1), .val (.int (0 : Int32)), .val (.int (3 : Int32)), .val (.long (((10 : Int64) * (((10 : Int64) * ((0 : Int64) + (((nar .char z2) - (48 : Int32)).toInt64))) + (((nar .char z4) - (48 : Int32)).toInt64))) + (((nar .char z6) - (48 : Int32)).toInt64))), .second, .val (.int (0 : Int32)), .val (.ref b39), .val (.int (3 : Int32))] (hb hby at_336) rfl rfl ?_
            refine g_iload X41 hx 340 (hb hby at_338) rfl rfl ?_
            refine g_iload X41 hx 342 (hb hby at_340) rfl rfl ?_
            refine g_icT X41 hx 347 (hb hby at_342) (by decide) (by decide) (by decide) ?_
            refine g_aload X41 hx 349 (hb hby at_347) rfl rfl rfl ?_
            refine g_iconst X41 hx 350 (0 : Int32) (hb hby at_349) (by decide) rfl ?_
            refine g_iload X41 hx 352 (hb hby at_350) rfl rfl ?_
            refine g_iload X41 hx 354 (hb hby at_352) rfl rfl ?_
            refine g_isub X41 hx 355 (3 : Int32) (hb hby at_354) (by decide) rfl ?_
            refine g_callV X41 hx 358 hZ hown (own_w hw 27 rfl) (own_w hw 28 rfl) (own_w hw 30 rfl) (own_w hw 29 rfl) (own_w hw 12 rfl) (own_w hw 31 rfl) (by decide) b39 E_b39 [(.int (0 : Int32)), (.int (3 : Int32))] [] (rm6 l Z a0 hw b39 (3 : Int32) sd ((10 : Int64) * ((10 : Int64) * ((0 : Int64) - ((nar .char z2) - (48 : Int32)).toInt64) - ((nar .char z4) - (48 : Int32)).toInt64) - ((nar .char z6) - (48 : Int32)).toInt64) _ _ _ _ T41.heap n0 Z41 G_b39 (own_sta_keep S_sd KK41) E_b39 F41_decimalSum F41_integerRadix F41_integerKind F41_value F41_realRead) rfl 0 (by decide) (by decide) (by decide) (by decide) (by rw [hml]; rfl) (lenOf own_pd4 rfl) (hb hby at_355) rfl (Nat.le_of_eq rfl) rfl (fun v42 T42 L42 X42 hQ42 => ?_)
            obtain ⟨rfl, N42q, K42, E42x, F42_value⟩ := hQ42
            have N42 := Fr.app N41 N42q
            have V_b1 := V_b1.keep K42 (ninS ne_b1_b39 nin0)
            have E_b39 := E_b39.keep K42
            have KK42 : Keep h0 T42.heap [] := KK41.trans K42 (allS (Or.inr SZ_b39) all0)
            have Z42 := Nat.le_trans Z41 K42.1
            show Go p e below _ _ T42 (mkF m 358 #[.val (.int a), .val (.int b), .val (.int c), .val (.int d), .val (.int g), .val (.int f), .val (.ref b1), .val (.int (0 : Int32)), .val (.int (3 : Int32)), .val (.long (((10 : Int64) * (((10 : Int64) * ((0 : Int64) + (((nar .char z2) - (48 : Int32)).toInt64))) + (((nar .char z4) - (48 : Int32)).toInt64))) + (((nar .char z6) - (48 : Int32)).toInt64))), .second, .val (.int (0 : Int32)), .val (.ref b39), .val (.int (3 : Int32))] [])
            refine g_aload X42 hx 360 (hb hby at_358) rfl rfl rfl ?_
            refine g_callV X42 hx 363 hZ hown (own_w hw 43 rfl) (own_w hw 44 rfl) (own_w hw 46 rfl) (own_w hw 45 rfl) (own_w hw 12 rfl) (own_w hw 47 rfl) (by decide) b39 E_b39 [] [] (rm7 l Z a0 hw b39 (-((10 : Int64) * ((10 : Int64) * ((0 : Int64) - ((nar .char z2) - (48 : Int32)).toInt64) - ((nar .char z4) - (48 : Int32)).toInt64) - ((nar .char z6) - (48 : Int32)).toInt64)) T42.heap n0 Z42 F42_value) rfl 0 (by decide) (by decide) (by decide) (by decide) (by rw [hml]; rfl) (lenOf own_pd5 rfl) (hb hby at_360) rfl (Nat.le_of_eq rfl) rfl (fun v43 T43 L43 X43 hQ43 => ?_)
            obtain ⟨rfl, N43q, e43⟩ := hQ43
            have N43 := Fr.app N42 N43q
            show Go p e below _ _ T43 (mkF m 363 #[.val (.int a), .val (.int b), .val (.int c), .val (.int d), .val (.int g), .val (.int f), .val (.ref b1), .val (.int (0 : Int32)), .val (.int (3 : Int32)), .val (.long (((10 : Int64) * (((10 : Int64) * ((0 : Int64) + (((nar .char z2) - (48 : Int32)).toInt64))) + (((nar .char z4) - (48 : Int32)).toInt64))) + (((nar .char z6) - (48 : Int32)).toInt64))), .second, .val (.int (0 : Int32)), .val (.ref b39), .val (.int (3 : Int32))] [(.long (-((10 : Int64) * ((10 : Int64) * ((0 : Int64) - ((nar .char z2) - (48 : Int32)).toInt64) - ((nar .char z4) - (48 : Int32)).toInt64) - ((nar .char z6) - (48 : Int32)).toInt64)))])
            refine g_lload X43 hx 365 (hb hby at_363) rfl rfl ?_
            refine g_lcmp X43 hx 366 (hb hby at_365) rfl ?_
            have hk44 : (-((10 : Int64) * ((10 : Int64) * ((0 : Int64) - ((nar .char z2) - (48 : Int32)).toInt64) - ((nar .char z4) - (48 : Int32)).toInt64) - ((nar .char z6) - (48 : Int32)).toInt64)) = (((10 : Int64) * (((10 : Int64) * ((0 : Int64) + (((nar .char z2) - (48 : Int32)).toInt64))) + (((nar .char z4) - (48 : Int32)).toInt64))) + (((nar .char z6) - (48 : Int32)).toInt64)) := by grind
            refine g_ifF X43 hx 369 (hb hby at_366) (own_eqL hk44).2 rfl ?_
            refine g_iconst X43 hx 370 (1 : Int32) (hb hby at_369) (by decide) rfl ?_
            refine g_goto X43 hx 374 (hb hby at_370) (by decide) (by decide) ?_
            exact g_retZ X43 hx hret hlk rfl (hb hby at_374) (by decide) (by decide) ⟨rfl, N43⟩
          · refine g_ifF X37 hx 242 (hb hby at_239) ((if0 _ _).trans (feq hc38).1) rfl ?_
            refine g_ldc2J X37 hx 245 hZ hown (own_w hw 9 rfl) (hb hby at_242) rfl ?_
            refine g_lload X37 hx 247 (hb hby at_245) rfl rfl ?_
            refine g_lmul X37 hx 248 ((10 : Int64) * (((10 : Int64) * (((10 : Int64) * ((0 : Int64) + (((nar .char z2) - (48 : Int32)).toInt64))) + (((nar .char z4) - (48 : Int32)).toInt64))) + (((nar .char z6) - (48 : Int32)).toInt64))) (hb hby at_247) rfl rfl ?_
            refine g_aload X37 hx 250 (hb hby at_248) rfl rfl rfl ?_
            refine g_iload X37 hx 252 (hb hby at_250) rfl rfl ?_
            refine g_caload X37 hx 253 hZ e37 V_b1 ⟨by decide, by decide⟩ (show _ = (.int (nar .char z8)) from rfl) (hb hby at_252) rfl ?_
            refine g_bipush X37 hx 255 (48 : Int32) (hb hby at_253) (by decide) rfl ?_
            refine g_isub X37 hx 256 ((nar .char z8) - (48 : Int32)) (hb hby at_255) rfl rfl ?_
            refine g_i2l X37 hx 257 (((nar .char z8) - (48 : Int32)).toInt64) (hb hby at_256) rfl rfl ?_
            refine g_ladd X37 hx 258 (((10 : Int64) * (((10 : Int64) * (((10 : Int64) * ((0 : Int64) + (((nar .char z2) - (48 : Int32)).toInt64))) + (((nar .char z4) - (48 : Int32)).toInt64))) + (((nar .char z6) - (48 : Int32)).toInt64))) + (((nar .char z8) - (48 : Int32)).toInt64)) (hb hby at_257) rfl rfl ?_
            refine g_lstore X37 hx 260 #[.val (.int a), .val (.int b), .val (.int c), .val (.int d), .val (.int g), .val (.int f), .val (.ref b1), .val (.int (0 : Int32)), .val (.int (3 : Int32)), .val (.long (((10 : Int64) * (((10 : Int64) * (((10 : Int64) * ((0 : Int64) + (((nar .char z2) - (48 : Int32)).toInt64))) + (((nar .char z4) - (48 : Int32)).toInt64))) + (((nar .char z6) - (48 : Int32)).toInt64))) + (((nar .char z8) - (48 : Int32)).toInt64))), .second, .val (.int (1 : Int32)), .unset, .unset] (hb hby at_258) rfl rfl ?_
            refine g_iinc X37 hx 263 (4 : Int32) #[.val (.int a), .val (.int b), .val (.int c), .val (.int d), .val (.int g), .val (.int f), .val (.ref b1), .val (.int (0 : Int32)), .val (.int (4 : Int32)), .val (.long (((10 : Int64) * (((10 : Int64) * (((10 : Int64) * ((0 : Int64) + (((nar .char z2) - (48 : Int32)).toInt64))) + (((nar .char z4) - (48 : Int32)).toInt64))) + (((nar .char z6) - (48 : Int32)).toInt64))) + (((nar .char z8) - (48 : Int32)).toInt64))), .second, .val (.int (1 : Int32)), .unset, .unset] (hb hby at_260) rfl (by decide) rfl rfl ?_
            refine g_goto X37 hx 269 (hb hby at_263) (by decide) (by decide) ?_
            refine g_iload X37 hx 271 (hb hby at_269) rfl rfl ?_
            refine g_ifF X37 hx 274 (hb hby at_271) (by decide) rfl ?_
            refine g_iload X37 hx 276 (hb hby at_274) rfl rfl ?_
            refine g_iconst X37 hx 277 (5 : Int32) (hb hby at_276) (by decide) rfl ?_
            refine g_icF X37 hx 280 (hb hby at_277) (by decide) rfl ?_
            refine g_aload X37 hx 282 (hb hby at_280) rfl rfl rfl ?_
            refine g_iload X37 hx 284 (hb hby at_282) rfl rfl ?_
            refine g_caload X37 hx 285 hZ e37 V_b1 ⟨by decide, by decide⟩ (show _ = (.int (nar .char z10)) from rfl) (hb hby at_284) rfl ?_
            refine g_callS X37 hx 288 hZ hown (own_w hw 6 rfl) (own_w hw 7 rfl) (own_w hw 3 rfl) (own_w hw 8 rfl) (by decide) [(.int (nar .char z10))] [] (rm2 l Z a0 hw (nar .char z10) h12 n0 Z12) e37 0 (by decide) (by decide) (by decide) (by decide) (by rw [hml]; rfl) (lenOf own_pd1 rfl) (hb hby at_285) rfl (Nat.le_of_eq rfl) rfl (fun v45 T45 L45 X45 hQ45 => ?_)
            obtain ⟨rfl, N45q, e45⟩ := hQ45
            have N45 := Fr.app N37 N45q
            show Go p e below _ _ T45 (mkF m 288 #[.val (.int a), .val (.int b), .val (.int c), .val (.int d), .val (.int g), .val (.int f), .val (.ref b1), .val (.int (0 : Int32)), .val (.int (4 : Int32)), .val (.long (((10 : Int64) * (((10 : Int64) * (((10 : Int64) * ((0 : Int64) + (((nar .char z2) - (48 : Int32)).toInt64))) + (((nar .char z4) - (48 : Int32)).toInt64))) + (((nar .char z6) - (48 : Int32)).toInt64))) + (((nar .char z8) - (48 : Int32)).toInt64))), .second, .val (.int (1 : Int32)), .unset, .unset] [(.int (own_dig (nar .char z10)))])
            by_cases hc46 : (own_dig (nar .char z10)) = (0 : Int32)
            · refine g_ifT X45 hx 315 (hb hby at_288) ((if0 _ _).trans (teq hc46).1) (by decide) (by decide) ?_
              refine g_iconst X45 hx 316 (0 : Int32) (hb hby at_315) (by decide) rfl ?_
              refine g_istore X45 hx 318 #[.val (.int a), .val (.int b), .val (.int c), .val (.int d), .val (.int g), .val (.int f), .val (.ref b1), .val (.int (0 : Int32)), .val (.int (4 : Int32)), .val (.long (((10 : Int64) * (((10 : Int64) * (((10 : Int64) * ((0 : Int64) + (((nar .char z2) - (48 : Int32)).toInt64))) + (((nar .char z4) - (48 : Int32)).toInt64))) + (((nar .char z6) - (48 : Int32)).toInt64))) + (((nar .char z8) - (48 : Int32)).toInt64))), .second, .val (.int (0 : Int32)), .unset, .unset] (hb hby at_316) rfl rfl ?_
              refine g_new X45 hx 321 hZ hown (own_w hw 10 rfl) (own_w hw 11 rfl) (own_w hw 12 rfl) e45 (hb hby at_318) (by decide) (by decide) rfl (fun T47 h47 b47 g47 X47 e47 E47 A47 D47 => ?_)
              have ne_b1_b47 : b1 ≠ b47 := Nat.ne_of_lt (Nat.lt_of_lt_of_le V_b1.lt (Nat.le_of_eq g47.symm))
              have V_b1 := V_b1.ext E47
              have G_b47 : n0 ≤ b47 := Nat.le_trans Z12 (Nat.le_of_eq g47.symm)
              have Z47 : n0 ≤ h47.size := Nat.le_trans Z12 E47.1
              have SZ_b47 : h0.size ≤ b47 := Nat.le_trans K12.1 (Nat.le_of_eq g47.symm)
              have K47 := K12.ext E47
              have E_b47 : Exa Z h47 b47 "gleanwell/Grammar$NumberReading" := A47
              have F_b47_decimalSum : Fld Z h47 b47 "gleanwell/Grammar$NumberReading" "decimalSum" "J" (.long (0 : Int64)) := D47 (Or.inl (own_w hw 26 rfl)) (ty := .long) (by decide)
              have F_b47_integerRadix : Fld Z h47 b47 "gleanwell/Grammar$NumberReading" "integerRadix" "I" (.int (0 : Int32)) := D47 (Or.inl (own_w hw 36 rfl)) (ty := .int) (by decide)
              have F_b47_integerKind : Fld Z h47 b47 "gleanwell/Grammar$NumberReading" "integerKind" "I" (.int (0 : Int32)) := D47 (Or.inl (own_w hw 38 rfl)) (ty := .int) (by decide)
              have F_b47_value : Fld Z h47 b47 "gleanwell/Grammar$NumberReading" "value" "J" (.long (0 : Int64)) := D47 (Or.inl (own_w hw 40 rfl)) (ty := .long) (by decide)
              have F_b47_realRead : Fld Z h47 b47 "gleanwell/Grammar$NumberReading" "realRead" "Z" (.int (0 : Int32)) := D47 (Or.inl (own_w hw 42 rfl)) (ty := .boolean) (by decide)
              refine g_dup X47 hx 322 (hb hby at_321) rfl rfl ?_
              refine g_callI X47 hx 325 hZ rfl hown (own_w hw 13 rfl) (own_w hw 14 rfl) (own_w hw 12 rfl) (own_w hw 15 rfl) (by decide) b47 [] [(.ref b47)] (rm3 l Z a0 hw b47 h47 n0 Z47) e47 1 (by decide) (by decide) (by decide) (by decide) (by rw [hml]; rfl) (lenOf own_pd2 rfl) (hb hby at_322) rfl (Nat.le_of_eq rfl) rfl (fun v48 T48 L48 X48 hQ48 => ?_)
              obtain ⟨rfl, N48q, e48⟩ := hQ48
              have N48 := Fr.app N45 N48q
              show Go p e below _ _ T48 (mkF m 325 #[.val (.int a), .val (.int b), .val (.int c), .val (.int d), .val (.int g), .val (.int f), .val (.ref b1), .val (.int (0 : Int32)), .val (.int (4 : Int32)), .val (.long (((10 : Int64) * (((10 : Int64) * (((10 : Int64) * ((0 : Int64) + (((nar .char z2) - (48 : Int32)).toInt64))) + (((nar .char z4) - (48 : Int32)).toInt64))) + (((nar .char z6) - (48 : Int32)).toInt64))) + (((nar .char z8) - (48 : Int32)).toInt64))), .second, .val (.int (0 : Int32)), .unset, .unset] [(.ref b47)])
              refine g_astore X48 hx 327 #[.val (.int a), .val (.int b), .val (.int c), .val (.int d), .val (.int g), .val (.int f), .val (.ref b1), .val (.int (0 : Int32)), .val (.int (4 : Int32)), .val (.long (((10 : Int64) * (((10 : Int64) * (((10 : Int64) * ((0 : Int64) + (((nar .char z2) - (48 : Int32)).toInt64))) + (((nar .char z4) - (48 : Int32)).toInt64))) + (((nar .char z6) - (48 : Int32)).toInt64))) + (((nar .char z8) - (48 : Int32)).toInt64))), .second, .val (.int (0 : Int32)), .val (.ref b47), .unset] (hb hby at_325) rfl rfl rfl ?_
              refine g_aload X48 hx 329 (hb hby at_327) rfl rfl rfl ?_
              refine g_aload X48 hx 331 (hb hby at_329) rfl rfl rfl ?_
              refine g_iload X48 hx 333 (hb hby at_331) rfl rfl ?_
              refine g_callV X48 hx 336 hZ hown (own_w hw 19 rfl) (own_w hw 20 rfl) (own_w hw 22 rfl) (own_w hw 21 rfl) (own_w hw 12 rfl) (own_w hw 23 rfl) (by decide) b47 E_b47 [(.ref b1), (.int (0 : Int32))] [] (rm5_0_4 l Z a0 hw b47 b1 (nar .char z2) (nar .char z4) (nar .char z6) (nar .char z8) (nar .char z10) kl1 _ _ _ _ _ h47 n0 Z47 G_b47 E_b47 F_b47_decimalSum F_b47_integerRadix F_b47_integerKind F_b47_value F_b47_realRead V_b1 (Ne.symm ne_b1_b47) hc14 hc22 hc30 hc38 hc46) e48 0 (by decide) (by decide) (by decide) (by decide) (by rw [hml]; rfl) (lenOf own_pd3 rfl) (hb hby at_333) rfl (Nat.le_of_eq rfl) rfl (fun v49 T49 L49 X49 hQ49 => ?_)
              obtain ⟨rfl, N49q, K49, E49x, F49_decimalSum, F49_integerRadix, F49_integerKind, F49_value, F49_realRead⟩ := hQ49
              have N49 := Fr.app N48 N49q
              have V_b1 := V_b1.keep K49 (ninS ne_b1_b47 nin0)
              have E_b47 := E_b47.keep K49
              have KK49 : Keep h0 T49.heap [] := K47.trans K49 (allS (Or.inr SZ_b47) all0)
              have Z49 := Nat.le_trans Z47 K49.1
              show Go p e below _ _ T49 (mkF m 336 #[.val (.int a), .val (.int b), .val (.int c), .val (.int d), .val (.int g), .val (.int f), .val (.ref b1), .val (.int (0 : Int32)), .val (.int (4 : Int32)), .val (.long (((10 : Int64) * (((10 : Int64) * (((10 : Int64) * ((0 : Int64) + (((nar .char z2) - (48 : Int32)).toInt64))) + (((nar .char z4) - (48 : Int32)).toInt64))) + (((nar .char z6) - (48 : Int32)).toInt64))) + (((nar .char z8) - (48 : Int32)).toInt64))), .second, .val (.int (0 : Int32)), .val (.ref b47), .unset] [(.int (4 : Int32))])
              refine g_istore X49 hx 338 #[.val (.int a), .val (.int b), .val (.int c), .val (.int d), .val (.int g), .val (.int f), .val (.ref b1), .val (.int (0 : Int32)), .val (.int (4 : Int32)), .val (.long (((10 : Int64) * (((10 : Int64) * (((10 : Int64) * ((0 : Int64) + (((nar .char z2) - (48 : Int32)).toInt64))) + (((nar .char z4) - (48 : Int32)).toInt64))) + (((nar .char z6) - (48 : Int32)).toInt64))) + (((nar .char z8) - (48 : Int32)).toInt64))), .second, .val (.int (0 : Int32)), .val (.ref b47), .val (.int (4 : Int32))] (hb hby at_336) rfl rfl ?_
              refine g_iload X49 hx 340 (hb hby at_338) rfl rfl ?_
              refine g_iload X49 hx 342 (hb hby at_340) rfl rfl ?_
              refine g_icT X49 hx 347 (hb hby at_342) (by decide) (by decide) (by decide) ?_
              refine g_aload X49 hx 349 (hb hby at_347) rfl rfl rfl ?_
              refine g_iconst X49 hx 350 (0 : Int32) (hb hby at_349) (by decide) rfl ?_
              refine g_iload X49 hx 352 (hb hby at_350) rfl rfl ?_
              refine g_iload X49 hx 354 (hb hby at_352) rfl rfl ?_
              refine g_isub X49 hx 355 (4 : Int32) (hb hby at_354) (by decide) rfl ?_
              refine g_callV X49 hx 358 hZ hown (own_w hw 27 rfl) (own_w hw 28 rfl) (own_w hw 30 rfl) (own_w hw 29 rfl) (own_w hw 12 rfl) (own_w hw 31 rfl) (by decide) b47 E_b47 [(.int (0 : Int32)), (.int (4 : Int32))] [] (rm6 l Z a0 hw b47 (4 : Int32) sd ((10 : Int64) * ((10 : Int64) * ((10 : Int64) * ((0 : Int64) - ((nar .char z2) - (48 : Int32)).toInt64) - ((nar .char z4) - (48 : Int32)).toInt64) - ((nar .char z6) - (48 : Int32)).toInt64) - ((nar .char z8) - (48 : Int32)).toInt64) _ _ _ _ T49.heap n0 Z49 G_b47 (own_sta_keep S_sd KK49) E_b47 F49_decimalSum F49_integerRadix F49_integerKind F49_value F49_realRead) rfl 0 (by decide) (by decide) (by decide) (by decide) (by rw [hml]; rfl) (lenOf own_pd4 rfl) (hb hby at_355) rfl (Nat.le_of_eq rfl) rfl (fun v50 T50 L50 X50 hQ50 => ?_)
              obtain ⟨rfl, N50q, K50, E50x, F50_value⟩ := hQ50
              have N50 := Fr.app N49 N50q
              have V_b1 := V_b1.keep K50 (ninS ne_b1_b47 nin0)
              have E_b47 := E_b47.keep K50
              have KK50 : Keep h0 T50.heap [] := KK49.trans K50 (allS (Or.inr SZ_b47) all0)
              have Z50 := Nat.le_trans Z49 K50.1
              show Go p e below _ _ T50 (mkF m 358 #[.val (.int a), .val (.int b), .val (.int c), .val (.int d), .val (.int g), .val (.int f), .val (.ref b1), .val (.int (0 : Int32)), .val (.int (4 : Int32)), .val (.long (((10 : Int64) * (((10 : Int64) * (((10 : Int64) * ((0 : Int64) + (((nar .char z2) - (48 : Int32)).toInt64))) + (((nar .char z4) - (48 : Int32)).toInt64))) + (((nar .char z6) - (48 : Int32)).toInt64))) + (((nar .char z8) - (48 : Int32)).toInt64))), .second, .val (.int (0 : Int32)), .val (.ref b47), .val (.int (4 : Int32))] [])
              refine g_aload X50 hx 360 (hb hby at_358) rfl rfl rfl ?_
              refine g_callV X50 hx 363 hZ hown (own_w hw 43 rfl) (own_w hw 44 rfl) (own_w hw 46 rfl) (own_w hw 45 rfl) (own_w hw 12 rfl) (own_w hw 47 rfl) (by decide) b47 E_b47 [] [] (rm7 l Z a0 hw b47 (-((10 : Int64) * ((10 : Int64) * ((10 : Int64) * ((0 : Int64) - ((nar .char z2) - (48 : Int32)).toInt64) - ((nar .char z4) - (48 : Int32)).toInt64) - ((nar .char z6) - (48 : Int32)).toInt64) - ((nar .char z8) - (48 : Int32)).toInt64)) T50.heap n0 Z50 F50_value) rfl 0 (by decide) (by decide) (by decide) (by decide) (by rw [hml]; rfl) (lenOf own_pd5 rfl) (hb hby at_360) rfl (Nat.le_of_eq rfl) rfl (fun v51 T51 L51 X51 hQ51 => ?_)
              obtain ⟨rfl, N51q, e51⟩ := hQ51
              have N51 := Fr.app N50 N51q
              show Go p e below _ _ T51 (mkF m 363 #[.val (.int a), .val (.int b), .val (.int c), .val (.int d), .val (.int g), .val (.int f), .val (.ref b1), .val (.int (0 : Int32)), .val (.int (4 : Int32)), .val (.long (((10 : Int64) * (((10 : Int64) * (((10 : Int64) * ((0 : Int64) + (((nar .char z2) - (48 : Int32)).toInt64))) + (((nar .char z4) - (48 : Int32)).toInt64))) + (((nar .char z6) - (48 : Int32)).toInt64))) + (((nar .char z8) - (48 : Int32)).toInt64))), .second, .val (.int (0 : Int32)), .val (.ref b47), .val (.int (4 : Int32))] [(.long (-((10 : Int64) * ((10 : Int64) * ((10 : Int64) * ((0 : Int64) - ((nar .char z2) - (48 : Int32)).toInt64) - ((nar .char z4) - (48 : Int32)).toInt64) - ((nar .char z6) - (48 : Int32)).toInt64) - ((nar .char z8) - (48 : Int32)).toInt64)))])
              refine g_lload X51 hx 365 (hb hby at_363) rfl rfl ?_
              refine g_lcmp X51 hx 366 (hb hby at_365) rfl ?_
              have hk52 : (-((10 : Int64) * ((10 : Int64) * ((10 : Int64) * ((0 : Int64) - ((nar .char z2) - (48 : Int32)).toInt64) - ((nar .char z4) - (48 : Int32)).toInt64) - ((nar .char z6) - (48 : Int32)).toInt64) - ((nar .char z8) - (48 : Int32)).toInt64)) = (((10 : Int64) * (((10 : Int64) * (((10 : Int64) * ((0 : Int64) + (((nar .char z2) - (48 : Int32)).toInt64))) + (((nar .char z4) - (48 : Int32)).toInt64))) + (((nar .char z6) - (48 : Int32)).toInt64))) + (((nar .char z8) - (48 : Int32)).toInt64)) := by grind
              refine g_ifF X51 hx 369 (hb hby at_366) (own_eqL hk52).2 rfl ?_
              refine g_iconst X51 hx 370 (1 : Int32) (hb hby at_369) (by decide) rfl ?_
              refine g_goto X51 hx 374 (hb hby at_370) (by decide) (by decide) ?_
              exact g_retZ X51 hx hret hlk rfl (hb hby at_374) (by decide) (by decide) ⟨rfl, N51⟩
            · refine g_ifF X45 hx 291 (hb hby at_288) ((if0 _ _).trans (feq hc46).1) rfl ?_
              refine g_ldc2J X45 hx 294 hZ hown (own_w hw 9 rfl) (hb hby at_291) rfl ?_
              refine g_lload X45 hx 296 (hb hby at_294) rfl rfl ?_
              refine g_lmul X45 hx 297 ((10 : Int64) * (((10 : Int64) * (((10 : Int64) * (((10 : Int64) * ((0 : Int64) + (((nar .char z2) - (48 : Int32)).toInt64))) + (((nar .char z4) - (48 : Int32)).toInt64))) + (((nar .char z6) - (48 : Int32)).toInt64))) + (((nar .char z8) - (48 : Int32)).toInt64))) (hb hby at_296) rfl rfl ?_
              refine g_aload X45 hx 299 (hb hby at_297) rfl rfl rfl ?_
              refine g_iload X45 hx 301 (hb hby at_299) rfl rfl ?_
              refine g_caload X45 hx 302 hZ e45 V_b1 ⟨by decide, by decide⟩ (show _ = (.int (nar .char z10)) from rfl) (hb hby at_301) rfl ?_
              refine g_bipush X45 hx 304 (48 : Int32) (hb hby at_302) (by decide) rfl ?_
              refine g_isub X45 hx 305 ((nar .char z10) - (48 : Int32)) (hb hby at_304) rfl rfl ?_
              refine g_i2l X45 hx 306 (((nar .char z10) - (48 : Int32)).toInt64) (hb hby at_305) rfl rfl ?_
              refine g_ladd X45 hx 307 (((10 : Int64) * (((10 : Int64) * (((10 : Int64) * (((10 : Int64) * ((0 : Int64) + (((nar .char z2) - (48 : Int32)).toInt64))) + (((nar .char z4) - (48 : Int32)).toInt64))) + (((nar .char z6) - (48 : Int32)).toInt64))) + (((nar .char z8) - (48 : Int32)).toInt64))) + (((nar .char z10) - (48 : Int32)).toInt64)) (hb hby at_306) rfl rfl ?_
              refine g_lstore X45 hx 309 #[.val (.int a), .val (.int b), .val (.int c), .val (.int d), .val (.int g), .val (.int f), .val (.ref b1), .val (.int (0 : Int32)), .val (.int (4 : Int32)), .val (.long (((10 : Int64) * (((10 : Int64) * (((10 : Int64) * (((10 : Int64) * ((0 : Int64) + (((nar .char z2) - (48 : Int32)).toInt64))) + (((nar .char z4) - (48 : Int32)).toInt64))) + (((nar .char z6) - (48 : Int32)).toInt64))) + (((nar .char z8) - (48 : Int32)).toInt64))) + (((nar .char z10) - (48 : Int32)).toInt64))), .second, .val (.int (1 : Int32)), .unset, .unset] (hb hby at_307) rfl rfl ?_
              refine g_iinc X45 hx 312 (5 : Int32) #[.val (.int a), .val (.int b), .val (.int c), .val (.int d), .val (.int g), .val (.int f), .val (.ref b1), .val (.int (0 : Int32)), .val (.int (5 : Int32)), .val (.long (((10 : Int64) * (((10 : Int64) * (((10 : Int64) * (((10 : Int64) * ((0 : Int64) + (((nar .char z2) - (48 : Int32)).toInt64))) + (((nar .char z4) - (48 : Int32)).toInt64))) + (((nar .char z6) - (48 : Int32)).toInt64))) + (((nar .char z8) - (48 : Int32)).toInt64))) + (((nar .char z10) - (48 : Int32)).toInt64))), .second, .val (.int (1 : Int32)), .unset, .unset] (hb hby at_309) rfl (by decide) rfl rfl ?_
              refine g_goto X45 hx 318 (hb hby at_312) (by decide) (by decide) ?_
              refine g_new X45 hx 321 hZ hown (own_w hw 10 rfl) (own_w hw 11 rfl) (own_w hw 12 rfl) e45 (hb hby at_318) (by decide) (by decide) rfl (fun T53 h53 b53 g53 X53 e53 E53 A53 D53 => ?_)
              have ne_b1_b53 : b1 ≠ b53 := Nat.ne_of_lt (Nat.lt_of_lt_of_le V_b1.lt (Nat.le_of_eq g53.symm))
              have V_b1 := V_b1.ext E53
              have G_b53 : n0 ≤ b53 := Nat.le_trans Z12 (Nat.le_of_eq g53.symm)
              have Z53 : n0 ≤ h53.size := Nat.le_trans Z12 E53.1
              have SZ_b53 : h0.size ≤ b53 := Nat.le_trans K12.1 (Nat.le_of_eq g53.symm)
              have K53 := K12.ext E53
              have E_b53 : Exa Z h53 b53 "gleanwell/Grammar$NumberReading" := A53
              have F_b53_decimalSum : Fld Z h53 b53 "gleanwell/Grammar$NumberReading" "decimalSum" "J" (.long (0 : Int64)) := D53 (Or.inl (own_w hw 26 rfl)) (ty := .long) (by decide)
              have F_b53_integerRadix : Fld Z h53 b53 "gleanwell/Grammar$NumberReading" "integerRadix" "I" (.int (0 : Int32)) := D53 (Or.inl (own_w hw 36 rfl)) (ty := .int) (by decide)
              have F_b53_integerKind : Fld Z h53 b53 "gleanwell/Grammar$NumberReading" "integerKind" "I" (.int (0 : Int32)) := D53 (Or.inl (own_w hw 38 rfl)) (ty := .int) (by decide)
              have F_b53_value : Fld Z h53 b53 "gleanwell/Grammar$NumberReading" "value" "J" (.long (0 : Int64)) := D53 (Or.inl (own_w hw 40 rfl)) (ty := .long) (by decide)
              have F_b53_realRead : Fld Z h53 b53 "gleanwell/Grammar$NumberReading" "realRead" "Z" (.int (0 : Int32)) := D53 (Or.inl (own_w hw 42 rfl)) (ty := .boolean) (by decide)
              refine g_dup X53 hx 322 (hb hby at_321) rfl rfl ?_
              refine g_callI X53 hx 325 hZ rfl hown (own_w hw 13 rfl) (own_w hw 14 rfl) (own_w hw 12 rfl) (own_w hw 15 rfl) (by decide) b53 [] [(.ref b53)] (rm3 l Z a0 hw b53 h53 n0 Z53) e53 1 (by decide) (by decide) (by decide) (by decide) (by rw [hml]; rfl) (lenOf own_pd2 rfl) (hb hby at_322) rfl (Nat.le_of_eq rfl) rfl (fun v54 T54 L54 X54 hQ54 => ?_)
              obtain ⟨rfl, N54q, e54⟩ := hQ54
              have N54 := Fr.app N45 N54q
              show Go p e below _ _ T54 (mkF m 325 #[.val (.int a), .val (.int b), .val (.int c), .val (.int d), .val (.int g), .val (.int f), .val (.ref b1), .val (.int (0 : Int32)), .val (.int (5 : Int32)), .val (.long (((10 : Int64) * (((10 : Int64) * (((10 : Int64) * (((10 : Int64) * ((0 : Int64) + (((nar .char z2) - (48 : Int32)).toInt64))) + (((nar .char z4) - (48 : Int32)).toInt64))) + (((nar .char z6) - (48 : Int32)).toInt64))) + (((nar .char z8) - (48 : Int32)).toInt64))) + (((nar .char z10) - (48 : Int32)).toInt64))), .second, .val (.int (1 : Int32)), .unset, .unset] [(.ref b53)])
              refine g_astore X54 hx 327 #[.val (.int a), .val (.int b), .val (.int c), .val (.int d), .val (.int g), .val (.int f), .val (.ref b1), .val (.int (0 : Int32)), .val (.int (5 : Int32)), .val (.long (((10 : Int64) * (((10 : Int64) * (((10 : Int64) * (((10 : Int64) * ((0 : Int64) + (((nar .char z2) - (48 : Int32)).toInt64))) + (((nar .char z4) - (48 : Int32)).toInt64))) + (((nar .char z6) - (48 : Int32)).toInt64))) + (((nar .char z8) - (48 : Int32)).toInt64))) + (((nar .char z10) - (48 : Int32)).toInt64))), .second, .val (.int (1 : Int32)), .val (.ref b53), .unset] (hb hby at_325) rfl rfl rfl ?_
              refine g_aload X54 hx 329 (hb hby at_327) rfl rfl rfl ?_
              refine g_aload X54 hx 331 (hb hby at_329) rfl rfl rfl ?_
              refine g_iload X54 hx 333 (hb hby at_331) rfl rfl ?_
              refine g_callV X54 hx 336 hZ hown (own_w hw 19 rfl) (own_w hw 20 rfl) (own_w hw 22 rfl) (own_w hw 21 rfl) (own_w hw 12 rfl) (own_w hw 23 rfl) (by decide) b53 E_b53 [(.ref b1), (.int (0 : Int32))] [] (rm5_0_5 l Z a0 hw b53 b1 (nar .char z2) (nar .char z4) (nar .char z6) (nar .char z8) (nar .char z10) kl1 _ _ _ _ _ h53 n0 Z53 G_b53 E_b53 F_b53_decimalSum F_b53_integerRadix F_b53_integerKind F_b53_value F_b53_realRead V_b1 (Ne.symm ne_b1_b53) hc14 hc22 hc30 hc38 hc46) e54 0 (by decide) (by decide) (by decide) (by decide) (by rw [hml]; rfl) (lenOf own_pd3 rfl) (hb hby at_333) rfl (Nat.le_of_eq rfl) rfl (fun v55 T55 L55 X55 hQ55 => ?_)
              obtain ⟨rfl, N55q, K55, E55x, F55_decimalSum, F55_integerRadix, F55_integerKind, F55_value, F55_realRead⟩ := hQ55
              have N55 := Fr.app N54 N55q
              have V_b1 := V_b1.keep K55 (ninS ne_b1_b53 nin0)
              have E_b53 := E_b53.keep K55
              have KK55 : Keep h0 T55.heap [] := K53.trans K55 (allS (Or.inr SZ_b53) all0)
              have Z55 := Nat.le_trans Z53 K55.1
              show Go p e below _ _ T55 (mkF m 336 #[.val (.int a), .val (.int b), .val (.int c), .val (.int d), .val (.int g), .val (.int f), .val (.ref b1), .val (.int (0 : Int32)), .val (.int (5 : Int32)), .val (.long (((10 : Int64) * (((10 : Int64) * (((10 : Int64) * (((10 : Int64) * ((0 : Int64) + (((nar .char z2) - (48 : Int32)).toInt64))) + (((nar .char z4) - (48 : Int32)).toInt64))) + (((nar .char z6) - (48 : Int32)).toInt64))) + (((nar .char z8) - (48 : Int32)).toInt64))) + (((nar .char z10) - (48 : Int32)).toInt64))), .second, .val (.int (1 : Int32)), .val (.ref b53), .unset] [(.int (5 : Int32))])
              refine g_istore X55 hx 338 #[.val (.int a), .val (.int b), .val (.int c), .val (.int d), .val (.int g), .val (.int f), .val (.ref b1), .val (.int (0 : Int32)), .val (.int (5 : Int32)), .val (.long (((10 : Int64) * (((10 : Int64) * (((10 : Int64) * (((10 : Int64) * ((0 : Int64) + (((nar .char z2) - (48 : Int32)).toInt64))) + (((nar .char z4) - (48 : Int32)).toInt64))) + (((nar .char z6) - (48 : Int32)).toInt64))) + (((nar .char z8) - (48 : Int32)).toInt64))) + (((nar .char z10) - (48 : Int32)).toInt64))), .second, .val (.int (1 : Int32)), .val (.ref b53), .val (.int (5 : Int32))] (hb hby at_336) rfl rfl ?_
              refine g_iload X55 hx 340 (hb hby at_338) rfl rfl ?_
              refine g_iload X55 hx 342 (hb hby at_340) rfl rfl ?_
              refine g_icT X55 hx 347 (hb hby at_342) (by decide) (by decide) (by decide) ?_
              refine g_aload X55 hx 349 (hb hby at_347) rfl rfl rfl ?_
              refine g_iconst X55 hx 350 (0 : Int32) (hb hby at_349) (by decide) rfl ?_
              refine g_iload X55 hx 352 (hb hby at_350) rfl rfl ?_
              refine g_iload X55 hx 354 (hb hby at_352) rfl rfl ?_
              refine g_isub X55 hx 355 (5 : Int32) (hb hby at_354) (by decide) rfl ?_
              refine g_callV X55 hx 358 hZ hown (own_w hw 27 rfl) (own_w hw 28 rfl) (own_w hw 30 rfl) (own_w hw 29 rfl) (own_w hw 12 rfl) (own_w hw 31 rfl) (by decide) b53 E_b53 [(.int (0 : Int32)), (.int (5 : Int32))] [] (rm6 l Z a0 hw b53 (5 : Int32) sd ((10 : Int64) * ((10 : Int64) * ((10 : Int64) * ((10 : Int64) * ((0 : Int64) - ((nar .char z2) - (48 : Int32)).toInt64) - ((nar .char z4) - (48 : Int32)).toInt64) - ((nar .char z6) - (48 : Int32)).toInt64) - ((nar .char z8) - (48 : Int32)).toInt64) - ((nar .char z10) - (48 : Int32)).toInt64) _ _ _ _ T55.heap n0 Z55 G_b53 (own_sta_keep S_sd KK55) E_b53 F55_decimalSum F55_integerRadix F55_integerKind F55_value F55_realRead) rfl 0 (by decide) (by decide) (by decide) (by decide) (by rw [hml]; rfl) (lenOf own_pd4 rfl) (hb hby at_355) rfl (Nat.le_of_eq rfl) rfl (fun v56 T56 L56 X56 hQ56 => ?_)
              obtain ⟨rfl, N56q, K56, E56x, F56_value⟩ := hQ56
              have N56 := Fr.app N55 N56q
              have V_b1 := V_b1.keep K56 (ninS ne_b1_b53 nin0)
              have E_b53 := E_b53.keep K56
              have KK56 : Keep h0 T56.heap [] := KK55.trans K56 (allS (Or.inr SZ_b53) all0)
              have Z56 := Nat.le_trans Z55 K56.1
              show Go p e below _ _ T56 (mkF m 358 #[.val (.int a), .val (.int b), .val (.int c), .val (.int d), .val (.int g), .val (.int f), .val (.ref b1), .val (.int (0 : Int32)), .val (.int (5 : Int32)), .val (.long (((10 : Int64) * (((10 : Int64) * (((10 : Int64) * (((10 : Int64) * ((0 : Int64) + (((nar .char z2) - (48 : Int32)).toInt64))) + (((nar .char z4) - (48 : Int32)).toInt64))) + (((nar .char z6) - (48 : Int32)).toInt64))) + (((nar .char z8) - (48 : Int32)).toInt64))) + (((nar .char z10) - (48 : Int32)).toInt64))), .second, .val (.int (1 : Int32)), .val (.ref b53), .val (.int (5 : Int32))] [])
              refine g_aload X56 hx 360 (hb hby at_358) rfl rfl rfl ?_
              refine g_callV X56 hx 363 hZ hown (own_w hw 43 rfl) (own_w hw 44 rfl) (own_w hw 46 rfl) (own_w hw 45 rfl) (own_w hw 12 rfl) (own_w hw 47 rfl) (by decide) b53 E_b53 [] [] (rm7 l Z a0 hw b53 (-((10 : Int64) * ((10 : Int64) * ((10 : Int64) * ((10 : Int64) * ((0 : Int64) - ((nar .char z2) - (48 : Int32)).toInt64) - ((nar .char z4) - (48 : Int32)).toInt64) - ((nar .char z6) - (48 : Int32)).toInt64) - ((nar .char z8) - (48 : Int32)).toInt64) - ((nar .char z10) - (48 : Int32)).toInt64)) T56.heap n0 Z56 F56_value) rfl 0 (by decide) (by decide) (by decide) (by decide) (by rw [hml]; rfl) (lenOf own_pd5 rfl) (hb hby at_360) rfl (Nat.le_of_eq rfl) rfl (fun v57 T57 L57 X57 hQ57 => ?_)
              obtain ⟨rfl, N57q, e57⟩ := hQ57
              have N57 := Fr.app N56 N57q
              show Go p e below _ _ T57 (mkF m 363 #[.val (.int a), .val (.int b), .val (.int c), .val (.int d), .val (.int g), .val (.int f), .val (.ref b1), .val (.int (0 : Int32)), .val (.int (5 : Int32)), .val (.long (((10 : Int64) * (((10 : Int64) * (((10 : Int64) * (((10 : Int64) * ((0 : Int64) + (((nar .char z2) - (48 : Int32)).toInt64))) + (((nar .char z4) - (48 : Int32)).toInt64))) + (((nar .char z6) - (48 : Int32)).toInt64))) + (((nar .char z8) - (48 : Int32)).toInt64))) + (((nar .char z10) - (48 : Int32)).toInt64))), .second, .val (.int (1 : Int32)), .val (.ref b53), .val (.int (5 : Int32))] [(.long (-((10 : Int64) * ((10 : Int64) * ((10 : Int64) * ((10 : Int64) * ((0 : Int64) - ((nar .char z2) - (48 : Int32)).toInt64) - ((nar .char z4) - (48 : Int32)).toInt64) - ((nar .char z6) - (48 : Int32)).toInt64) - ((nar .char z8) - (48 : Int32)).toInt64) - ((nar .char z10) - (48 : Int32)).toInt64)))])
              refine g_lload X57 hx 365 (hb hby at_363) rfl rfl ?_
              refine g_lcmp X57 hx 366 (hb hby at_365) rfl ?_
              have hk58 : (-((10 : Int64) * ((10 : Int64) * ((10 : Int64) * ((10 : Int64) * ((0 : Int64) - ((nar .char z2) - (48 : Int32)).toInt64) - ((nar .char z4) - (48 : Int32)).toInt64) - ((nar .char z6) - (48 : Int32)).toInt64) - ((nar .char z8) - (48 : Int32)).toInt64) - ((nar .char z10) - (48 : Int32)).toInt64)) = (((10 : Int64) * (((10 : Int64) * (((10 : Int64) * (((10 : Int64) * ((0 : Int64) + (((nar .char z2) - (48 : Int32)).toInt64))) + (((nar .char z4) - (48 : Int32)).toInt64))) + (((nar .char z6) - (48 : Int32)).toInt64))) + (((nar .char z8) - (48 : Int32)).toInt64))) + (((nar .char z10) - (48 : Int32)).toInt64)) := by grind
              refine g_ifF X57 hx 369 (hb hby at_366) (own_eqL hk58).2 rfl ?_
              refine g_iconst X57 hx 370 (1 : Int32) (hb hby at_369) (by decide) rfl ?_
              refine g_goto X57 hx 374 (hb hby at_370) (by decide) (by decide) ?_
              exact g_retZ X57 hx hret hlk rfl (hb hby at_374) (by decide) (by decide) ⟨rfl, N57⟩
  · refine g_istore X12 hx 63 #[.val (.int a), .val (.int b), .val (.int c), .val (.int d), .val (.int g), .val (.int f), .val (.ref b1), .val (.int (1 : Int32)), .unset, .unset, .unset, .unset, .unset, .unset] (hb hby at_61) rfl rfl ?_
    refine g_iload X12 hx 65 (hb hby at_63) rfl rfl ?_
    refine g_istore X12 hx 67 #[.val (.int a), .val (.int b), .val (.int c), .val (.int d), .val (.int g), .val (.int f), .val (.ref b1), .val (.int (1 : Int32)), .val (.int (1 : Int32)), .unset, .unset, .unset, .unset, .unset] (hb hby at_65) rfl rfl ?_
    refine g_lconst X12 hx 68 (0 : Int64) (hb hby at_67) (by decide) rfl ?_
    refine g_lstore X12 hx 70 #[.val (.int a), .val (.int b), .val (.int c), .val (.int d), .val (.int g), .val (.int f), .val (.ref b1), .val (.int (1 : Int32)), .val (.int (1 : Int32)), .val (.long (0 : Int64)), .second, .unset, .unset, .unset] (hb hby at_68) rfl rfl ?_
    refine g_iconst X12 hx 71 (1 : Int32) (hb hby at_70) (by decide) rfl ?_
    refine g_istore X12 hx 73 #[.val (.int a), .val (.int b), .val (.int c), .val (.int d), .val (.int g), .val (.int f), .val (.ref b1), .val (.int (1 : Int32)), .val (.int (1 : Int32)), .val (.long (0 : Int64)), .second, .val (.int (1 : Int32)), .unset, .unset] (hb hby at_71) rfl rfl ?_
    refine g_iload X12 hx 75 (hb hby at_73) rfl rfl ?_
    refine g_ifF X12 hx 78 (hb hby at_75) (by decide) rfl ?_
    refine g_iload X12 hx 80 (hb hby at_78) rfl rfl ?_
    refine g_iconst X12 hx 81 (5 : Int32) (hb hby at_80) (by decide) rfl ?_
    refine g_icF X12 hx 84 (hb hby at_81) (by decide) rfl ?_
    refine g_aload X12 hx 86 (hb hby at_84) rfl rfl rfl ?_
    refine g_iload X12 hx 88 (hb hby at_86) rfl rfl ?_
    refine g_caload X12 hx 89 hZ e12 V_b1 ⟨by decide, by decide⟩ (show _ = (.int (nar .char z4)) from rfl) (hb hby at_88) rfl ?_
    refine g_callS X12 hx 92 hZ hown (own_w hw 6 rfl) (own_w hw 7 rfl) (own_w hw 3 rfl) (own_w hw 8 rfl) (by decide) [(.int (nar .char z4))] [] (rm2 l Z a0 hw (nar .char z4) h12 n0 Z12) e12 0 (by decide) (by decide) (by decide) (by decide) (by rw [hml]; rfl) (lenOf own_pd1 rfl) (hb hby at_89) rfl (Nat.le_of_eq rfl) rfl (fun v59 T59 L59 X59 hQ59 => ?_)
    obtain ⟨rfl, N59q, e59⟩ := hQ59
    have N59 := Fr.app N12 N59q
    show Go p e below _ _ T59 (mkF m 92 #[.val (.int a), .val (.int b), .val (.int c), .val (.int d), .val (.int g), .val (.int f), .val (.ref b1), .val (.int (1 : Int32)), .val (.int (1 : Int32)), .val (.long (0 : Int64)), .second, .val (.int (1 : Int32)), .unset, .unset] [(.int (own_dig (nar .char z4)))])
    by_cases hc60 : (own_dig (nar .char z4)) = (0 : Int32)
    · refine g_ifT X59 hx 119 (hb hby at_92) ((if0 _ _).trans (teq hc60).1) (by decide) (by decide) ?_
      refine g_iconst X59 hx 120 (0 : Int32) (hb hby at_119) (by decide) rfl ?_
      refine g_istore X59 hx 122 #[.val (.int a), .val (.int b), .val (.int c), .val (.int d), .val (.int g), .val (.int f), .val (.ref b1), .val (.int (1 : Int32)), .val (.int (1 : Int32)), .val (.long (0 : Int64)), .second, .val (.int (0 : Int32)), .unset, .unset] (hb hby at_120) rfl rfl ?_
      refine g_iload X59 hx 124 (hb hby at_122) rfl rfl ?_
      refine g_ifT X59 hx 168 (hb hby at_124) (by decide) (by decide) (by decide) ?_
      refine g_iconst X59 hx 169 (0 : Int32) (hb hby at_168) (by decide) rfl ?_
      refine g_istore X59 hx 171 #[.val (.int a), .val (.int b), .val (.int c), .val (.int d), .val (.int g), .val (.int f), .val (.ref b1), .val (.int (1 : Int32)), .val (.int (1 : Int32)), .val (.long (0 : Int64)), .second, .val (.int (0 : Int32)), .unset, .unset] (hb hby at_169) rfl rfl ?_
      refine g_iload X59 hx 173 (hb hby at_171) rfl rfl ?_
      refine g_ifT X59 hx 217 (hb hby at_173) (by decide) (by decide) (by decide) ?_
      refine g_iconst X59 hx 218 (0 : Int32) (hb hby at_217) (by decide) rfl ?_
      refine g_istore X59 hx 220 #[.val (.int a), .val (.int b), .val (.int c), .val (.int d), .val (.int g), .val (.int f), .val (.ref b1), .val (.int (1 : Int32)), .val (.int (1 : Int32)), .val (.long (0 : Int64)), .second, .val (.int (0 : Int32)), .unset, .unset] (hb hby at_218) rfl rfl ?_
      refine g_iload X59 hx 222 (hb hby at_220) rfl rfl ?_
      refine g_ifT X59 hx 266 (hb hby at_222) (by decide) (by decide) (by decide) ?_
      refine g_iconst X59 hx 267 (0 : Int32) (hb hby at_266) (by decide) rfl ?_
      refine g_istore X59 hx 269 #[.val (.int a), .val (.int b), .val (.int c), .val (.int d), .val (.int g), .val (.int f), .val (.ref b1), .val (.int (1 : Int32)), .val (.int (1 : Int32)), .val (.long (0 : Int64)), .second, .val (.int (0 : Int32)), .unset, .unset] (hb hby at_267) rfl rfl ?_
      refine g_iload X59 hx 271 (hb hby at_269) rfl rfl ?_
      refine g_ifT X59 hx 315 (hb hby at_271) (by decide) (by decide) (by decide) ?_
      refine g_iconst X59 hx 316 (0 : Int32) (hb hby at_315) (by decide) rfl ?_
      refine g_istore X59 hx 318 #[.val (.int a), .val (.int b), .val (.int c), .val (.int d), .val (.int g), .val (.int f), .val (.ref b1), .val (.int (1 : Int32)), .val (.int (1 : Int32)), .val (.long (0 : Int64)), .second, .val (.int (0 : Int32)), .unset, .unset] (hb hby at_316) rfl rfl ?_
      refine g_new X59 hx 321 hZ hown (own_w hw 10 rfl) (own_w hw 11 rfl) (own_w hw 12 rfl) e59 (hb hby at_318) (by decide) (by decide) rfl (fun T61 h61 b61 g61 X61 e61 E61 A61 D61 => ?_)
      have ne_b1_b61 : b1 ≠ b61 := Nat.ne_of_lt (Nat.lt_of_lt_of_le V_b1.lt (Nat.le_of_eq g61.symm))
      have V_b1 := V_b1.ext E61
      have G_b61 : n0 ≤ b61 := Nat.le_trans Z12 (Nat.le_of_eq g61.symm)
      have Z61 : n0 ≤ h61.size := Nat.le_trans Z12 E61.1
      have SZ_b61 : h0.size ≤ b61 := Nat.le_trans K12.1 (Nat.le_of_eq g61.symm)
      have K61 := K12.ext E61
      have E_b61 : Exa Z h61 b61 "gleanwell/Grammar$NumberReading" := A61
      have F_b61_decimalSum : Fld Z h61 b61 "gleanwell/Grammar$NumberReading" "decimalSum" "J" (.long (0 : Int64)) := D61 (Or.inl (own_w hw 26 rfl)) (ty := .long) (by decide)
      have F_b61_integerRadix : Fld Z h61 b61 "gleanwell/Grammar$NumberReading" "integerRadix" "I" (.int (0 : Int32)) := D61 (Or.inl (own_w hw 36 rfl)) (ty := .int) (by decide)
      have F_b61_integerKind : Fld Z h61 b61 "gleanwell/Grammar$NumberReading" "integerKind" "I" (.int (0 : Int32)) := D61 (Or.inl (own_w hw 38 rfl)) (ty := .int) (by decide)
      have F_b61_value : Fld Z h61 b61 "gleanwell/Grammar$NumberReading" "value" "J" (.long (0 : Int64)) := D61 (Or.inl (own_w hw 40 rfl)) (ty := .long) (by decide)
      have F_b61_realRead : Fld Z h61 b61 "gleanwell/Grammar$NumberReading" "realRead" "Z" (.int (0 : Int32)) := D61 (Or.inl (own_w hw 42 rfl)) (ty := .boolean) (by decide)
      refine g_dup X61 hx 322 (hb hby at_321) rfl rfl ?_
      refine g_callI X61 hx 325 hZ rfl hown (own_w hw 13 rfl) (own_w hw 14 rfl) (own_w hw 12 rfl) (own_w hw 15 rfl) (by decide) b61 [] [(.ref b61)] (rm3 l Z a0 hw b61 h61 n0 Z61) e61 1 (by decide) (by decide) (by decide) (by decide) (by rw [hml]; rfl) (lenOf own_pd2 rfl) (hb hby at_322) rfl (Nat.le_of_eq rfl) rfl (fun v62 T62 L62 X62 hQ62 => ?_)
      obtain ⟨rfl, N62q, e62⟩ := hQ62
      have N62 := Fr.app N59 N62q
      show Go p e below _ _ T62 (mkF m 325 #[.val (.int a), .val (.int b), .val (.int c), .val (.int d), .val (.int g), .val (.int f), .val (.ref b1), .val (.int (1 : Int32)), .val (.int (1 : Int32)), .val (.long (0 : Int64)), .second, .val (.int (0 : Int32)), .unset, .unset] [(.ref b61)])
      refine g_astore X62 hx 327 #[.val (.int a), .val (.int b), .val (.int c), .val (.int d), .val (.int g), .val (.int f), .val (.ref b1), .val (.int (1 : Int32)), .val (.int (1 : Int32)), .val (.long (0 : Int64)), .second, .val (.int (0 : Int32)), .val (.ref b61), .unset] (hb hby at_325) rfl rfl rfl ?_
      refine g_aload X62 hx 329 (hb hby at_327) rfl rfl rfl ?_
      refine g_aload X62 hx 331 (hb hby at_329) rfl rfl rfl ?_
      refine g_iload X62 hx 333 (hb hby at_331) rfl rfl ?_
      refine g_callV X62 hx 336 hZ hown (own_w hw 19 rfl) (own_w hw 20 rfl) (own_w hw 22 rfl) (own_w hw 21 rfl) (own_w hw 12 rfl) (own_w hw 23 rfl) (by decide) b61 E_b61 [(.ref b1), (.int (1 : Int32))] [] (rm5_1_1 l Z a0 hw b61 b1 (nar .char z2) (nar .char z4) (nar .char z6) (nar .char z8) (nar .char z10) kl1 _ _ _ _ _ h61 n0 Z61 G_b61 E_b61 F_b61_decimalSum F_b61_integerRadix F_b61_integerKind F_b61_value F_b61_realRead V_b1 (Ne.symm ne_b1_b61) hc60) e62 0 (by decide) (by decide) (by decide) (by decide) (by rw [hml]; rfl) (lenOf own_pd3 rfl) (hb hby at_333) rfl (Nat.le_of_eq rfl) rfl (fun v63 T63 L63 X63 hQ63 => ?_)
      obtain ⟨rfl, N63q, K63, E63x, F63_decimalSum, F63_integerRadix, F63_integerKind, F63_value, F63_realRead⟩ := hQ63
      have N63 := Fr.app N62 N63q
      have V_b1 := V_b1.keep K63 (ninS ne_b1_b61 nin0)
      have E_b61 := E_b61.keep K63
      have KK63 : Keep h0 T63.heap [] := K61.trans K63 (allS (Or.inr SZ_b61) all0)
      have Z63 := Nat.le_trans Z61 K63.1
      show Go p e below _ _ T63 (mkF m 336 #[.val (.int a), .val (.int b), .val (.int c), .val (.int d), .val (.int g), .val (.int f), .val (.ref b1), .val (.int (1 : Int32)), .val (.int (1 : Int32)), .val (.long (0 : Int64)), .second, .val (.int (0 : Int32)), .val (.ref b61), .unset] [(.int (1 : Int32))])
      refine g_istore X63 hx 338 #[.val (.int a), .val (.int b), .val (.int c), .val (.int d), .val (.int g), .val (.int f), .val (.ref b1), .val (.int (1 : Int32)), .val (.int (1 : Int32)), .val (.long (0 : Int64)), .second, .val (.int (0 : Int32)), .val (.ref b61), .val (.int (1 : Int32))] (hb hby at_336) rfl rfl ?_
      refine g_iload X63 hx 340 (hb hby at_338) rfl rfl ?_
      refine g_iload X63 hx 342 (hb hby at_340) rfl rfl ?_
      refine g_icT X63 hx 347 (hb hby at_342) (by decide) (by decide) (by decide) ?_
      refine g_aload X63 hx 349 (hb hby at_347) rfl rfl rfl ?_
      refine g_iconst X63 hx 350 (0 : Int32) (hb hby at_349) (by decide) rfl ?_
      refine g_iload X63 hx 352 (hb hby at_350) rfl rfl ?_
      refine g_iload X63 hx 354 (hb hby at_352) rfl rfl ?_
      refine g_isub X63 hx 355 (0 : Int32) (hb hby at_354) (by decide) rfl ?_
      refine g_callV X63 hx 358 hZ hown (own_w hw 27 rfl) (own_w hw 28 rfl) (own_w hw 30 rfl) (own_w hw 29 rfl) (own_w hw 12 rfl) (own_w hw 31 rfl) (by decide) b61 E_b61 [(.int (0 : Int32)), (.int (0 : Int32))] [] (rm6 l Z a0 hw b61 (0 : Int32) sd (0 : Int64) _ _ _ _ T63.heap n0 Z63 G_b61 (own_sta_keep S_sd KK63) E_b61 F63_decimalSum F63_integerRadix F63_integerKind F63_value F63_realRead) rfl 0 (by decide) (by decide) (by decide) (by decide) (by rw [hml]; rfl) (lenOf own_pd4 rfl) (hb hby at_355) rfl (Nat.le_of_eq rfl) rfl (fun v64 T64 L64 X64 hQ64 => ?_)
      obtain ⟨rfl, N64q, K64, E64x, F64_value⟩ := hQ64
      have N64 := Fr.app N63 N64q
      have V_b1 := V_b1.keep K64 (ninS ne_b1_b61 nin0)
      have E_b61 := E_b61.keep K64
      have KK64 : Keep h0 T64.heap [] := KK63.trans K64 (allS (Or.inr SZ_b61) all0)
      have Z64 := Nat.le_trans Z63 K64.1
      show Go p e below _ _ T64 (mkF m 358 #[.val (.int a), .val (.int b), .val (.int c), .val (.int d), .val (.int g), .val (.int f), .val (.ref b1), .val (.int (1 : Int32)), .val (.int (1 : Int32)), .val (.long (0 : Int64)), .second, .val (.int (0 : Int32)), .val (.ref b61), .val (.int (1 : Int32))] [])
      refine g_aload X64 hx 360 (hb hby at_358) rfl rfl rfl ?_
      refine g_callV X64 hx 363 hZ hown (own_w hw 43 rfl) (own_w hw 44 rfl) (own_w hw 46 rfl) (own_w hw 45 rfl) (own_w hw 12 rfl) (own_w hw 47 rfl) (by decide) b61 E_b61 [] [] (rm7 l Z a0 hw b61 (-(0 : Int64)) T64.heap n0 Z64 F64_value) rfl 0 (by decide) (by decide) (by decide) (by decide) (by rw [hml]; rfl) (lenOf own_pd5 rfl) (hb hby at_360) rfl (Nat.le_of_eq rfl) rfl (fun v65 T65 L65 X65 hQ65 => ?_)
      obtain ⟨rfl, N65q, e65⟩ := hQ65
      have N65 := Fr.app N64 N65q
      show Go p e below _ _ T65 (mkF m 363 #[.val (.int a), .val (.int b), .val (.int c), .val (.int d), .val (.int g), .val (.int f), .val (.ref b1), .val (.int (1 : Int32)), .val (.int (1 : Int32)), .val (.long (0 : Int64)), .second, .val (.int (0 : Int32)), .val (.ref b61), .val (.int (1 : Int32))] [(.long (-(0 : Int64)))])
      refine g_lload X65 hx 365 (hb hby at_363) rfl rfl ?_
      refine g_lcmp X65 hx 366 (hb hby at_365) rfl ?_
      have hk66 : (-(0 : Int64)) = (0 : Int64) := by grind
      refine g_ifF X65 hx 369 (hb hby at_366) (own_eqL hk66).2 rfl ?_
      refine g_iconst X65 hx 370 (1 : Int32) (hb hby at_369) (by decide) rfl ?_
      refine g_goto X65 hx 374 (hb hby at_370) (by decide) (by decide) ?_
      exact g_retZ X65 hx hret hlk rfl (hb hby at_374) (by decide) (by decide) ⟨rfl, N65⟩
    · refine g_ifF X59 hx 95 (hb hby at_92) ((if0 _ _).trans (feq hc60).1) rfl ?_
      refine g_ldc2J X59 hx 98 hZ hown (own_w hw 9 rfl) (hb hby at_95) rfl ?_
      refine g_lload X59 hx 100 (hb hby at_98) rfl rfl ?_
      refine g_lmul X59 hx 101 (0 : Int64) (hb hby at_100) (by decide) rfl ?_
      refine g_aload X59 hx 103 (hb hby at_101) rfl rfl rfl ?_
      refine g_iload X59 hx 105 (hb hby at_103) rfl rfl ?_
      refine g_caload X59 hx 106 hZ e59 V_b1 ⟨by decide, by decide⟩ (show _ = (.int (nar .char z4)) from rfl) (hb hby at_105) rfl ?_
      refine g_bipush X59 hx 108 (48 : Int32) (hb hby at_106) (by decide) rfl ?_
      refine g_isub X59 hx 109 ((nar .char z4) - (48 : Int32)) (hb hby at_108) rfl rfl ?_
      refine g_i2l X59 hx 110 (((nar .char z4) - (48 : Int32)).toInt64) (hb hby at_109) rfl rfl ?_
      refine g_ladd X59 hx 111 ((0 : Int64) + (((nar .char z4) - (48 : Int32)).toInt64)) (hb hby at_110) rfl rfl ?_
      refine g_lstore X59 hx 113 #[.val (.int a), .val (.int b), .val (.int c), .val (.int d), .val (.int g), .val (.int f), .val (.ref b1), .val (.int (1 : Int32)), .val (.int (1 : Int32)), .val (.long ((0 : Int64) + (((nar .char z4) - (48 : Int32)).toInt64))), .second, .val (.int (1 : Int32)), .unset, .unset] (hb hby at_111) rfl rfl ?_
      refine g_iinc X59 hx 116 (2 : Int32) #[.val (.int a), .val (.int b), .val (.int c), .val (.int d), .val (.int g), .val (.int f), .val (.ref b1), .val (.int (1 : Int32)), .val (.int (2 : Int32)), .val (.long ((0 : Int64) + (((nar .char z4) - (48 : Int32)).toInt64))), .second, .val (.int (1 : Int32)), .unset, .unset] (hb hby at_113) rfl (by decide) rfl rfl ?_
      refine g_goto X59 hx 122 (hb hby at_116) (by decide) (by decide) ?_
      refine g_iload X59 hx 124 (hb hby at_122) rfl rfl ?_
      refine g_ifF X59 hx 127 (hb hby at_124) (by decide) rfl ?_
      refine g_iload X59 hx 129 (hb hby at_127) rfl rfl ?_
      refine g_iconst X59 hx 130 (5 : Int32) (hb hby at_129) (by decide) rfl ?_
      refine g_icF X59 hx 133 (hb hby at_130) (by decide) rfl ?_
      refine g_aload X59 hx 135 (hb hby at_133) rfl rfl rfl ?_
      refine g_iload X59 hx 137 (hb hby at_135) rfl rfl ?_
      refine g_caload X59 hx 138 hZ e59 V_b1 ⟨by decide, by decide⟩ (show _ = (.int (nar .char z6)) from rfl) (hb hby at_137) rfl ?_
      refine g_callS X59 hx 141 hZ hown (own_w hw 6 rfl) (own_w hw 7 rfl) (own_w hw 3 rfl) (own_w hw 8 rfl) (by decide) [(.int (nar .char z6))] [] (rm2 l Z a0 hw (nar .char z6) h12 n0 Z12) e59 0 (by decide) (by decide) (by decide) (by decide) (by rw [hml]; rfl) (lenOf own_pd1 rfl) (hb hby at_138) rfl (Nat.le_of_eq rfl) rfl (fun v67 T67 L67 X67 hQ67 => ?_)
      obtain ⟨rfl, N67q, e67⟩ := hQ67
      have N67 := Fr.app N59 N67q
      show Go p e below _ _ T67 (mkF m 141 #[.val (.int a), .val (.int b), .val (.int c), .val (.int d), .val (.int g), .val (.int f), .val (.ref b1), .val (.int (1 : Int32)), .val (.int (2 : Int32)), .val (.long ((0 : Int64) + (((nar .char z4) - (48 : Int32)).toInt64))), .second, .val (.int (1 : Int32)), .unset, .unset] [(.int (own_dig (nar .char z6)))])
      by_cases hc68 : (own_dig (nar .char z6)) = (0 : Int32)
      · refine g_ifT X67 hx 168 (hb hby at_141) ((if0 _ _).trans (teq hc68).1) (by decide) (by decide) ?_
        refine g_iconst X67 hx 169 (0 : Int32) (hb hby at_168) (by decide) rfl ?_
        refine g_istore X67 hx 171 #[.val (.int a), .val (.int b), .val (.int c), .val (.int d), .val (.int g), .val (.int f), .val (.ref b1), .val (.int (1 : Int32)), .val (.int (2 : Int32)), .val (.long ((0 : Int64) + (((nar .char z4) - (48 : Int32)).toInt64))), .second, .val (.int (0 : Int32)), .unset, .unset] (hb hby at_169) rfl rfl ?_
        refine g_iload X67 hx 173 (hb hby at_171) rfl rfl ?_
        refine g_ifT X67 hx 217 (hb hby at_173) (by decide) (by decide) (by decide) ?_
        refine g_iconst X67 hx 218 (0 : Int32) (hb hby at_217) (by decide) rfl ?_
        refine g_istore X67 hx 220 #[.val (.int a), .val (.int b), .val (.int c), .val (.int d), .val (.int g), .val (.int f), .val (.ref b1), .val (.int (1 : Int32)), .val (.int (2 : Int32)), .val (.long ((0 : Int64) + (((nar .char z4) - (48 : Int32)).toInt64))), .second, .val (.int (0 : Int32)), .unset, .unset] (hb hby at_218) rfl rfl ?_
        refine g_iload X67 hx 222 (hb hby at_220) rfl rfl ?_
        refine g_ifT X67 hx 266 (hb hby at_222) (by decide) (by decide) (by decide) ?_
        refine g_iconst X67 hx 267 (0 : Int32) (hb hby at_266) (by decide) rfl ?_
        refine g_istore X67 hx 269 #[.val (.int a), .val (.int b), .val (.int c), .val (.int d), .val (.int g), .val (.int f), .val (.ref b1), .val (.int (1 : Int32)), .val (.int (2 : Int32)), .val (.long ((0 : Int64) + (((nar .char z4) - (48 : Int32)).toInt64))), .second, .val (.int (0 : Int32)), .unset, .unset] (hb hby at_267) rfl rfl ?_
        refine g_iload X67 hx 271 (hb hby at_269) rfl rfl ?_
        refine g_ifT X67 hx 315 (hb hby at_271) (by decide) (by decide) (by decide) ?_
        refine g_iconst X67 hx 316 (0 : Int32) (hb hby at_315) (by decide) rfl ?_
        refine g_istore X67 hx 318 #[.val (.int a), .val (.int b), .val (.int c), .val (.int d), .val (.int g), .val (.int f), .val (.ref b1), .val (.int (1 : Int32)), .val (.int (2 : Int32)), .val (.long ((0 : Int64) + (((nar .char z4) - (48 : Int32)).toInt64))), .second, .val (.int (0 : Int32)), .unset, .unset] (hb hby at_316) rfl rfl ?_
        refine g_new X67 hx 321 hZ hown (own_w hw 10 rfl) (own_w hw 11 rfl) (own_w hw 12 rfl) e67 (hb hby at_318) (by decide) (by decide) rfl (fun T69 h69 b69 g69 X69 e69 E69 A69 D69 => ?_)
        have ne_b1_b69 : b1 ≠ b69 := Nat.ne_of_lt (Nat.lt_of_lt_of_le V_b1.lt (Nat.le_of_eq g69.symm))
        have V_b1 := V_b1.ext E69
        have G_b69 : n0 ≤ b69 := Nat.le_trans Z12 (Nat.le_of_eq g69.symm)
        have Z69 : n0 ≤ h69.size := Nat.le_trans Z12 E69.1
        have SZ_b69 : h0.size ≤ b69 := Nat.le_trans K12.1 (Nat.le_of_eq g69.symm)
        have K69 := K12.ext E69
        have E_b69 : Exa Z h69 b69 "gleanwell/Grammar$NumberReading" := A69
        have F_b69_decimalSum : Fld Z h69 b69 "gleanwell/Grammar$NumberReading" "decimalSum" "J" (.long (0 : Int64)) := D69 (Or.inl (own_w hw 26 rfl)) (ty := .long) (by decide)
        have F_b69_integerRadix : Fld Z h69 b69 "gleanwell/Grammar$NumberReading" "integerRadix" "I" (.int (0 : Int32)) := D69 (Or.inl (own_w hw 36 rfl)) (ty := .int) (by decide)
        have F_b69_integerKind : Fld Z h69 b69 "gleanwell/Grammar$NumberReading" "integerKind" "I" (.int (0 : Int32)) := D69 (Or.inl (own_w hw 38 rfl)) (ty := .int) (by decide)
        have F_b69_value : Fld Z h69 b69 "gleanwell/Grammar$NumberReading" "value" "J" (.long (0 : Int64)) := D69 (Or.inl (own_w hw 40 rfl)) (ty := .long) (by decide)
        have F_b69_realRead : Fld Z h69 b69 "gleanwell/Grammar$NumberReading" "realRead" "Z" (.int (0 : Int32)) := D69 (Or.inl (own_w hw 42 rfl)) (ty := .boolean) (by decide)
        refine g_dup X69 hx 322 (hb hby at_321) rfl rfl ?_
        refine g_callI X69 hx 325 hZ rfl hown (own_w hw 13 rfl) (own_w hw 14 rfl) (own_w hw 12 rfl) (own_w hw 15 rfl) (by decide) b69 [] [(.ref b69)] (rm3 l Z a0 hw b69 h69 n0 Z69) e69 1 (by decide) (by decide) (by decide) (by decide) (by rw [hml]; rfl) (lenOf own_pd2 rfl) (hb hby at_322) rfl (Nat.le_of_eq rfl) rfl (fun v70 T70 L70 X70 hQ70 => ?_)
        obtain ⟨rfl, N70q, e70⟩ := hQ70
        have N70 := Fr.app N67 N70q
        show Go p e below _ _ T70 (mkF m 325 #[.val (.int a), .val (.int b), .val (.int c), .val (.int d), .val (.int g), .val (.int f), .val (.ref b1), .val (.int (1 : Int32)), .val (.int (2 : Int32)), .val (.long ((0 : Int64) + (((nar .char z4) - (48 : Int32)).toInt64))), .second, .val (.int (0 : Int32)), .unset, .unset] [(.ref b69)])
        refine g_astore X70 hx 327 #[.val (.int a), .val (.int b), .val (.int c), .val (.int d), .val (.int g), .val (.int f), .val (.ref b1), .val (.int (1 : Int32)), .val (.int (2 : Int32)), .val (.long ((0 : Int64) + (((nar .char z4) - (48 : Int32)).toInt64))), .second, .val (.int (0 : Int32)), .val (.ref b69), .unset] (hb hby at_325) rfl rfl rfl ?_
        refine g_aload X70 hx 329 (hb hby at_327) rfl rfl rfl ?_
        refine g_aload X70 hx 331 (hb hby at_329) rfl rfl rfl ?_
        refine g_iload X70 hx 333 (hb hby at_331) rfl rfl ?_
        refine g_callV X70 hx 336 hZ hown (own_w hw 19 rfl) (own_w hw 20 rfl) (own_w hw 22 rfl) (own_w hw 21 rfl) (own_w hw 12 rfl) (own_w hw 23 rfl) (by decide) b69 E_b69 [(.ref b1), (.int (1 : Int32))] [] (rm5_1_2 l Z a0 hw b69 b1 (nar .char z2) (nar .char z4) (nar .char z6) (nar .char z8) (nar .char z10) kl1 _ _ _ _ _ h69 n0 Z69 G_b69 E_b69 F_b69_decimalSum F_b69_integerRadix F_b69_integerKind F_b69_value F_b69_realRead V_b1 (Ne.symm ne_b1_b69) hc60 hc68) e70 0 (by decide) (by decide) (by decide) (by decide) (by rw [hml]; rfl) (lenOf own_pd3 rfl) (hb hby at_333) rfl (Nat.le_of_eq rfl) rfl (fun v71 T71 L71 X71 hQ71 => ?_)
        obtain ⟨rfl, N71q, K71, E71x, F71_decimalSum, F71_integerRadix, F71_integerKind, F71_value, F71_realRead⟩ := hQ71
        have N71 := Fr.app N70 N71q
        have V_b1 := V_b1.keep K71 (ninS ne_b1_b69 nin0)
        have E_b69 := E_b69.keep K71
        have KK71 : Keep h0 T71.heap [] := K69.trans K71 (allS (Or.inr SZ_b69) all0)
        have Z71 := Nat.le_trans Z69 K71.1
        show Go p e below _ _ T71 (mkF m 336 #[.val (.int a), .val (.int b), .val (.int c), .val (.int d), .val (.int g), .val (.int f), .val (.ref b1), .val (.int (1 : Int32)), .val (.int (2 : Int32)), .val (.long ((0 : Int64) + (((nar .char z4) - (48 : Int32)).toInt64))), .second, .val (.int (0 : Int32)), .val (.ref b69), .unset] [(.int (2 : Int32))])
        refine g_istore X71 hx 338 #[.val (.int a), .val (.int b), .val (.int c), .val (.int d), .val (.int g), .val (.int f), .val (.ref b1), .val (.int (1 : Int32)), .val (.int (2 : Int32)), .val (.long ((0 : Int64) + (((nar .char z4) - (48 : Int32)).toInt64))), .second, .val (.int (0 : Int32)), .val (.ref b69), .val (.int (2 : Int32))] (hb hby at_336) rfl rfl ?_
        refine g_iload X71 hx 340 (hb hby at_338) rfl rfl ?_
        refine g_iload X71 hx 342 (hb hby at_340) rfl rfl ?_
        refine g_icT X71 hx 347 (hb hby at_342) (by decide) (by decide) (by decide) ?_
        refine g_aload X71 hx 349 (hb hby at_347) rfl rfl rfl ?_
        refine g_iconst X71 hx 350 (0 : Int32) (hb hby at_349) (by decide) rfl ?_
        refine g_iload X71 hx 352 (hb hby at_350) rfl rfl ?_
        refine g_iload X71 hx 354 (hb hby at_352) rfl rfl ?_
        refine g_isub X71 hx 355 (1 : Int32) (hb hby at_354) (by decide) rfl ?_
        refine g_callV X71 hx 358 hZ hown (own_w hw 27 rfl) (own_w hw 28 rfl) (own_w hw 30 rfl) (own_w hw 29 rfl) (own_w hw 12 rfl) (own_w hw 31 rfl) (by decide) b69 E_b69 [(.int (0 : Int32)), (.int (1 : Int32))] [] (rm6 l Z a0 hw b69 (1 : Int32) sd ((0 : Int64) - ((nar .char z4) - (48 : Int32)).toInt64) _ _ _ _ T71.heap n0 Z71 G_b69 (own_sta_keep S_sd KK71) E_b69 F71_decimalSum F71_integerRadix F71_integerKind F71_value F71_realRead) rfl 0 (by decide) (by decide) (by decide) (by decide) (by rw [hml]; rfl) (lenOf own_pd4 rfl) (hb hby at_355) rfl (Nat.le_of_eq rfl) rfl (fun v72 T72 L72 X72 hQ72 => ?_)
        obtain ⟨rfl, N72q, K72, E72x, F72_value⟩ := hQ72
        have N72 := Fr.app N71 N72q
        have V_b1 := V_b1.keep K72 (ninS ne_b1_b69 nin0)
        have E_b69 := E_b69.keep K72
        have KK72 : Keep h0 T72.heap [] := KK71.trans K72 (allS (Or.inr SZ_b69) all0)
        have Z72 := Nat.le_trans Z71 K72.1
        show Go p e below _ _ T72 (mkF m 358 #[.val (.int a), .val (.int b), .val (.int c), .val (.int d), .val (.int g), .val (.int f), .val (.ref b1), .val (.int (1 : Int32)), .val (.int (2 : Int32)), .val (.long ((0 : Int64) + (((nar .char z4) - (48 : Int32)).toInt64))), .second, .val (.int (0 : Int32)), .val (.ref b69), .val (.int (2 : Int32))] [])
        refine g_aload X72 hx 360 (hb hby at_358) rfl rfl rfl ?_
        refine g_callV X72 hx 363 hZ hown (own_w hw 43 rfl) (own_w hw 44 rfl) (own_w hw 46 rfl) (own_w hw 45 rfl) (own_w hw 12 rfl) (own_w hw 47 rfl) (by decide) b69 E_b69 [] [] (rm7 l Z a0 hw b69 (-((0 : Int64) - ((nar .char z4) - (48 : Int32)).toInt64)) T72.heap n0 Z72 F72_value) rfl 0 (by decide) (by decide) (by decide) (by decide) (by rw [hml]; rfl) (lenOf own_pd5 rfl) (hb hby at_360) rfl (Nat.le_of_eq rfl) rfl (fun v73 T73 L73 X73 hQ73 => ?_)
        obtain ⟨rfl, N73q, e73⟩ := hQ73
        have N73 := Fr.app N72 N73q
        show Go p e below _ _ T73 (mkF m 363 #[.val (.int a), .val (.int b), .val (.int c), .val (.int d), .val (.int g), .val (.int f), .val (.ref b1), .val (.int (1 : Int32)), .val (.int (2 : Int32)), .val (.long ((0 : Int64) + (((nar .char z4) - (48 : Int32)).toInt64))), .second, .val (.int (0 : Int32)), .val (.ref b69), .val (.int (2 : Int32))] [(.long (-((0 : Int64) - ((nar .char z4) - (48 : Int32)).toInt64)))])
        refine g_lload X73 hx 365 (hb hby at_363) rfl rfl ?_
        refine g_lcmp X73 hx 366 (hb hby at_365) rfl ?_
        have hk74 : (-((0 : Int64) - ((nar .char z4) - (48 : Int32)).toInt64)) = ((0 : Int64) + (((nar .char z4) - (48 : Int32)).toInt64)) := by grind
        refine g_ifF X73 hx 369 (hb hby at_366) (own_eqL hk74).2 rfl ?_
        refine g_iconst X73 hx 370 (1 : Int32) (hb hby at_369) (by decide) rfl ?_
        refine g_goto X73 hx 374 (hb hby at_370) (by decide) (by decide) ?_
        exact g_retZ X73 hx hret hlk rfl (hb hby at_374) (by decide) (by decide) ⟨rfl, N73⟩
      · refine g_ifF X67 hx 144 (hb hby at_141) ((if0 _ _).trans (feq hc68).1) rfl ?_
        refine g_ldc2J X67 hx 147 hZ hown (own_w hw 9 rfl) (hb hby at_144) rfl ?_
        refine g_lload X67 hx 149 (hb hby at_147) rfl rfl ?_
        refine g_lmul X67 hx 150 ((10 : Int64) * ((0 : Int64) + (((nar .char z4) - (48 : Int32)).toInt64))) (hb hby at_149) rfl rfl ?_
        refine g_aload X67 hx 152 (hb hby at_150) rfl rfl rfl ?_
        refine g_iload X67 hx 154 (hb hby at_152) rfl rfl ?_
        refine g_caload X67 hx 155 hZ e67 V_b1 ⟨by decide, by decide⟩ (show _ = (.int (nar .char z6)) from rfl) (hb hby at_154) rfl ?_
        refine g_bipush X67 hx 157 (48 : Int32) (hb hby at_155) (by decide) rfl ?_
        refine g_isub X67 hx 158 ((nar .char z6) - (48 : Int32)) (hb hby at_157) rfl rfl ?_
        refine g_i2l X67 hx 159 (((nar .char z6) - (48 : Int32)).toInt64) (hb hby at_158) rfl rfl ?_
        refine g_ladd X67 hx 160 (((10 : Int64) * ((0 : Int64) + (((nar .char z4) - (48 : Int32)).toInt64))) + (((nar .char z6) - (48 : Int32)).toInt64)) (hb hby at_159) rfl rfl ?_
        refine g_lstore X67 hx 162 #[.val (.int a), .val (.int b), .val (.int c), .val (.int d), .val (.int g), .val (.int f), .val (.ref b1), .val (.int (1 : Int32)), .val (.int (2 : Int32)), .val (.long (((10 : Int64) * ((0 : Int64) + (((nar .char z4) - (48 : Int32)).toInt64))) + (((nar .char z6) - (48 : Int32)).toInt64))), .second, .val (.int (1 : Int32)), .unset, .unset] (hb hby at_160) rfl rfl ?_
        refine g_iinc X67 hx 165 (3 : Int32) #[.val (.int a), .val (.int b), .val (.int c), .val (.int d), .val (.int g), .val (.int f), .val (.ref b1), .val (.int (1 : Int32)), .val (.int (3 : Int32)), .val (.long (((10 : Int64) * ((0 : Int64) + (((nar .char z4) - (48 : Int32)).toInt64))) + (((nar .char z6) - (48 : Int32)).toInt64))), .second, .val (.int (1 : Int32)), .unset, .unset] (hb hby at_162) rfl (by decide) rfl rfl ?_
        refine g_goto X67 hx 171 (hb hby at_165) (by decide) (by decide) ?_
        refine g_iload X67 hx 173 (hb hby at_171) rfl rfl ?_
        refine g_ifF X67 hx 176 (hb hby at_173) (by decide) rfl ?_
        refine g_iload X67 hx 178 (hb hby at_176) rfl rfl ?_
        refine g_iconst X67 hx 179 (5 : Int32) (hb hby at_178) (by decide) rfl ?_
        refine g_icF X67 hx 182 (hb hby at_179) (by decide) rfl ?_
        refine g_aload X67 hx 184 (hb hby at_182) rfl rfl rfl ?_
        refine g_iload X67 hx 186 (hb hby at_184) rfl rfl ?_
        refine g_caload X67 hx 187 hZ e67 V_b1 ⟨by decide, by decide⟩ (show _ = (.int (nar .char z8)) from rfl) (hb hby at_186) rfl ?_
        refine g_callS X67 hx 190 hZ hown (own_w hw 6 rfl) (own_w hw 7 rfl) (own_w hw 3 rfl) (own_w hw 8 rfl) (by decide) [(.int (nar .char z8))] [] (rm2 l Z a0 hw (nar .char z8) h12 n0 Z12) e67 0 (by decide) (by decide) (by decide) (by decide) (by rw [hml]; rfl) (lenOf own_pd1 rfl) (hb hby at_187) rfl (Nat.le_of_eq rfl) rfl (fun v75 T75 L75 X75 hQ75 => ?_)
        obtain ⟨rfl, N75q, e75⟩ := hQ75
        have N75 := Fr.app N67 N75q
        show Go p e below _ _ T75 (mkF m 190 #[.val (.int a), .val (.int b), .val (.int c), .val (.int d), .val (.int g), .val (.int f), .val (.ref b1), .val (.int (1 : Int32)), .val (.int (3 : Int32)), .val (.long (((10 : Int64) * ((0 : Int64) + (((nar .char z4) - (48 : Int32)).toInt64))) + (((nar .char z6) - (48 : Int32)).toInt64))), .second, .val (.int (1 : Int32)), .unset, .unset] [(.int (own_dig (nar .char z8)))])
        by_cases hc76 : (own_dig (nar .char z8)) = (0 : Int32)
        · refine g_ifT X75 hx 217 (hb hby at_190) ((if0 _ _).trans (teq hc76).1) (by decide) (by decide) ?_
          refine g_iconst X75 hx 218 (0 : Int32) (hb hby at_217) (by decide) rfl ?_
          refine g_istore X75 hx 220 #[.val (.int a), .val (.int b), .val (.int c), .val (.int d), .val (.int g), .val (.int f), .val (.ref b1), .val (.int (1 : Int32)), .val (.int (3 : Int32)), .val (.long (((10 : Int64) * ((0 : Int64) + (((nar .char z4) - (48 : Int32)).toInt64))) + (((nar .char z6) - (48 : Int32)).toInt64))), .second, .val (.int (0 : Int32)), .unset, .unset] (hb hby at_218) rfl rfl ?_
          refine g_iload X75 hx 222 (hb hby at_220) rfl rfl ?_
          refine g_ifT X75 hx 266 (hb hby at_222) (by decide) (by decide) (by decide) ?_
          refine g_iconst X75 hx 267 (0 : Int32) (hb hby at_266) (by decide) rfl ?_
          refine g_istore X75 hx 269 #[.val (.int a), .val (.int b), .val (.int c), .val (.int d), .val (.int g), .val (.int f), .val (.ref b1), .val (.int (1 : Int32)), .val (.int (3 : Int32)), .val (.long (((10 : Int64) * ((0 : Int64) + (((nar .char z4) - (48 : Int32)).toInt64))) + (((nar .char z6) - (48 : Int32)).toInt64))), .second, .val (.int (0 : Int32)), .unset, .unset] (hb hby at_267) rfl rfl ?_
          refine g_iload X75 hx 271 (hb hby at_269) rfl rfl ?_
          refine g_ifT X75 hx 315 (hb hby at_271) (by decide) (by decide) (by decide) ?_
          refine g_iconst X75 hx 316 (0 : Int32) (hb hby at_315) (by decide) rfl ?_
          refine g_istore X75 hx 318 #[.val (.int a), .val (.int b), .val (.int c), .val (.int d), .val (.int g), .val (.int f), .val (.ref b1), .val (.int (1 : Int32)), .val (.int (3 : Int32)), .val (.long (((10 : Int64) * ((0 : Int64) + (((nar .char z4) - (48 : Int32)).toInt64))) + (((nar .char z6) - (48 : Int32)).toInt64))), .second, .val (.int (0 : Int32)), .unset, .unset] (hb hby at_316) rfl rfl ?_
          refine g_new X75 hx 321 hZ hown (own_w hw 10 rfl) (own_w hw 11 rfl) (own_w hw 12 rfl) e75 (hb hby at_318) (by decide) (by decide) rfl (fun T77 h77 b77 g77 X77 e77 E77 A77 D77 => ?_)
          have ne_b1_b77 : b1 ≠ b77 := Nat.ne_of_lt (Nat.lt_of_lt_of_le V_b1.lt (Nat.le_of_eq g77.symm))
          have V_b1 := V_b1.ext E77
          have G_b77 : n0 ≤ b77 := Nat.le_trans Z12 (Nat.le_of_eq g77.symm)
          have Z77 : n0 ≤ h77.size := Nat.le_trans Z12 E77.1
          have SZ_b77 : h0.size ≤ b77 := Nat.le_trans K12.1 (Nat.le_of_eq g77.symm)
          have K77 := K12.ext E77
          have E_b77 : Exa Z h77 b77 "gleanwell/Grammar$NumberReading" := A77
          have F_b77_decimalSum : Fld Z h77 b77 "gleanwell/Grammar$NumberReading" "decimalSum" "J" (.long (0 : Int64)) := D77 (Or.inl (own_w hw 26 rfl)) (ty := .long) (by decide)
          have F_b77_integerRadix : Fld Z h77 b77 "gleanwell/Grammar$NumberReading" "integerRadix" "I" (.int (0 : Int32)) := D77 (Or.inl (own_w hw 36 rfl)) (ty := .int) (by decide)
          have F_b77_integerKind : Fld Z h77 b77 "gleanwell/Grammar$NumberReading" "integerKind" "I" (.int (0 : Int32)) := D77 (Or.inl (own_w hw 38 rfl)) (ty := .int) (by decide)
          have F_b77_value : Fld Z h77 b77 "gleanwell/Grammar$NumberReading" "value" "J" (.long (0 : Int64)) := D77 (Or.inl (own_w hw 40 rfl)) (ty := .long) (by decide)
          have F_b77_realRead : Fld Z h77 b77 "gleanwell/Grammar$NumberReading" "realRead" "Z" (.int (0 : Int32)) := D77 (Or.inl (own_w hw 42 rfl)) (ty := .boolean) (by decide)
          refine g_dup X77 hx 322 (hb hby at_321) rfl rfl ?_
          refine g_callI X77 hx 325 hZ rfl hown (own_w hw 13 rfl) (own_w hw 14 rfl) (own_w hw 12 rfl) (own_w hw 15 rfl) (by decide) b77 [] [(.ref b77)] (rm3 l Z a0 hw b77 h77 n0 Z77) e77 1 (by decide) (by decide) (by decide) (by decide) (by rw [hml]; rfl) (lenOf own_pd2 rfl) (hb hby at_322) rfl (Nat.le_of_eq rfl) rfl (fun v78 T78 L78 X78 hQ78 => ?_)
          obtain ⟨rfl, N78q, e78⟩ := hQ78
          have N78 := Fr.app N75 N78q
          show Go p e below _ _ T78 (mkF m 325 #[.val (.int a), .val (.int b), .val (.int c), .val (.int d), .val (.int g), .val (.int f), .val (.ref b1), .val (.int (1 : Int32)), .val (.int (3 : Int32)), .val (.long (((10 : Int64) * ((0 : Int64) + (((nar .char z4) - (48 : Int32)).toInt64))) + (((nar .char z6) - (48 : Int32)).toInt64))), .second, .val (.int (0 : Int32)), .unset, .unset] [(.ref b77)])
          refine g_astore X78 hx 327 #[.val (.int a), .val (.int b), .val (.int c), .val (.int d), .val (.int g), .val (.int f), .val (.ref b1), .val (.int (1 : Int32)), .val (.int (3 : Int32)), .val (.long (((10 : Int64) * ((0 : Int64) + (((nar .char z4) - (48 : Int32)).toInt64))) + (((nar .char z6) - (48 : Int32)).toInt64))), .second, .val (.int (0 : Int32)), .val (.ref b77), .unset] (hb hby at_325) rfl rfl rfl ?_
          refine g_aload X78 hx 329 (hb hby at_327) rfl rfl rfl ?_
          refine g_aload X78 hx 331 (hb hby at_329) rfl rfl rfl ?_
          refine g_iload X78 hx 333 (hb hby at_331) rfl rfl ?_
          refine g_callV X78 hx 336 hZ hown (own_w hw 19 rfl) (own_w hw 20 rfl) (own_w hw 22 rfl) (own_w hw 21 rfl) (own_w hw 12 rfl) (own_w hw 23 rfl) (by decide) b77 E_b77 [(.ref b1), (.int (1 : Int32))] [] (rm5_1_3 l Z a0 hw b77 b1 (nar .char z2) (nar .char z4) (nar .char z6) (nar .char z8) (nar .char z10) kl1 _ _ _ _ _ h77 n0 Z77 G_b77 E_b77 F_b77_decimalSum F_b77_integerRadix F_b77_integerKind F_b77_value F_b77_realRead V_b1 (Ne.symm ne_b1_b77) hc60 hc68 hc76) e78 0 (by decide) (by decide) (by decide) (by decide) (by rw [hml]; rfl) (lenOf own_pd3 rfl) (hb hby at_333) rfl (Nat.le_of_eq rfl) rfl (fun v79 T79 L79 X79 hQ79 => ?_)
          obtain ⟨rfl, N79q, K79, E79x, F79_decimalSum, F79_integerRadix, F79_integerKind, F79_value, F79_realRead⟩ := hQ79
          have N79 := Fr.app N78 N79q
          have V_b1 := V_b1.keep K79 (ninS ne_b1_b77 nin0)
          have E_b77 := E_b77.keep K79
          have KK79 : Keep h0 T79.heap [] := K77.trans K79 (allS (Or.inr SZ_b77) all0)
          have Z79 := Nat.le_trans Z77 K79.1
          show Go p e below _ _ T79 (mkF m 336 #[.val (.int a), .val (.int b), .val (.int c), .val (.int d), .val (.int g), .val (.int f), .val (.ref b1), .val (.int (1 : Int32)), .val (.int (3 : Int32)), .val (.long (((10 : Int64) * ((0 : Int64) + (((nar .char z4) - (48 : Int32)).toInt64))) + (((nar .char z6) - (48 : Int32)).toInt64))), .second, .val (.int (0 : Int32)), .val (.ref b77), .unset] [(.int (3 : Int32))])
          refine g_istore X79 hx 338 #[.val (.int a), .val (.int b), .val (.int c), .val (.int d), .val (.int g), .val (.int f), .val (.ref b1), .val (.int (1 : Int32)), .val (.int (3 : Int32)), .val (.long (((10 : Int64) * ((0 : Int64) + (((nar .char z4) - (48 : Int32)).toInt64))) + (((nar .char z6) - (48 : Int32)).toInt64))), .second, .val (.int (0 : Int32)), .val (.ref b77), .val (.int (3 : Int32))] (hb hby at_336) rfl rfl ?_
          refine g_iload X79 hx 340 (hb hby at_338) rfl rfl ?_
          refine g_iload X79 hx 342 (hb hby at_340) rfl rfl ?_
          refine g_icT X79 hx 347 (hb hby at_342) (by decide) (by decide) (by decide) ?_
          refine g_aload X79 hx 349 (hb hby at_347) rfl rfl rfl ?_
          refine g_iconst X79 hx 350 (0 : Int32) (hb hby at_349) (by decide) rfl ?_
          refine g_iload X79 hx 352 (hb hby at_350) rfl rfl ?_
          refine g_iload X79 hx 354 (hb hby at_352) rfl rfl ?_
          refine g_isub X79 hx 355 (2 : Int32) (hb hby at_354) (by decide) rfl ?_
          refine g_callV X79 hx 358 hZ hown (own_w hw 27 rfl) (own_w hw 28 rfl) (own_w hw 30 rfl) (own_w hw 29 rfl) (own_w hw 12 rfl) (own_w hw 31 rfl) (by decide) b77 E_b77 [(.int (0 : Int32)), (.int (2 : Int32))] [] (rm6 l Z a0 hw b77 (2 : Int32) sd ((10 : Int64) * ((0 : Int64) - ((nar .char z4) - (48 : Int32)).toInt64) - ((nar .char z6) - (48 : Int32)).toInt64) _ _ _ _ T79.heap n0 Z79 G_b77 (own_sta_keep S_sd KK79) E_b77 F79_decimalSum F79_integerRadix F79_integerKind F79_value F79_realRead) rfl 0 (by decide) (by decide) (by decide) (by decide) (by rw [hml]; rfl) (lenOf own_pd4 rfl) (hb hby at_355) rfl (Nat.le_of_eq rfl) rfl (fun v80 T80 L80 X80 hQ80 => ?_)
          obtain ⟨rfl, N80q, K80, E80x, F80_value⟩ := hQ80
          have N80 := Fr.app N79 N80q
          have V_b1 := V_b1.keep K80 (ninS ne_b1_b77 nin0)
          have E_b77 := E_b77.keep K80
          have KK80 : Keep h0 T80.heap [] := KK79.trans K80 (allS (Or.inr SZ_b77) all0)
          have Z80 := Nat.le_trans Z79 K80.1
          show Go p e below _ _ T80 (mkF m 358 #[.val (.int a), .val (.int b), .val (.int c), .val (.int d), .val (.int g), .val (.int f), .val (.ref b1), .val (.int (1 : Int32)), .val (.int (3 : Int32)), .val (.long (((10 : Int64) * ((0 : Int64) + (((nar .char z4) - (48 : Int32)).toInt64))) + (((nar .char z6) - (48 : Int32)).toInt64))), .second, .val (.int (0 : Int32)), .val (.ref b77), .val (.int (3 : Int32))] [])
          refine g_aload X80 hx 360 (hb hby at_358) rfl rfl rfl ?_
          refine g_callV X80 hx 363 hZ hown (own_w hw 43 rfl) (own_w hw 44 rfl) (own_w hw 46 rfl) (own_w hw 45 rfl) (own_w hw 12 rfl) (own_w hw 47 rfl) (by decide) b77 E_b77 [] [] (rm7 l Z a0 hw b77 (-((10 : Int64) * ((0 : Int64) - ((nar .char z4) - (48 : Int32)).toInt64) - ((nar .char z6) - (48 : Int32)).toInt64)) T80.heap n0 Z80 F80_value) rfl 0 (by decide) (by decide) (by decide) (by decide) (by rw [hml]; rfl) (lenOf own_pd5 rfl) (hb hby at_360) rfl (Nat.le_of_eq rfl) rfl (fun v81 T81 L81 X81 hQ81 => ?_)
          obtain ⟨rfl, N81q, e81⟩ := hQ81
          have N81 := Fr.app N80 N81q
          show Go p e below _ _ T81 (mkF m 363 #[.val (.int a), .val (.int b), .val (.int c), .val (.int d), .val (.int g), .val (.int f), .val (.ref b1), .val (.int (1 : Int32)), .val (.int (3 : Int32)), .val (.long (((10 : Int64) * ((0 : Int64) + (((nar .char z4) - (48 : Int32)).toInt64))) + (((nar .char z6) - (48 : Int32)).toInt64))), .second, .val (.int (0 : Int32)), .val (.ref b77), .val (.int (3 : Int32))] [(.long (-((10 : Int64) * ((0 : Int64) - ((nar .char z4) - (48 : Int32)).toInt64) - ((nar .char z6) - (48 : Int32)).toInt64)))])
          refine g_lload X81 hx 365 (hb hby at_363) rfl rfl ?_
          refine g_lcmp X81 hx 366 (hb hby at_365) rfl ?_
          have hk82 : (-((10 : Int64) * ((0 : Int64) - ((nar .char z4) - (48 : Int32)).toInt64) - ((nar .char z6) - (48 : Int32)).toInt64)) = (((10 : Int64) * ((0 : Int64) + (((nar .char z4) - (48 : Int32)).toInt64))) + (((nar .char z6) - (48 : Int32)).toInt64)) := by grind
          refine g_ifF X81 hx 369 (hb hby at_366) (own_eqL hk82).2 rfl ?_
          refine g_iconst X81 hx 370 (1 : Int32) (hb hby at_369) (by decide) rfl ?_
          refine g_goto X81 hx 374 (hb hby at_370) (by decide) (by decide) ?_
          exact g_retZ X81 hx hret hlk rfl (hb hby at_374) (by decide) (by decide) ⟨rfl, N81⟩
        · refine g_ifF X75 hx 193 (hb hby at_190) ((if0 _ _).trans (feq hc76).1) rfl ?_
          refine g_ldc2J X75 hx 196 hZ hown (own_w hw 9 rfl) (hb hby at_193) rfl ?_
          refine g_lload X75 hx 198 (hb hby at_196) rfl rfl ?_
          refine g_lmul X75 hx 199 ((10 : Int64) * (((10 : Int64) * ((0 : Int64) + (((nar .char z4) - (48 : Int32)).toInt64))) + (((nar .char z6) - (48 : Int32)).toInt64))) (hb hby at_198) rfl rfl ?_
          refine g_aload X75 hx 201 (hb hby at_199) rfl rfl rfl ?_
          refine g_iload X75 hx 203 (hb hby at_201) rfl rfl ?_
          refine g_caload X75 hx 204 hZ e75 V_b1 ⟨by decide, by decide⟩ (show _ = (.int (nar .char z8)) from rfl) (hb hby at_203) rfl ?_
          refine g_bipush X75 hx 206 (48 : Int32) (hb hby at_204) (by decide) rfl ?_
          refine g_isub X75 hx 207 ((nar .char z8) - (48 : Int32)) (hb hby at_206) rfl rfl ?_
          refine g_i2l X75 hx 208 (((nar .char z8) - (48 : Int32)).toInt64) (hb hby at_207) rfl rfl ?_
          refine g_ladd X75 hx 209 (((10 : Int64) * (((10 : Int64) * ((0 : Int64) + (((nar .char z4) - (48 : Int32)).toInt64))) + (((nar .char z6) - (48 : Int32)).toInt64))) + (((nar .char z8) - (48 : Int32)).toInt64)) (hb hby at_208) rfl rfl ?_
          refine g_lstore X75 hx 211 #[.val (.int a), .val (.int b), .val (.int c), .val (.int d), .val (.int g), .val (.int f), .val (.ref b1), .val (.int (1 : Int32)), .val (.int (3 : Int32)), .val (.long (((10 : Int64) * (((10 : Int64) * ((0 : Int64) + (((nar .char z4) - (48 : Int32)).toInt64))) + (((nar .char z6) - (48 : Int32)).toInt64))) + (((nar .char z8) - (48 : Int32)).toInt64))), .second, .val (.int (1 : Int32)), .unset, .unset] (hb hby at_209) rfl rfl ?_
          refine g_iinc X75 hx 214 (4 : Int32) #[.val (.int a), .val (.int b), .val (.int c), .val (.int d), .val (.int g), .val (.int f), .val (.ref b1), .val (.int (1 : Int32)), .val (.int (4 : Int32)), .val (.long (((10 : Int64) * (((10 : Int64) * ((0 : Int64) + (((nar .char z4) - (48 : Int32)).toInt64))) + (((nar .char z6) - (48 : Int32)).toInt64))) + (((nar .char z8) - (48 : Int32)).toInt64))), .second, .val (.int (1 : Int32)), .unset, .unset] (hb hby at_211) rfl (by decide) rfl rfl ?_
          refine g_goto X75 hx 220 (hb hby at_214) (by decide) (by decide) ?_
          refine g_iload X75 hx 222 (hb hby at_220) rfl rfl ?_
          refine g_ifF X75 hx 225 (hb hby at_222) (by decide) rfl ?_
          refine g_iload X75 hx 227 (hb hby at_225) rfl rfl ?_
          refine g_iconst X75 hx 228 (5 : Int32) (hb hby at_227) (by decide) rfl ?_
          refine g_icF X75 hx 231 (hb hby at_228) (by decide) rfl ?_
          refine g_aload X75 hx 233 (hb hby at_231) rfl rfl rfl ?_
          refine g_iload X75 hx 235 (hb hby at_233) rfl rfl ?_
          refine g_caload X75 hx 236 hZ e75 V_b1 ⟨by decide, by decide⟩ (show _ = (.int (nar .char z10)) from rfl) (hb hby at_235) rfl ?_
          refine g_callS X75 hx 239 hZ hown (own_w hw 6 rfl) (own_w hw 7 rfl) (own_w hw 3 rfl) (own_w hw 8 rfl) (by decide) [(.int (nar .char z10))] [] (rm2 l Z a0 hw (nar .char z10) h12 n0 Z12) e75 0 (by decide) (by decide) (by decide) (by decide) (by rw [hml]; rfl) (lenOf own_pd1 rfl) (hb hby at_236) rfl (Nat.le_of_eq rfl) rfl (fun v83 T83 L83 X83 hQ83 => ?_)
          obtain ⟨rfl, N83q, e83⟩ := hQ83
          have N83 := Fr.app N75 N83q
          show Go p e below _ _ T83 (mkF m 239 #[.val (.int a), .val (.int b), .val (.int c), .val (.int d), .val (.int g), .val (.int f), .val (.ref b1), .val (.int (1 : Int32)), .val (.int (4 : Int32)), .val (.long (((10 : Int64) * (((10 : Int64) * ((0 : Int64) + (((nar .char z4) - (48 : Int32)).toInt64))) + (((nar .char z6) - (48 : Int32)).toInt64))) + (((nar .char z8) - (48 : Int32)).toInt64))), .second, .val (.int (1 : Int32)), .unset, .unset] [(.int (own_dig (nar .char z10)))])
          by_cases hc84 : (own_dig (nar .char z10)) = (0 : Int32)
          · refine g_ifT X83 hx 266 (hb hby at_239) ((if0 _ _).trans (teq hc84).1) (by decide) (by decide) ?_
            refine g_iconst X83 hx 267 (0 : Int32) (hb hby at_266) (by decide) rfl ?_
            refine g_istore X83 hx 269 #[.val (.int a), .val (.int b), .val (.int c), .val (.int d), .val (.int g), .val (.int f), .val (.ref b1), .val (.int (1 : Int32)), .val (.int (4 : Int32)), .val (.long (((10 : Int64) * (((10 : Int64) * ((0 : Int64) + (((nar .char z4) - (48 : Int32)).toInt64))) + (((nar .char z6) - (48 : Int32)).toInt64))) + (((nar .char z8) - (48 : Int32)).toInt64))), .second, .val (.int (0 : Int32)), .unset, .unset] (hb hby at_267) rfl rfl ?_
            refine g_iload X83 hx 271 (hb hby at_269) rfl rfl ?_
            refine g_ifT X83 hx 315 (hb hby at_271) (by decide) (by decide) (by decide) ?_
            refine g_iconst X83 hx 316 (0 : Int32) (hb hby at_315) (by decide) rfl ?_
            refine g_istore X83 hx 318 #[.val (.int a), .val (.int b), .val (.int c), .val (.int d), .val (.int g), .val (.int f), .val (.ref b1), .val (.int (1 : Int32)), .val (.int (4 : Int32)), .val (.long (((10 : Int64) * (((10 : Int64) * ((0 : Int64) + (((nar .char z4) - (48 : Int32)).toInt64))) + (((nar .char z6) - (48 : Int32)).toInt64))) + (((nar .char z8) - (48 : Int32)).toInt64))), .second, .val (.int (0 : Int32)), .unset, .unset] (hb hby at_316) rfl rfl ?_
            refine g_new X83 hx 321 hZ hown (own_w hw 10 rfl) (own_w hw 11 rfl) (own_w hw 12 rfl) e83 (hb hby at_318) (by decide) (by decide) rfl (fun T85 h85 b85 g85 X85 e85 E85 A85 D85 => ?_)
            have ne_b1_b85 : b1 ≠ b85 := Nat.ne_of_lt (Nat.lt_of_lt_of_le V_b1.lt (Nat.le_of_eq g85.symm))
            have V_b1 := V_b1.ext E85
            have G_b85 : n0 ≤ b85 := Nat.le_trans Z12 (Nat.le_of_eq g85.symm)
            have Z85 : n0 ≤ h85.size := Nat.le_trans Z12 E85.1
            have SZ_b85 : h0.size ≤ b85 := Nat.le_trans K12.1 (Nat.le_of_eq g85.symm)
            have K85 := K12.ext E85
            have E_b85 : Exa Z h85 b85 "gleanwell/Grammar$NumberReading" := A85
            have F_b85_decimalSum : Fld Z h85 b85 "gleanwell/Grammar$NumberReading" "decimalSum" "J" (.long (0 : Int64)) := D85 (Or.inl (own_w hw 26 rfl)) (ty := .long) (by decide)
            have F_b85_integerRadix : Fld Z h85 b85 "gleanwell/Grammar$NumberReading" "integerRadix" "I" (.int (0 : Int32)) := D85 (Or.inl (own_w hw 36 rfl)) (ty := .int) (by decide)
            have F_b85_integerKind : Fld Z h85 b85 "gleanwell/Grammar$NumberReading" "integerKind" "I" (.int (0 : Int32)) := D85 (Or.inl (own_w hw 38 rfl)) (ty := .int) (by decide)
            have F_b85_value : Fld Z h85 b85 "gleanwell/Grammar$NumberReading" "value" "J" (.long (0 : Int64)) := D85 (Or.inl (own_w hw 40 rfl)) (ty := .long) (by decide)
            have F_b85_realRead : Fld Z h85 b85 "gleanwell/Grammar$NumberReading" "realRead" "Z" (.int (0 : Int32)) := D85 (Or.inl (own_w hw 42 rfl)) (ty := .boolean) (by decide)
            refine g_dup X85 hx 322 (hb hby at_321) rfl rfl ?_
            refine g_callI X85 hx 325 hZ rfl hown (own_w hw 13 rfl) (own_w hw 14 rfl) (own_w hw 12 rfl) (own_w hw 15 rfl) (by decide) b85 [] [(.ref b85)] (rm3 l Z a0 hw b85 h85 n0 Z85) e85 1 (by decide) (by decide) (by decide) (by decide) (by rw [hml]; rfl) (lenOf own_pd2 rfl) (hb hby at_322) rfl (Nat.le_of_eq rfl) rfl (fun v86 T86 L86 X86 hQ86 => ?_)
            obtain ⟨rfl, N86q, e86⟩ := hQ86
            have N86 := Fr.app N83 N86q
            show Go p e below _ _ T86 (mkF m 325 #[.val (.int a), .val (.int b), .val (.int c), .val (.int d), .val (.int g), .val (.int f), .val (.ref b1), .val (.int (1 : Int32)), .val (.int (4 : Int32)), .val (.long (((10 : Int64) * (((10 : Int64) * ((0 : Int64) + (((nar .char z4) - (48 : Int32)).toInt64))) + (((nar .char z6) - (48 : Int32)).toInt64))) + (((nar .char z8) - (48 : Int32)).toInt64))), .second, .val (.int (0 : Int32)), .unset, .unset] [(.ref b85)])
            refine g_astore X86 hx 327 #[.val (.int a), .val (.int b), .val (.int c), .val (.int d), .val (.int g), .val (.int f), .val (.ref b1), .val (.int (1 : Int32)), .val (.int (4 : Int32)), .val (.long (((10 : Int64) * (((10 : Int64) * ((0 : Int64) + (((nar .char z4) - (48 : Int32)).toInt64))) + (((nar .char z6) - (48 : Int32)).toInt64))) + (((nar .char z8) - (48 : Int32)).toInt64))), .second, .val (.int (0 : Int32)), .val (.ref b85), .unset] (hb hby at_325) rfl rfl rfl ?_
            refine g_aload X86 hx 329 (hb hby at_327) rfl rfl rfl ?_
            refine g_aload X86 hx 331 (hb hby at_329) rfl rfl rfl ?_
            refine g_iload X86 hx 333 (hb hby at_331) rfl rfl ?_
            refine g_callV X86 hx 336 hZ hown (own_w hw 19 rfl) (own_w hw 20 rfl) (own_w hw 22 rfl) (own_w hw 21 rfl) (own_w hw 12 rfl) (own_w hw 23 rfl) (by decide) b85 E_b85 [(.ref b1), (.int (1 : Int32))] [] (rm5_1_4 l Z a0 hw b85 b1 (nar .char z2) (nar .char z4) (nar .char z6) (nar .char z8) (nar .char z10) kl1 _ _ _ _ _ h85 n0 Z85 G_b85 E_b85 F_b85_decimalSum F_b85_integerRadix F_b85_integerKind F_b85_value F_b85_realRead V_b1 (Ne.symm ne_b1_b85) hc60 hc68 hc76 hc84) e86 0 (by decide) (by decide) (by decide) (by decide) (by rw [hml]; rfl) (lenOf own_pd3 rfl) (hb hby at_333) rfl (Nat.le_of_eq rfl) rfl (fun v87 T87 L87 X87 hQ87 => ?_)
            obtain ⟨rfl, N87q, K87, E87x, F87_decimalSum, F87_integerRadix, F87_integerKind, F87_value, F87_realRead⟩ := hQ87
            have N87 := Fr.app N86 N87q
            have V_b1 := V_b1.keep K87 (ninS ne_b1_b85 nin0)
            have E_b85 := E_b85.keep K87
            have KK87 : Keep h0 T87.heap [] := K85.trans K87 (allS (Or.inr SZ_b85) all0)
            have Z87 := Nat.le_trans Z85 K87.1
            show Go p e below _ _ T87 (mkF m 336 #[.val (.int a), .val (.int b), .val (.int c), .val (.int d), .val (.int g), .val (.int f), .val (.ref b1), .val (.int (1 : Int32)), .val (.int (4 : Int32)), .val (.long (((10 : Int64) * (((10 : Int64) * ((0 : Int64) + (((nar .char z4) - (48 : Int32)).toInt64))) + (((nar .char z6) - (48 : Int32)).toInt64))) + (((nar .char z8) - (48 : Int32)).toInt64))), .second, .val (.int (0 : Int32)), .val (.ref b85), .unset] [(.int (4 : Int32))])
            refine g_istore X87 hx 338 #[.val (.int a), .val (.int b), .val (.int c), .val (.int d), .val (.int g), .val (.int f), .val (.ref b1), .val (.int (1 : Int32)), .val (.int (4 : Int32)), .val (.long (((10 : Int64) * (((10 : Int64) * ((0 : Int64) + (((nar .char z4) - (48 : Int32)).toInt64))) + (((nar .char z6) - (48 : Int32)).toInt64))) + (((nar .char z8) - (48 : Int32)).toInt64))), .second, .val (.int (0 : Int32)), .val (.ref b85), .val (.int (4 : Int32))] (hb hby at_336) rfl rfl ?_
            refine g_iload X87 hx 340 (hb hby at_338) rfl rfl ?_
            refine g_iload X87 hx 342 (hb hby at_340) rfl rfl ?_
            refine g_icT X87 hx 347 (hb hby at_342) (by decide) (by decide) (by decide) ?_
            refine g_aload X87 hx 349 (hb hby at_347) rfl rfl rfl ?_
            refine g_iconst X87 hx 350 (0 : Int32) (hb hby at_349) (by decide) rfl ?_
            refine g_iload X87 hx 352 (hb hby at_350) rfl rfl ?_
            refine g_iload X87 hx 354 (hb hby at_352) rfl rfl ?_
            refine g_isub X87 hx 355 (3 : Int32) (hb hby at_354) (by decide) rfl ?_
            refine g_callV X87 hx 358 hZ hown (own_w hw 27 rfl) (own_w hw 28 rfl) (own_w hw 30 rfl) (own_w hw 29 rfl) (own_w hw 12 rfl) (own_w hw 31 rfl) (by decide) b85 E_b85 [(.int (0 : Int32)), (.int (3 : Int32))] [] (rm6 l Z a0 hw b85 (3 : Int32) sd ((10 : Int64) * ((10 : Int64) * ((0 : Int64) - ((nar .char z4) - (48 : Int32)).toInt64) - ((nar .char z6) - (48 : Int32)).toInt64) - ((nar .char z8) - (48 : Int32)).toInt64) _ _ _ _ T87.heap n0 Z87 G_b85 (own_sta_keep S_sd KK87) E_b85 F87_decimalSum F87_integerRadix F87_integerKind F87_value F87_realRead) rfl 0 (by decide) (by decide) (by decide) (by decide) (by rw [hml]; rfl) (lenOf own_pd4 rfl) (hb hby at_355) rfl (Nat.le_of_eq rfl) rfl (fun v88 T88 L88 X88 hQ88 => ?_)
            obtain ⟨rfl, N88q, K88, E88x, F88_value⟩ := hQ88
            have N88 := Fr.app N87 N88q
            have V_b1 := V_b1.keep K88 (ninS ne_b1_b85 nin0)
            have E_b85 := E_b85.keep K88
            have KK88 : Keep h0 T88.heap [] := KK87.trans K88 (allS (Or.inr SZ_b85) all0)
            have Z88 := Nat.le_trans Z87 K88.1
            show Go p e below _ _ T88 (mkF m 358 #[.val (.int a), .val (.int b), .val (.int c), .val (.int d), .val (.int g), .val (.int f), .val (.ref b1), .val (.int (1 : Int32)), .val (.int (4 : Int32)), .val (.long (((10 : Int64) * (((10 : Int64) * ((0 : Int64) + (((nar .char z4) - (48 : Int32)).toInt64))) + (((nar .char z6) - (48 : Int32)).toInt64))) + (((nar .char z8) - (48 : Int32)).toInt64))), .second, .val (.int (0 : Int32)), .val (.ref b85), .val (.int (4 : Int32))] [])
            refine g_aload X88 hx 360 (hb hby at_358) rfl rfl rfl ?_
            refine g_callV X88 hx 363 hZ hown (own_w hw 43 rfl) (own_w hw 44 rfl) (own_w hw 46 rfl) (own_w hw 45 rfl) (own_w hw 12 rfl) (own_w hw 47 rfl) (by decide) b85 E_b85 [] [] (rm7 l Z a0 hw b85 (-((10 : Int64) * ((10 : Int64) * ((0 : Int64) - ((nar .char z4) - (48 : Int32)).toInt64) - ((nar .char z6) - (48 : Int32)).toInt64) - ((nar .char z8) - (48 : Int32)).toInt64)) T88.heap n0 Z88 F88_value) rfl 0 (by decide) (by decide) (by decide) (by decide) (by rw [hml]; rfl) (lenOf own_pd5 rfl) (hb hby at_360) rfl (Nat.le_of_eq rfl) rfl (fun v89 T89 L89 X89 hQ89 => ?_)
            obtain ⟨rfl, N89q, e89⟩ := hQ89
            have N89 := Fr.app N88 N89q
            show Go p e below _ _ T89 (mkF m 363 #[.val (.int a), .val (.int b), .val (.int c), .val (.int d), .val (.int g), .val (.int f), .val (.ref b1), .val (.int (1 : Int32)), .val (.int (4 : Int32)), .val (.long (((10 : Int64) * (((10 : Int64) * ((0 : Int64) + (((nar .char z4) - (48 : Int32)).toInt64))) + (((nar .char z6) - (48 : Int32)).toInt64))) + (((nar .char z8) - (48 : Int32)).toInt64))), .second, .val (.int (0 : Int32)), .val (.ref b85), .val (.int (4 : Int32))] [(.long (-((10 : Int64) * ((10 : Int64) * ((0 : Int64) - ((nar .char z4) - (48 : Int32)).toInt64) - ((nar .char z6) - (48 : Int32)).toInt64) - ((nar .char z8) - (48 : Int32)).toInt64)))])
            refine g_lload X89 hx 365 (hb hby at_363) rfl rfl ?_
            refine g_lcmp X89 hx 366 (hb hby at_365) rfl ?_
            have hk90 : (-((10 : Int64) * ((10 : Int64) * ((0 : Int64) - ((nar .char z4) - (48 : Int32)).toInt64) - ((nar .char z6) - (48 : Int32)).toInt64) - ((nar .char z8) - (48 : Int32)).toInt64)) = (((10 : Int64) * (((10 : Int64) * ((0 : Int64) + (((nar .char z4) - (48 : Int32)).toInt64))) + (((nar .char z6) - (48 : Int32)).toInt64))) + (((nar .char z8) - (48 : Int32)).toInt64)) := by grind
            refine g_ifF X89 hx 369 (hb hby at_366) (own_eqL hk90).2 rfl ?_
            refine g_iconst X89 hx 370 (1 : Int32) (hb hby at_369) (by decide) rfl ?_
            refine g_goto X89 hx 374 (hb hby at_370) (by decide) (by decide) ?_
            exact g_retZ X89 hx hret hlk rfl (hb hby at_374) (by decide) (by decide) ⟨rfl, N89⟩
          · refine g_ifF X83 hx 242 (hb hby at_239) ((if0 _ _).trans (feq hc84).1) rfl ?_
            refine g_ldc2J X83 hx 245 hZ hown (own_w hw 9 rfl) (hb hby at_242) rfl ?_
            refine g_lload X83 hx 247 (hb hby at_245) rfl rfl ?_
            refine g_lmul X83 hx 248 ((10 : Int64) * (((10 : Int64) * (((10 : Int64) * ((0 : Int64) + (((nar .char z4) - (48 : Int32)).toInt64))) + (((nar .char z6) - (48 : Int32)).toInt64))) + (((nar .char z8) - (48 : Int32)).toInt64))) (hb hby at_247) rfl rfl ?_
            refine g_aload X83 hx 250 (hb hby at_248) rfl rfl rfl ?_
            refine g_iload X83 hx 252 (hb hby at_250) rfl rfl ?_
            refine g_caload X83 hx 253 hZ e83 V_b1 ⟨by decide, by decide⟩ (show _ = (.int (nar .char z10)) from rfl) (hb hby at_252) rfl ?_
            refine g_bipush X83 hx 255 (48 : Int32) (hb hby at_253) (by decide) rfl ?_
            refine g_isub X83 hx 256 ((nar .char z10) - (48 : Int32)) (hb hby at_255) rfl rfl ?_
            refine g_i2l X83 hx 257 (((nar .char z10) - (48 : Int32)).toInt64) (hb hby at_256) rfl rfl ?_
            refine g_ladd X83 hx 258 (((10 : Int64) * (((10 : Int64) * (((10 : Int64) * ((0 : Int64) + (((nar .char z4) - (48 : Int32)).toInt64))) + (((nar .char z6) - (48 : Int32)).toInt64))) + (((nar .char z8) - (48 : Int32)).toInt64))) + (((nar .char z10) - (48 : Int32)).toInt64)) (hb hby at_257) rfl rfl ?_
            refine g_lstore X83 hx 260 #[.val (.int a), .val (.int b), .val (.int c), .val (.int d), .val (.int g), .val (.int f), .val (.ref b1), .val (.int (1 : Int32)), .val (.int (4 : Int32)), .val (.long (((10 : Int64) * (((10 : Int64) * (((10 : Int64) * ((0 : Int64) + (((nar .char z4) - (48 : Int32)).toInt64))) + (((nar .char z6) - (48 : Int32)).toInt64))) + (((nar .char z8) - (48 : Int32)).toInt64))) + (((nar .char z10) - (48 : Int32)).toInt64))), .second, .val (.int (1 : Int32)), .unset, .unset] (hb hby at_258) rfl rfl ?_
            refine g_iinc X83 hx 263 (5 : Int32) #[.val (.int a), .val (.int b), .val (.int c), .val (.int d), .val (.int g), .val (.int f), .val (.ref b1), .val (.int (1 : Int32)), .val (.int (5 : Int32)), .val (.long (((10 : Int64) * (((10 : Int64) * (((10 : Int64) * ((0 : Int64) + (((nar .char z4) - (48 : Int32)).toInt64))) + (((nar .char z6) - (48 : Int32)).toInt64))) + (((nar .char z8) - (48 : Int32)).toInt64))) + (((nar .char z10) - (48 : Int32)).toInt64))), .second, .val (.int (1 : Int32)), .unset, .unset] (hb hby at_260) rfl (by decide) rfl rfl ?_
            refine g_goto X83 hx 269 (hb hby at_263) (by decide) (by decide) ?_
            refine g_iload X83 hx 271 (hb hby at_269) rfl rfl ?_
            refine g_ifF X83 hx 274 (hb hby at_271) (by decide) rfl ?_
            refine g_iload X83 hx 276 (hb hby at_274) rfl rfl ?_
            refine g_iconst X83 hx 277 (5 : Int32) (hb hby at_276) (by decide) rfl ?_
            refine g_icT X83 hx 315 (hb hby at_277) (by decide) (by decide) (by decide) ?_
            refine g_iconst X83 hx 316 (0 : Int32) (hb hby at_315) (by decide) rfl ?_
            refine g_istore X83 hx 318 #[.val (.int a), .val (.int b), .val (.int c), .val (.int d), .val (.int g), .val (.int f), .val (.ref b1), .val (.int (1 : Int32)), .val (.int (5 : Int32)), .val (.long (((10 : Int64) * (((10 : Int64) * (((10 : Int64) * ((0 : Int64) + (((nar .char z4) - (48 : Int32)).toInt64))) + (((nar .char z6) - (48 : Int32)).toInt64))) + (((nar .char z8) - (48 : Int32)).toInt64))) + (((nar .char z10) - (48 : Int32)).toInt64))), .second, .val (.int (0 : Int32)), .unset, .unset] (hb hby at_316) rfl rfl ?_
            refine g_new X83 hx 321 hZ hown (own_w hw 10 rfl) (own_w hw 11 rfl) (own_w hw 12 rfl) e83 (hb hby at_318) (by decide) (by decide) rfl (fun T91 h91 b91 g91 X91 e91 E91 A91 D91 => ?_)
            have ne_b1_b91 : b1 ≠ b91 := Nat.ne_of_lt (Nat.lt_of_lt_of_le V_b1.lt (Nat.le_of_eq g91.symm))
            have V_b1 := V_b1.ext E91
            have G_b91 : n0 ≤ b91 := Nat.le_trans Z12 (Nat.le_of_eq g91.symm)
            have Z91 : n0 ≤ h91.size := Nat.le_trans Z12 E91.1
            have SZ_b91 : h0.size ≤ b91 := Nat.le_trans K12.1 (Nat.le_of_eq g91.symm)
            have K91 := K12.ext E91
            have E_b91 : Exa Z h91 b91 "gleanwell/Grammar$NumberReading" := A91
            have F_b91_decimalSum : Fld Z h91 b91 "gleanwell/Grammar$NumberReading" "decimalSum" "J" (.long (0 : Int64)) := D91 (Or.inl (own_w hw 26 rfl)) (ty := .long) (by decide)
            have F_b91_integerRadix : Fld Z h91 b91 "gleanwell/Grammar$NumberReading" "integerRadix" "I" (.int (0 : Int32)) := D91 (Or.inl (own_w hw 36 rfl)) (ty := .int) (by decide)
            have F_b91_integerKind : Fld Z h91 b91 "gleanwell/Grammar$NumberReading" "integerKind" "I" (.int (0 : Int32)) := D91 (Or.inl (own_w hw 38 rfl)) (ty := .int) (by decide)
            have F_b91_value : Fld Z h91 b91 "gleanwell/Grammar$NumberReading" "value" "J" (.long (0 : Int64)) := D91 (Or.inl (own_w hw 40 rfl)) (ty := .long) (by decide)
            have F_b91_realRead : Fld Z h91 b91 "gleanwell/Grammar$NumberReading" "realRead" "Z" (.int (0 : Int32)) := D91 (Or.inl (own_w hw 42 rfl)) (ty := .boolean) (by decide)
            refine g_dup X91 hx 322 (hb hby at_321) rfl rfl ?_
            refine g_callI X91 hx 325 hZ rfl hown (own_w hw 13 rfl) (own_w hw 14 rfl) (own_w hw 12 rfl) (own_w hw 15 rfl) (by decide) b91 [] [(.ref b91)] (rm3 l Z a0 hw b91 h91 n0 Z91) e91 1 (by decide) (by decide) (by decide) (by decide) (by rw [hml]; rfl) (lenOf own_pd2 rfl) (hb hby at_322) rfl (Nat.le_of_eq rfl) rfl (fun v92 T92 L92 X92 hQ92 => ?_)
            obtain ⟨rfl, N92q, e92⟩ := hQ92
            have N92 := Fr.app N83 N92q
            show Go p e below _ _ T92 (mkF m 325 #[.val (.int a), .val (.int b), .val (.int c), .val (.int d), .val (.int g), .val (.int f), .val (.ref b1), .val (.int (1 : Int32)), .val (.int (5 : Int32)), .val (.long (((10 : Int64) * (((10 : Int64) * (((10 : Int64) * ((0 : Int64) + (((nar .char z4) - (48 : Int32)).toInt64))) + (((nar .char z6) - (48 : Int32)).toInt64))) + (((nar .char z8) - (48 : Int32)).toInt64))) + (((nar .char z10) - (48 : Int32)).toInt64))), .second, .val (.int (0 : Int32)), .unset, .unset] [(.ref b91)])
            refine g_astore X92 hx 327 #[.val (.int a), .val (.int b), .val (.int c), .val (.int d), .val (.int g), .val (.int f), .val (.ref b1), .val (.int (1 : Int32)), .val (.int (5 : Int32)), .val (.long (((10 : Int64) * (((10 : Int64) * (((10 : Int64) * ((0 : Int64) + (((nar .char z4) - (48 : Int32)).toInt64))) + (((nar .char z6) - (48 : Int32)).toInt64))) + (((nar .char z8) - (48 : Int32)).toInt64))) + (((nar .char z10) - (48 : Int32)).toInt64))), .second, .val (.int (0 : Int32)), .val (.ref b91), .unset] (hb hby at_325) rfl rfl rfl ?_
            refine g_aload X92 hx 329 (hb hby at_327) rfl rfl rfl ?_
            refine g_aload X92 hx 331 (hb hby at_329) rfl rfl rfl ?_
            refine g_iload X92 hx 333 (hb hby at_331) rfl rfl ?_
            refine g_callV X92 hx 336 hZ hown (own_w hw 19 rfl) (own_w hw 20 rfl) (own_w hw 22 rfl) (own_w hw 21 rfl) (own_w hw 12 rfl) (own_w hw 23 rfl) (by decide) b91 E_b91 [(.ref b1), (.int (1 : Int32))] [] (rm5_1_5 l Z a0 hw b91 b1 (nar .char z2) (nar .char z4) (nar .char z6) (nar .char z8) (nar .char z10) kl1 _ _ _ _ _ h91 n0 Z91 G_b91 E_b91 F_b91_decimalSum F_b91_integerRadix F_b91_integerKind F_b91_value F_b91_realRead V_b1 (Ne.symm ne_b1_b91) hc60 hc68 hc76 hc84) e92 0 (by decide) (by decide) (by decide) (by decide) (by rw [hml]; rfl) (lenOf own_pd3 rfl) (hb hby at_333) rfl (Nat.le_of_eq rfl) rfl (fun v93 T93 L93 X93 hQ93 => ?_)
            obtain ⟨rfl, N93q, K93, E93x, F93_decimalSum, F93_integerRadix, F93_integerKind, F93_value, F93_realRead⟩ := hQ93
            have N93 := Fr.app N92 N93q
            have V_b1 := V_b1.keep K93 (ninS ne_b1_b91 nin0)
            have E_b91 := E_b91.keep K93
            have KK93 : Keep h0 T93.heap [] := K91.trans K93 (allS (Or.inr SZ_b91) all0)
            have Z93 := Nat.le_trans Z91 K93.1
            show Go p e below _ _ T93 (mkF m 336 #[.val (.int a), .val (.int b), .val (.int c), .val (.int d), .val (.int g), .val (.int f), .val (.ref b1), .val (.int (1 : Int32)), .val (.int (5 : Int32)), .val (.long (((10 : Int64) * (((10 : Int64) * (((10 : Int64) * ((0 : Int64) + (((nar .char z4) - (48 : Int32)).toInt64))) + (((nar .char z6) - (48 : Int32)).toInt64))) + (((nar .char z8) - (48 : Int32)).toInt64))) + (((nar .char z10) - (48 : Int32)).toInt64))), .second, .val (.int (0 : Int32)), .val (.ref b91), .unset] [(.int (5 : Int32))])
            refine g_istore X93 hx 338 #[.val (.int a), .val (.int b), .val (.int c), .val (.int d), .val (.int g), .val (.int f), .val (.ref b1), .val (.int (1 : Int32)), .val (.int (5 : Int32)), .val (.long (((10 : Int64) * (((10 : Int64) * (((10 : Int64) * ((0 : Int64) + (((nar .char z4) - (48 : Int32)).toInt64))) + (((nar .char z6) - (48 : Int32)).toInt64))) + (((nar .char z8) - (48 : Int32)).toInt64))) + (((nar .char z10) - (48 : Int32)).toInt64))), .second, .val (.int (0 : Int32)), .val (.ref b91), .val (.int (5 : Int32))] (hb hby at_336) rfl rfl ?_
            refine g_iload X93 hx 340 (hb hby at_338) rfl rfl ?_
            refine g_iload X93 hx 342 (hb hby at_340) rfl rfl ?_
            refine g_icT X93 hx 347 (hb hby at_342) (by decide) (by decide) (by decide) ?_
            refine g_aload X93 hx 349 (hb hby at_347) rfl rfl rfl ?_
            refine g_iconst X93 hx 350 (0 : Int32) (hb hby at_349) (by decide) rfl ?_
            refine g_iload X93 hx 352 (hb hby at_350) rfl rfl ?_
            refine g_iload X93 hx 354 (hb hby at_352) rfl rfl ?_
            refine g_isub X93 hx 355 (4 : Int32) (hb hby at_354) (by decide) rfl ?_
            refine g_callV X93 hx 358 hZ hown (own_w hw 27 rfl) (own_w hw 28 rfl) (own_w hw 30 rfl) (own_w hw 29 rfl) (own_w hw 12 rfl) (own_w hw 31 rfl) (by decide) b91 E_b91 [(.int (0 : Int32)), (.int (4 : Int32))] [] (rm6 l Z a0 hw b91 (4 : Int32) sd ((10 : Int64) * ((10 : Int64) * ((10 : Int64) * ((0 : Int64) - ((nar .char z4) - (48 : Int32)).toInt64) - ((nar .char z6) - (48 : Int32)).toInt64) - ((nar .char z8) - (48 : Int32)).toInt64) - ((nar .char z10) - (48 : Int32)).toInt64) _ _ _ _ T93.heap n0 Z93 G_b91 (own_sta_keep S_sd KK93) E_b91 F93_decimalSum F93_integerRadix F93_integerKind F93_value F93_realRead) rfl 0 (by decide) (by decide) (by decide) (by decide) (by rw [hml]; rfl) (lenOf own_pd4 rfl) (hb hby at_355) rfl (Nat.le_of_eq rfl) rfl (fun v94 T94 L94 X94 hQ94 => ?_)
            obtain ⟨rfl, N94q, K94, E94x, F94_value⟩ := hQ94
            have N94 := Fr.app N93 N94q
            have V_b1 := V_b1.keep K94 (ninS ne_b1_b91 nin0)
            have E_b91 := E_b91.keep K94
            have KK94 : Keep h0 T94.heap [] := KK93.trans K94 (allS (Or.inr SZ_b91) all0)
            have Z94 := Nat.le_trans Z93 K94.1
            show Go p e below _ _ T94 (mkF m 358 #[.val (.int a), .val (.int b), .val (.int c), .val (.int d), .val (.int g), .val (.int f), .val (.ref b1), .val (.int (1 : Int32)), .val (.int (5 : Int32)), .val (.long (((10 : Int64) * (((10 : Int64) * (((10 : Int64) * ((0 : Int64) + (((nar .char z4) - (48 : Int32)).toInt64))) + (((nar .char z6) - (48 : Int32)).toInt64))) + (((nar .char z8) - (48 : Int32)).toInt64))) + (((nar .char z10) - (48 : Int32)).toInt64))), .second, .val (.int (0 : Int32)), .val (.ref b91), .val (.int (5 : Int32))] [])
            refine g_aload X94 hx 360 (hb hby at_358) rfl rfl rfl ?_
            refine g_callV X94 hx 363 hZ hown (own_w hw 43 rfl) (own_w hw 44 rfl) (own_w hw 46 rfl) (own_w hw 45 rfl) (own_w hw 12 rfl) (own_w hw 47 rfl) (by decide) b91 E_b91 [] [] (rm7 l Z a0 hw b91 (-((10 : Int64) * ((10 : Int64) * ((10 : Int64) * ((0 : Int64) - ((nar .char z4) - (48 : Int32)).toInt64) - ((nar .char z6) - (48 : Int32)).toInt64) - ((nar .char z8) - (48 : Int32)).toInt64) - ((nar .char z10) - (48 : Int32)).toInt64)) T94.heap n0 Z94 F94_value) rfl 0 (by decide) (by decide) (by decide) (by decide) (by rw [hml]; rfl) (lenOf own_pd5 rfl) (hb hby at_360) rfl (Nat.le_of_eq rfl) rfl (fun v95 T95 L95 X95 hQ95 => ?_)
            obtain ⟨rfl, N95q, e95⟩ := hQ95
            have N95 := Fr.app N94 N95q
            show Go p e below _ _ T95 (mkF m 363 #[.val (.int a), .val (.int b), .val (.int c), .val (.int d), .val (.int g), .val (.int f), .val (.ref b1), .val (.int (1 : Int32)), .val (.int (5 : Int32)), .val (.long (((10 : Int64) * (((10 : Int64) * (((10 : Int64) * ((0 : Int64) + (((nar .char z4) - (48 : Int32)).toInt64))) + (((nar .char z6) - (48 : Int32)).toInt64))) + (((nar .char z8) - (48 : Int32)).toInt64))) + (((nar .char z10) - (48 : Int32)).toInt64))), .second, .val (.int (0 : Int32)), .val (.ref b91), .val (.int (5 : Int32))] [(.long (-((10 : Int64) * ((10 : Int64) * ((10 : Int64) * ((0 : Int64) - ((nar .char z4) - (48 : Int32)).toInt64) - ((nar .char z6) - (48 : Int32)).toInt64) - ((nar .char z8) - (48 : Int32)).toInt64) - ((nar .char z10) - (48 : Int32)).toInt64)))])
            refine g_lload X95 hx 365 (hb hby at_363) rfl rfl ?_
            refine g_lcmp X95 hx 366 (hb hby at_365) rfl ?_
            have hk96 : (-((10 : Int64) * ((10 : Int64) * ((10 : Int64) * ((0 : Int64) - ((nar .char z4) - (48 : Int32)).toInt64) - ((nar .char z6) - (48 : Int32)).toInt64) - ((nar .char z8) - (48 : Int32)).toInt64) - ((nar .char z10) - (48 : Int32)).toInt64)) = (((10 : Int64) * (((10 : Int64) * (((10 : Int64) * ((0 : Int64) + (((nar .char z4) - (48 : Int32)).toInt64))) + (((nar .char z6) - (48 : Int32)).toInt64))) + (((nar .char z8) - (48 : Int32)).toInt64))) + (((nar .char z10) - (48 : Int32)).toInt64)) := by grind
            refine g_ifF X95 hx 369 (hb hby at_366) (own_eqL hk96).2 rfl ?_
            refine g_iconst X95 hx 370 (1 : Int32) (hb hby at_369) (by decide) rfl ?_
            refine g_goto X95 hx 374 (hb hby at_370) (by decide) (by decide) ?_
            exact g_retZ X95 hx hret hlk rfl (hb hby at_374) (by decide) (by decide) ⟨rfl, N95⟩
  · refine g_istore X12 hx 63 #[.val (.int a), .val (.int b), .val (.int c), .val (.int d), .val (.int g), .val (.int f), .val (.ref b1), .val (.int (2 : Int32)), .unset, .unset, .unset, .unset, .unset, .unset] (hb hby at_61) rfl rfl ?_
    refine g_iload X12 hx 65 (hb hby at_63) rfl rfl ?_
    refine g_istore X12 hx 67 #[.val (.int a), .val (.int b), .val (.int c), .val (.int d), .val (.int g), .val (.int f), .val (.ref b1), .val (.int (2 : Int32)), .val (.int (2 : Int32)), .unset, .unset, .unset, .unset, .unset] (hb hby at_65) rfl rfl ?_
    refine g_lconst X12 hx 68 (0 : Int64) (hb hby at_67) (by decide) rfl ?_
    refine g_lstore X12 hx 70 #[.val (.int a), .val (.int b), .val (.int c), .val (.int d), .val (.int g), .val (.int f), .val (.ref b1), .val (.int (2 : Int32)), .val (.int (2 : Int32)), .val (.long (0 : Int64)), .second, .unset, .unset, .unset] (hb hby at_68) rfl rfl ?_
    refine g_iconst X12 hx 71 (1 : Int32) (hb hby at_70) (by decide) rfl ?_
    refine g_istore X12 hx 73 #[.val (.int a), .val (.int b), .val (.int c), .val (.int d), .val (.int g), .val (.int f), .val (.ref b1), .val (.int (2 : Int32)), .val (.int (2 : Int32)), .val (.long (0 : Int64)), .second, .val (.int (1 : Int32)), .unset, .unset] (hb hby at_71) rfl rfl ?_
    refine g_iload X12 hx 75 (hb hby at_73) rfl rfl ?_
    refine g_ifF X12 hx 78 (hb hby at_75) (by decide) rfl ?_
    refine g_iload X12 hx 80 (hb hby at_78) rfl rfl ?_
    refine g_iconst X12 hx 81 (5 : Int32) (hb hby at_80) (by decide) rfl ?_
    refine g_icF X12 hx 84 (hb hby at_81) (by decide) rfl ?_
    refine g_aload X12 hx 86 (hb hby at_84) rfl rfl rfl ?_
    refine g_iload X12 hx 88 (hb hby at_86) rfl rfl ?_
    refine g_caload X12 hx 89 hZ e12 V_b1 ⟨by decide, by decide⟩ (show _ = (.int (nar .char z6)) from rfl) (hb hby at_88) rfl ?_
    refine g_callS X12 hx 92 hZ hown (own_w hw 6 rfl) (own_w hw 7 rfl) (own_w hw 3 rfl) (own_w hw 8 rfl) (by decide) [(.int (nar .char z6))] [] (rm2 l Z a0 hw (nar .char z6) h12 n0 Z12) e12 0 (by decide) (by decide) (by decide) (by decide) (by rw [hml]; rfl) (lenOf own_pd1 rfl) (hb hby at_89) rfl (Nat.le_of_eq rfl) rfl (fun v97 T97 L97 X97 hQ97 => ?_)
    obtain ⟨rfl, N97q, e97⟩ := hQ97
    have N97 := Fr.app N12 N97q
    show Go p e below _ _ T97 (mkF m 92 #[.val (.int a), .val (.int b), .val (.int c), .val (.int d), .val (.int g), .val (.int f), .val (.ref b1), .val (.int (2 : Int32)), .val (.int (2 : Int32)), .val (.long (0 : Int64)), .second, .val (.int (1 : Int32)), .unset, .unset] [(.int (own_dig (nar .char z6)))])
    by_cases hc98 : (own_dig (nar .char z6)) = (0 : Int32)
    · refine g_ifT X97 hx 119 (hb hby at_92) ((if0 _ _).trans (teq hc98).1) (by decide) (by decide) ?_
      refine g_iconst X97 hx 120 (0 : Int32) (hb hby at_119) (by decide) rfl ?_
      refine g_istore X97 hx 122 #[.val (.int a), .val (.int b), .val (.int c), .val (.int d), .val (.int g), .val (.int f), .val (.ref b1), .val (.int (2 : Int32)), .val (.int (2 : Int32)), .val (.long (0 : Int64)), .second, .val (.int (0 : Int32)), .unset, .unset] (hb hby at_120) rfl rfl ?_
      refine g_iload X97 hx 124 (hb hby at_122) rfl rfl ?_
      refine g_ifT X97 hx 168 (hb hby at_124) (by decide) (by decide) (by decide) ?_
      refine g_iconst X97 hx 169 (0 : Int32) (hb hby at_168) (by decide) rfl ?_
      refine g_istore X97 hx 171 #[.val (.int a), .val (.int b), .val (.int c), .val (.int d), .val (.int g), .val (.int f), .val (.ref b1), .val (.int (2 : Int32)), .val (.int (2 : Int32)), .val (.long (0 : Int64)), .second, .val (.int (0 : Int32)), .unset, .unset] (hb hby at_169) rfl rfl ?_
      refine g_iload X97 hx 173 (hb hby at_171) rfl rfl ?_
      refine g_ifT X97 hx 217 (hb hby at_173) (by decide) (by decide) (by decide) ?_
      refine g_iconst X97 hx 218 (0 : Int32) (hb hby at_217) (by decide) rfl ?_
      refine g_istore X97 hx 220 #[.val (.int a), .val (.int b), .val (.int c), .val (.int d), .val (.int g), .val (.int f), .val (.ref b1), .val (.int (2 : Int32)), .val (.int (2 : Int32)), .val (.long (0 : Int64)), .second, .val (.int (0 : Int32)), .unset, .unset] (hb hby at_218) rfl rfl ?_
      refine g_iload X97 hx 222 (hb hby at_220) rfl rfl ?_
      refine g_ifT X97 hx 266 (hb hby at_222) (by decide) (by decide) (by decide) ?_
      refine g_iconst X97 hx 267 (0 : Int32) (hb hby at_266) (by decide) rfl ?_
      refine g_istore X97 hx 269 #[.val (.int a), .val (.int b), .val (.int c), .val (.int d), .val (.int g), .val (.int f), .val (.ref b1), .val (.int (2 : Int32)), .val (.int (2 : Int32)), .val (.long (0 : Int64)), .second, .val (.int (0 : Int32)), .unset, .unset] (hb hby at_267) rfl rfl ?_
      refine g_iload X97 hx 271 (hb hby at_269) rfl rfl ?_
      refine g_ifT X97 hx 315 (hb hby at_271) (by decide) (by decide) (by decide) ?_
      refine g_iconst X97 hx 316 (0 : Int32) (hb hby at_315) (by decide) rfl ?_
      refine g_istore X97 hx 318 #[.val (.int a), .val (.int b), .val (.int c), .val (.int d), .val (.int g), .val (.int f), .val (.ref b1), .val (.int (2 : Int32)), .val (.int (2 : Int32)), .val (.long (0 : Int64)), .second, .val (.int (0 : Int32)), .unset, .unset] (hb hby at_316) rfl rfl ?_
      refine g_new X97 hx 321 hZ hown (own_w hw 10 rfl) (own_w hw 11 rfl) (own_w hw 12 rfl) e97 (hb hby at_318) (by decide) (by decide) rfl (fun T99 h99 b99 g99 X99 e99 E99 A99 D99 => ?_)
      have ne_b1_b99 : b1 ≠ b99 := Nat.ne_of_lt (Nat.lt_of_lt_of_le V_b1.lt (Nat.le_of_eq g99.symm))
      have V_b1 := V_b1.ext E99
      have G_b99 : n0 ≤ b99 := Nat.le_trans Z12 (Nat.le_of_eq g99.symm)
      have Z99 : n0 ≤ h99.size := Nat.le_trans Z12 E99.1
      have SZ_b99 : h0.size ≤ b99 := Nat.le_trans K12.1 (Nat.le_of_eq g99.symm)
      have K99 := K12.ext E99
      have E_b99 : Exa Z h99 b99 "gleanwell/Grammar$NumberReading" := A99
      have F_b99_decimalSum : Fld Z h99 b99 "gleanwell/Grammar$NumberReading" "decimalSum" "J" (.long (0 : Int64)) := D99 (Or.inl (own_w hw 26 rfl)) (ty := .long) (by decide)
      have F_b99_integerRadix : Fld Z h99 b99 "gleanwell/Grammar$NumberReading" "integerRadix" "I" (.int (0 : Int32)) := D99 (Or.inl (own_w hw 36 rfl)) (ty := .int) (by decide)
      have F_b99_integerKind : Fld Z h99 b99 "gleanwell/Grammar$NumberReading" "integerKind" "I" (.int (0 : Int32)) := D99 (Or.inl (own_w hw 38 rfl)) (ty := .int) (by decide)
      have F_b99_value : Fld Z h99 b99 "gleanwell/Grammar$NumberReading" "value" "J" (.long (0 : Int64)) := D99 (Or.inl (own_w hw 40 rfl)) (ty := .long) (by decide)
      have F_b99_realRead : Fld Z h99 b99 "gleanwell/Grammar$NumberReading" "realRead" "Z" (.int (0 : Int32)) := D99 (Or.inl (own_w hw 42 rfl)) (ty := .boolean) (by decide)
      refine g_dup X99 hx 322 (hb hby at_321) rfl rfl ?_
      refine g_callI X99 hx 325 hZ rfl hown (own_w hw 13 rfl) (own_w hw 14 rfl) (own_w hw 12 rfl) (own_w hw 15 rfl) (by decide) b99 [] [(.ref b99)] (rm3 l Z a0 hw b99 h99 n0 Z99) e99 1 (by decide) (by decide) (by decide) (by decide) (by rw [hml]; rfl) (lenOf own_pd2 rfl) (hb hby at_322) rfl (Nat.le_of_eq rfl) rfl (fun v100 T100 L100 X100 hQ100 => ?_)
      obtain ⟨rfl, N100q, e100⟩ := hQ100
      have N100 := Fr.app N97 N100q
      show Go p e below _ _ T100 (mkF m 325 #[.val (.int a), .val (.int b), .val (.int c), .val (.int d), .val (.int g), .val (.int f), .val (.ref b1), .val (.int (2 : Int32)), .val (.int (2 : Int32)), .val (.long (0 : Int64)), .second, .val (.int (0 : Int32)), .unset, .unset] [(.ref b99)])
      refine g_astore X100 hx 327 #[.val (.int a), .val (.int b), .val (.int c), .val (.int d), .val (.int g), .val (.int f), .val (.ref b1), .val (.int (2 : Int32)), .val (.int (2 : Int32)), .val (.long (0 : Int64)), .second, .val (.int (0 : Int32)), .val (.ref b99), .unset] (hb hby at_325) rfl rfl rfl ?_
      refine g_aload X100 hx 329 (hb hby at_327) rfl rfl rfl ?_
      refine g_aload X100 hx 331 (hb hby at_329) rfl rfl rfl ?_
      refine g_iload X100 hx 333 (hb hby at_331) rfl rfl ?_
      refine g_callV X100 hx 336 hZ hown (own_w hw 19 rfl) (own_w hw 20 rfl) (own_w hw 22 rfl) (own_w hw 21 rfl) (own_w hw 12 rfl) (own_w hw 23 rfl) (by decide) b99 E_b99 [(.ref b1), (.int (2 : Int32))] [] (rm5_2_2 l Z a0 hw b99 b1 (nar .char z2) (nar .char z4) (nar .char z6) (nar .char z8) (nar .char z10) kl1 _ _ _ _ _ h99 n0 Z99 G_b99 E_b99 F_b99_decimalSum F_b99_integerRadix F_b99_integerKind F_b99_value F_b99_realRead V_b1 (Ne.symm ne_b1_b99) hc98) e100 0 (by decide) (by decide) (by decide) (by decide) (by rw [hml]; rfl) (lenOf own_pd3 rfl) (hb hby at_333) rfl (Nat.le_of_eq rfl) rfl (fun v101 T101 L101 X101 hQ101 => ?_)
      obtain ⟨rfl, N101q, K101, E101x, F101_decimalSum, F101_integerRadix, F101_integerKind, F101_value, F101_realRead⟩ := hQ101
      have N101 := Fr.app N100 N101q
      have V_b1 := V_b1.keep K101 (ninS ne_b1_b99 nin0)
      have E_b99 := E_b99.keep K101
      have KK101 : Keep h0 T101.heap [] := K99.trans K101 (allS (Or.inr SZ_b99) all0)
      have Z101 := Nat.le_trans Z99 K101.1
      show Go p e below _ _ T101 (mkF m 336 #[.val (.int a), .val (.int b), .val (.int c), .val (.int d), .val (.int g), .val (.int f), .val (.ref b1), .val (.int (2 : Int32)), .val (.int (2 : Int32)), .val (.long (0 : Int64)), .second, .val (.int (0 : Int32)), .val (.ref b99), .unset] [(.int (2 : Int32))])
      refine g_istore X101 hx 338 #[.val (.int a), .val (.int b), .val (.int c), .val (.int d), .val (.int g), .val (.int f), .val (.ref b1), .val (.int (2 : Int32)), .val (.int (2 : Int32)), .val (.long (0 : Int64)), .second, .val (.int (0 : Int32)), .val (.ref b99), .val (.int (2 : Int32))] (hb hby at_336) rfl rfl ?_
      refine g_iload X101 hx 340 (hb hby at_338) rfl rfl ?_
      refine g_iload X101 hx 342 (hb hby at_340) rfl rfl ?_
      refine g_icT X101 hx 347 (hb hby at_342) (by decide) (by decide) (by decide) ?_
      refine g_aload X101 hx 349 (hb hby at_347) rfl rfl rfl ?_
      refine g_iconst X101 hx 350 (0 : Int32) (hb hby at_349) (by decide) rfl ?_
      refine g_iload X101 hx 352 (hb hby at_350) rfl rfl ?_
      refine g_iload X101 hx 354 (hb hby at_352) rfl rfl ?_
      refine g_isub X101 hx 355 (0 : Int32) (hb hby at_354) (by decide) rfl ?_
      refine g_callV X101 hx 358 hZ hown (own_w hw 27 rfl) (own_w hw 28 rfl) (own_w hw 30 rfl) (own_w hw 29 rfl) (own_w hw 12 rfl) (own_w hw 31 rfl) (by decide) b99 E_b99 [(.int (0 : Int32)), (.int (0 : Int32))] [] (rm6 l Z a0 hw b99 (0 : Int32) sd (0 : Int64) _ _ _ _ T101.heap n0 Z101 G_b99 (own_sta_keep S_sd KK101) E_b99 F101_decimalSum F101_integerRadix F101_integerKind F101_value F101_realRead) rfl 0 (by decide) (by decide) (by decide) (by decide) (by rw [hml]; rfl) (lenOf own_pd4 rfl) (hb hby at_355) rfl (Nat.le_of_eq rfl) rfl (fun v102 T102 L102 X102 hQ102 => ?_)
      obtain ⟨rfl, N102q, K102, E102x, F102_value⟩ := hQ102
      have N102 := Fr.app N101 N102q
      have V_b1 := V_b1.keep K102 (ninS ne_b1_b99 nin0)
      have E_b99 := E_b99.keep K102
      have KK102 : Keep h0 T102.heap [] := KK101.trans K102 (allS (Or.inr SZ_b99) all0)
      have Z102 := Nat.le_trans Z101 K102.1
      show Go p e below _ _ T102 (mkF m 358 #[.val (.int a), .val (.int b), .val (.int c), .val (.int d), .val (.int g), .val (.int f), .val (.ref b1), .val (.int (2 : Int32)), .val (.int (2 : Int32)), .val (.long (0 : Int64)), .second, .val (.int (0 : Int32)), .val (.ref b99), .val (.int (2 : Int32))] [])
      refine g_aload X102 hx 360 (hb hby at_358) rfl rfl rfl ?_
      refine g_callV X102 hx 363 hZ hown (own_w hw 43 rfl) (own_w hw 44 rfl) (own_w hw 46 rfl) (own_w hw 45 rfl) (own_w hw 12 rfl) (own_w hw 47 rfl) (by decide) b99 E_b99 [] [] (rm7 l Z a0 hw b99 (-(0 : Int64)) T102.heap n0 Z102 F102_value) rfl 0 (by decide) (by decide) (by decide) (by decide) (by rw [hml]; rfl) (lenOf own_pd5 rfl) (hb hby at_360) rfl (Nat.le_of_eq rfl) rfl (fun v103 T103 L103 X103 hQ103 => ?_)
      obtain ⟨rfl, N103q, e103⟩ := hQ103
      have N103 := Fr.app N102 N103q
      show Go p e below _ _ T103 (mkF m 363 #[.val (.int a), .val (.int b), .val (.int c), .val (.int d), .val (.int g), .val (.int f), .val (.ref b1), .val (.int (2 : Int32)), .val (.int (2 : Int32)), .val (.long (0 : Int64)), .second, .val (.int (0 : Int32)), .val (.ref b99), .val (.int (2 : Int32))] [(.long (-(0 : Int64)))])
      refine g_lload X103 hx 365 (hb hby at_363) rfl rfl ?_
      refine g_lcmp X103 hx 366 (hb hby at_365) rfl ?_
      have hk104 : (-(0 : Int64)) = (0 : Int64) := by grind
      refine g_ifF X103 hx 369 (hb hby at_366) (own_eqL hk104).2 rfl ?_
      refine g_iconst X103 hx 370 (1 : Int32) (hb hby at_369) (by decide) rfl ?_
      refine g_goto X103 hx 374 (hb hby at_370) (by decide) (by decide) ?_
      exact g_retZ X103 hx hret hlk rfl (hb hby at_374) (by decide) (by decide) ⟨rfl, N103⟩
    · refine g_ifF X97 hx 95 (hb hby at_92) ((if0 _ _).trans (feq hc98).1) rfl ?_
      refine g_ldc2J X97 hx 98 hZ hown (own_w hw 9 rfl) (hb hby at_95) rfl ?_
      refine g_lload X97 hx 100 (hb hby at_98) rfl rfl ?_
      refine g_lmul X97 hx 101 (0 : Int64) (hb hby at_100) (by decide) rfl ?_
      refine g_aload X97 hx 103 (hb hby at_101) rfl rfl rfl ?_
      refine g_iload X97 hx 105 (hb hby at_103) rfl rfl ?_
      refine g_caload X97 hx 106 hZ e97 V_b1 ⟨by decide, by decide⟩ (show _ = (.int (nar .char z6)) from rfl) (hb hby at_105) rfl ?_
      refine g_bipush X97 hx 108 (48 : Int32) (hb hby at_106) (by decide) rfl ?_
      refine g_isub X97 hx 109 ((nar .char z6) - (48 : Int32)) (hb hby at_108) rfl rfl ?_
      refine g_i2l X97 hx 110 (((nar .char z6) - (48 : Int32)).toInt64) (hb hby at_109) rfl rfl ?_
      refine g_ladd X97 hx 111 ((0 : Int64) + (((nar .char z6) - (48 : Int32)).toInt64)) (hb hby at_110) rfl rfl ?_
      refine g_lstore X97 hx 113 #[.val (.int a), .val (.int b), .val (.int c), .val (.int d), .val (.int g), .val (.int f), .val (.ref b1), .val (.int (2 : Int32)), .val (.int (2 : Int32)), .val (.long ((0 : Int64) + (((nar .char z6) - (48 : Int32)).toInt64))), .second, .val (.int (1 : Int32)), .unset, .unset] (hb hby at_111) rfl rfl ?_
      refine g_iinc X97 hx 116 (3 : Int32) #[.val (.int a), .val (.int b), .val (.int c), .val (.int d), .val (.int g), .val (.int f), .val (.ref b1), .val (.int (2 : Int32)), .val (.int (3 : Int32)), .val (.long ((0 : Int64) + (((nar .char z6) - (48 : Int32)).toInt64))), .second, .val (.int (1 : Int32)), .unset, .unset] (hb hby at_113) rfl (by decide) rfl rfl ?_
      refine g_goto X97 hx 122 (hb hby at_116) (by decide) (by decide) ?_
      refine g_iload X97 hx 124 (hb hby at_122) rfl rfl ?_
      refine g_ifF X97 hx 127 (hb hby at_124) (by decide) rfl ?_
      refine g_iload X97 hx 129 (hb hby at_127) rfl rfl ?_
      refine g_iconst X97 hx 130 (5 : Int32) (hb hby at_129) (by decide) rfl ?_
      refine g_icF X97 hx 133 (hb hby at_130) (by decide) rfl ?_
      refine g_aload X97 hx 135 (hb hby at_133) rfl rfl rfl ?_
      refine g_iload X97 hx 137 (hb hby at_135) rfl rfl ?_
      refine g_caload X97 hx 138 hZ e97 V_b1 ⟨by decide, by decide⟩ (show _ = (.int (nar .char z8)) from rfl) (hb hby at_137) rfl ?_
      refine g_callS X97 hx 141 hZ hown (own_w hw 6 rfl) (own_w hw 7 rfl) (own_w hw 3 rfl) (own_w hw 8 rfl) (by decide) [(.int (nar .char z8))] [] (rm2 l Z a0 hw (nar .char z8) h12 n0 Z12) e97 0 (by decide) (by decide) (by decide) (by decide) (by rw [hml]; rfl) (lenOf own_pd1 rfl) (hb hby at_138) rfl (Nat.le_of_eq rfl) rfl (fun v105 T105 L105 X105 hQ105 => ?_)
      obtain ⟨rfl, N105q, e105⟩ := hQ105
      have N105 := Fr.app N97 N105q
      show Go p e below _ _ T105 (mkF m 141 #[.val (.int a), .val (.int b), .val (.int c), .val (.int d), .val (.int g), .val (.int f), .val (.ref b1), .val (.int (2 : Int32)), .val (.int (3 : Int32)), .val (.long ((0 : Int64) + (((nar .char z6) - (48 : Int32)).toInt64))), .second, .val (.int (1 : Int32)), .unset, .unset] [(.int (own_dig (nar .char z8)))])
      by_cases hc106 : (own_dig (nar .char z8)) = (0 : Int32)
      · refine g_ifT X105 hx 168 (hb hby at_141) ((if0 _ _).trans (teq hc106).1) (by decide) (by decide) ?_
        refine g_iconst X105 hx 169 (0 : Int32) (hb hby at_168) (by decide) rfl ?_
        refine g_istore X105 hx 171 #[.val (.int a), .val (.int b), .val (.int c), .val (.int d), .val (.int g), .val (.int f), .val (.ref b1), .val (.int (2 : Int32)), .val (.int (3 : Int32)), .val (.long ((0 : Int64) + (((nar .char z6) - (48 : Int32)).toInt64))), .second, .val (.int (0 : Int32)), .unset, .unset] (hb hby at_169) rfl rfl ?_
        refine g_iload X105 hx 173 (hb hby at_171) rfl rfl ?_
        refine g_ifT X105 hx 217 (hb hby at_173) (by decide) (by decide) (by decide) ?_
        refine g_iconst X105 hx 218 (0 : Int32) (hb hby at_217) (by decide) rfl ?_
        refine g_istore X105 hx 220 #[.val (.int a), .val (.int b), .val (.int c), .val (.int d), .val (.int g), .val (.int f), .val (.ref b1), .val (.int (2 : Int32)), .val (.int (3 : Int32)), .val (.long ((0 : Int64) + (((nar .char z6) - (48 : Int32)).toInt64))), .second, .val (.int (0 : Int32)), .unset, .unset] (hb hby at_218) rfl rfl ?_
        refine g_iload X105 hx 222 (hb hby at_220) rfl rfl ?_
        refine g_ifT X105 hx 266 (hb hby at_222) (by decide) (by decide) (by decide) ?_
        refine g_iconst X105 hx 267 (0 : Int32) (hb hby at_266) (by decide) rfl ?_
        refine g_istore X105 hx 269 #[.val (.int a), .val (.int b), .val (.int c), .val (.int d), .val (.int g), .val (.int f), .val (.ref b1), .val (.int (2 : Int32)), .val (.int (3 : Int32)), .val (.long ((0 : Int64) + (((nar .char z6) - (48 : Int32)).toInt64))), .second, .val (.int (0 : Int32)), .unset, .unset] (hb hby at_267) rfl rfl ?_
        refine g_iload X105 hx 271 (hb hby at_269) rfl rfl ?_
        refine g_ifT X105 hx 315 (hb hby at_271) (by decide) (by decide) (by decide) ?_
        refine g_iconst X105 hx 316 (0 : Int32) (hb hby at_315) (by decide) rfl ?_
        refine g_istore X105 hx 318 #[.val (.int a), .val (.int b), .val (.int c), .val (.int d), .val (.int g), .val (.int f), .val (.ref b1), .val (.int (2 : Int32)), .val (.int (3 : Int32)), .val (.long ((0 : Int64) + (((nar .char z6) - (48 : Int32)).toInt64))), .second, .val (.int (0 : Int32)), .unset, .unset] (hb hby at_316) rfl rfl ?_
        refine g_new X105 hx 321 hZ hown (own_w hw 10 rfl) (own_w hw 11 rfl) (own_w hw 12 rfl) e105 (hb hby at_318) (by decide) (by decide) rfl (fun T107 h107 b107 g107 X107 e107 E107 A107 D107 => ?_)
        have ne_b1_b107 : b1 ≠ b107 := Nat.ne_of_lt (Nat.lt_of_lt_of_le V_b1.lt (Nat.le_of_eq g107.symm))
        have V_b1 := V_b1.ext E107
        have G_b107 : n0 ≤ b107 := Nat.le_trans Z12 (Nat.le_of_eq g107.symm)
        have Z107 : n0 ≤ h107.size := Nat.le_trans Z12 E107.1
        have SZ_b107 : h0.size ≤ b107 := Nat.le_trans K12.1 (Nat.le_of_eq g107.symm)
        have K107 := K12.ext E107
        have E_b107 : Exa Z h107 b107 "gleanwell/Grammar$NumberReading" := A107
        have F_b107_decimalSum : Fld Z h107 b107 "gleanwell/Grammar$NumberReading" "decimalSum" "J" (.long (0 : Int64)) := D107 (Or.inl (own_w hw 26 rfl)) (ty := .long) (by decide)
        have F_b107_integerRadix : Fld Z h107 b107 "gleanwell/Grammar$NumberReading" "integerRadix" "I" (.int (0 : Int32)) := D107 (Or.inl (own_w hw 36 rfl)) (ty := .int) (by decide)
        have F_b107_integerKind : Fld Z h107 b107 "gleanwell/Grammar$NumberReading" "integerKind" "I" (.int (0 : Int32)) := D107 (Or.inl (own_w hw 38 rfl)) (ty := .int) (by decide)
        have F_b107_value : Fld Z h107 b107 "gleanwell/Grammar$NumberReading" "value" "J" (.long (0 : Int64)) := D107 (Or.inl (own_w hw 40 rfl)) (ty := .long) (by decide)
        have F_b107_realRead : Fld Z h107 b107 "gleanwell/Grammar$NumberReading" "realRead" "Z" (.int (0 : Int32)) := D107 (Or.inl (own_w hw 42 rfl)) (ty := .boolean) (by decide)
        refine g_dup X107 hx 322 (hb hby at_321) rfl rfl ?_
        refine g_callI X107 hx 325 hZ rfl hown (own_w hw 13 rfl) (own_w hw 14 rfl) (own_w hw 12 rfl) (own_w hw 15 rfl) (by decide) b107 [] [(.ref b107)] (rm3 l Z a0 hw b107 h107 n0 Z107) e107 1 (by decide) (by decide) (by decide) (by decide) (by rw [hml]; rfl) (lenOf own_pd2 rfl) (hb hby at_322) rfl (Nat.le_of_eq rfl) rfl (fun v108 T108 L108 X108 hQ108 => ?_)
        obtain ⟨rfl, N108q, e108⟩ := hQ108
        have N108 := Fr.app N105 N108q
        show Go p e below _ _ T108 (mkF m 325 #[.val (.int a), .val (.int b), .val (.int c), .val (.int d), .val (.int g), .val (.int f), .val (.ref b1), .val (.int (2 : Int32)), .val (.int (3 : Int32)), .val (.long ((0 : Int64) + (((nar .char z6) - (48 : Int32)).toInt64))), .second, .val (.int (0 : Int32)), .unset, .unset] [(.ref b107)])
        refine g_astore X108 hx 327 #[.val (.int a), .val (.int b), .val (.int c), .val (.int d), .val (.int g), .val (.int f), .val (.ref b1), .val (.int (2 : Int32)), .val (.int (3 : Int32)), .val (.long ((0 : Int64) + (((nar .char z6) - (48 : Int32)).toInt64))), .second, .val (.int (0 : Int32)), .val (.ref b107), .unset] (hb hby at_325) rfl rfl rfl ?_
        refine g_aload X108 hx 329 (hb hby at_327) rfl rfl rfl ?_
        refine g_aload X108 hx 331 (hb hby at_329) rfl rfl rfl ?_
        refine g_iload X108 hx 333 (hb hby at_331) rfl rfl ?_
        refine g_callV X108 hx 336 hZ hown (own_w hw 19 rfl) (own_w hw 20 rfl) (own_w hw 22 rfl) (own_w hw 21 rfl) (own_w hw 12 rfl) (own_w hw 23 rfl) (by decide) b107 E_b107 [(.ref b1), (.int (2 : Int32))] [] (rm5_2_3 l Z a0 hw b107 b1 (nar .char z2) (nar .char z4) (nar .char z6) (nar .char z8) (nar .char z10) kl1 _ _ _ _ _ h107 n0 Z107 G_b107 E_b107 F_b107_decimalSum F_b107_integerRadix F_b107_integerKind F_b107_value F_b107_realRead V_b1 (Ne.symm ne_b1_b107) hc98 hc106) e108 0 (by decide) (by decide) (by decide) (by decide) (by rw [hml]; rfl) (lenOf own_pd3 rfl) (hb hby at_333) rfl (Nat.le_of_eq rfl) rfl (fun v109 T109 L109 X109 hQ109 => ?_)
        obtain ⟨rfl, N109q, K109, E109x, F109_decimalSum, F109_integerRadix, F109_integerKind, F109_value, F109_realRead⟩ := hQ109
        have N109 := Fr.app N108 N109q
        have V_b1 := V_b1.keep K109 (ninS ne_b1_b107 nin0)
        have E_b107 := E_b107.keep K109
        have KK109 : Keep h0 T109.heap [] := K107.trans K109 (allS (Or.inr SZ_b107) all0)
        have Z109 := Nat.le_trans Z107 K109.1
        show Go p e below _ _ T109 (mkF m 336 #[.val (.int a), .val (.int b), .val (.int c), .val (.int d), .val (.int g), .val (.int f), .val (.ref b1), .val (.int (2 : Int32)), .val (.int (3 : Int32)), .val (.long ((0 : Int64) + (((nar .char z6) - (48 : Int32)).toInt64))), .second, .val (.int (0 : Int32)), .val (.ref b107), .unset] [(.int (3 : Int32))])
        refine g_istore X109 hx 338 #[.val (.int a), .val (.int b), .val (.int c), .val (.int d), .val (.int g), .val (.int f), .val (.ref b1), .val (.int (2 : Int32)), .val (.int (3 : Int32)), .val (.long ((0 : Int64) + (((nar .char z6) - (48 : Int32)).toInt64))), .second, .val (.int (0 : Int32)), .val (.ref b107), .val (.int (3 : Int32))] (hb hby at_336) rfl rfl ?_
        refine g_iload X109 hx 340 (hb hby at_338) rfl rfl ?_
        refine g_iload X109 hx 342 (hb hby at_340) rfl rfl ?_
        refine g_icT X109 hx 347 (hb hby at_342) (by decide) (by decide) (by decide) ?_
        refine g_aload X109 hx 349 (hb hby at_347) rfl rfl rfl ?_
        refine g_iconst X109 hx 350 (0 : Int32) (hb hby at_349) (by decide) rfl ?_
        refine g_iload X109 hx 352 (hb hby at_350) rfl rfl ?_
        refine g_iload X109 hx 354 (hb hby at_352) rfl rfl ?_
        refine g_isub X109 hx 355 (1 : Int32) (hb hby at_354) (by decide) rfl ?_
        refine g_callV X109 hx 358 hZ hown (own_w hw 27 rfl) (own_w hw 28 rfl) (own_w hw 30 rfl) (own_w hw 29 rfl) (own_w hw 12 rfl) (own_w hw 31 rfl) (by decide) b107 E_b107 [(.int (0 : Int32)), (.int (1 : Int32))] [] (rm6 l Z a0 hw b107 (1 : Int32) sd ((0 : Int64) - ((nar .char z6) - (48 : Int32)).toInt64) _ _ _ _ T109.heap n0 Z109 G_b107 (own_sta_keep S_sd KK109) E_b107 F109_decimalSum F109_integerRadix F109_integerKind F109_value F109_realRead) rfl 0 (by decide) (by decide) (by decide) (by decide) (by rw [hml]; rfl) (lenOf own_pd4 rfl) (hb hby at_355) rfl (Nat.le_of_eq rfl) rfl (fun v110 T110 L110 X110 hQ110 => ?_)
        obtain ⟨rfl, N110q, K110, E110x, F110_value⟩ := hQ110
        have N110 := Fr.app N109 N110q
        have V_b1 := V_b1.keep K110 (ninS ne_b1_b107 nin0)
        have E_b107 := E_b107.keep K110
        have KK110 : Keep h0 T110.heap [] := KK109.trans K110 (allS (Or.inr SZ_b107) all0)
        have Z110 := Nat.le_trans Z109 K110.1
        show Go p e below _ _ T110 (mkF m 358 #[.val (.int a), .val (.int b), .val (.int c), .val (.int d), .val (.int g), .val (.int f), .val (.ref b1), .val (.int (2 : Int32)), .val (.int (3 : Int32)), .val (.long ((0 : Int64) + (((nar .char z6) - (48 : Int32)).toInt64))), .second, .val (.int (0 : Int32)), .val (.ref b107), .val (.int (3 : Int32))] [])
        refine g_aload X110 hx 360 (hb hby at_358) rfl rfl rfl ?_
        refine g_callV X110 hx 363 hZ hown (own_w hw 43 rfl) (own_w hw 44 rfl) (own_w hw 46 rfl) (own_w hw 45 rfl) (own_w hw 12 rfl) (own_w hw 47 rfl) (by decide) b107 E_b107 [] [] (rm7 l Z a0 hw b107 (-((0 : Int64) - ((nar .char z6) - (48 : Int32)).toInt64)) T110.heap n0 Z110 F110_value) rfl 0 (by decide) (by decide) (by decide) (by decide) (by rw [hml]; rfl) (lenOf own_pd5 rfl) (hb hby at_360) rfl (Nat.le_of_eq rfl) rfl (fun v111 T111 L111 X111 hQ111 => ?_)
        obtain ⟨rfl, N111q, e111⟩ := hQ111
        have N111 := Fr.app N110 N111q
        show Go p e below _ _ T111 (mkF m 363 #[.val (.int a), .val (.int b), .val (.int c), .val (.int d), .val (.int g), .val (.int f), .val (.ref b1), .val (.int (2 : Int32)), .val (.int (3 : Int32)), .val (.long ((0 : Int64) + (((nar .char z6) - (48 : Int32)).toInt64))), .second, .val (.int (0 : Int32)), .val (.ref b107), .val (.int (3 : Int32))] [(.long (-((0 : Int64) - ((nar .char z6) - (48 : Int32)).toInt64)))])
        refine g_lload X111 hx 365 (hb hby at_363) rfl rfl ?_
        refine g_lcmp X111 hx 366 (hb hby at_365) rfl ?_
        have hk112 : (-((0 : Int64) - ((nar .char z6) - (48 : Int32)).toInt64)) = ((0 : Int64) + (((nar .char z6) - (48 : Int32)).toInt64)) := by grind
        refine g_ifF X111 hx 369 (hb hby at_366) (own_eqL hk112).2 rfl ?_
        refine g_iconst X111 hx 370 (1 : Int32) (hb hby at_369) (by decide) rfl ?_
        refine g_goto X111 hx 374 (hb hby at_370) (by decide) (by decide) ?_
        exact g_retZ X111 hx hret hlk rfl (hb hby at_374) (by decide) (by decide) ⟨rfl, N111⟩
      · refine g_ifF X105 hx 144 (hb hby at_141) ((if0 _ _).trans (feq hc106).1) rfl ?_
        refine g_ldc2J X105 hx 147 hZ hown (own_w hw 9 rfl) (hb hby at_144) rfl ?_
        refine g_lload X105 hx 149 (hb hby at_147) rfl rfl ?_
        refine g_lmul X105 hx 150 ((10 : Int64) * ((0 : Int64) + (((nar .char z6) - (48 : Int32)).toInt64))) (hb hby at_149) rfl rfl ?_
        refine g_aload X105 hx 152 (hb hby at_150) rfl rfl rfl ?_
        refine g_iload X105 hx 154 (hb hby at_152) rfl rfl ?_
        refine g_caload X105 hx 155 hZ e105 V_b1 ⟨by decide, by decide⟩ (show _ = (.int (nar .char z8)) from rfl) (hb hby at_154) rfl ?_
        refine g_bipush X105 hx 157 (48 : Int32) (hb hby at_155) (by decide) rfl ?_
        refine g_isub X105 hx 158 ((nar .char z8) - (48 : Int32)) (hb hby at_157) rfl rfl ?_
        refine g_i2l X105 hx 159 (((nar .char z8) - (48 : Int32)).toInt64) (hb hby at_158) rfl rfl ?_
        refine g_ladd X105 hx 160 (((10 : Int64) * ((0 : Int64) + (((nar .char z6) - (48 : Int32)).toInt64))) + (((nar .char z8) - (48 : Int32)).toInt64)) (hb hby at_159) rfl rfl ?_
        refine g_lstore X105 hx 162 #[.val (.int a), .val (.int b), .val (.int c), .val (.int d), .val (.int g), .val (.int f), .val (.ref b1), .val (.int (2 : Int32)), .val (.int (3 : Int32)), .val (.long (((10 : Int64) * ((0 : Int64) + (((nar .char z6) - (48 : Int32)).toInt64))) + (((nar .char z8) - (48 : Int32)).toInt64))), .second, .val (.int (1 : Int32)), .unset, .unset] (hb hby at_160) rfl rfl ?_
        refine g_iinc X105 hx 165 (4 : Int32) #[.val (.int a), .val (.int b), .val (.int c), .val (.int d), .val (.int g), .val (.int f), .val (.ref b1), .val (.int (2 : Int32)), .val (.int (4 : Int32)), .val (.long (((10 : Int64) * ((0 : Int64) + (((nar .char z6) - (48 : Int32)).toInt64))) + (((nar .char z8) - (48 : Int32)).toInt64))), .second, .val (.int (1 : Int32)), .unset, .unset] (hb hby at_162) rfl (by decide) rfl rfl ?_
        refine g_goto X105 hx 171 (hb hby at_165) (by decide) (by decide) ?_
        refine g_iload X105 hx 173 (hb hby at_171) rfl rfl ?_
        refine g_ifF X105 hx 176 (hb hby at_173) (by decide) rfl ?_
        refine g_iload X105 hx 178 (hb hby at_176) rfl rfl ?_
        refine g_iconst X105 hx 179 (5 : Int32) (hb hby at_178) (by decide) rfl ?_
        refine g_icF X105 hx 182 (hb hby at_179) (by decide) rfl ?_
        refine g_aload X105 hx 184 (hb hby at_182) rfl rfl rfl ?_
        refine g_iload X105 hx 186 (hb hby at_184) rfl rfl ?_
        refine g_caload X105 hx 187 hZ e105 V_b1 ⟨by decide, by decide⟩ (show _ = (.int (nar .char z10)) from rfl) (hb hby at_186) rfl ?_
        refine g_callS X105 hx 190 hZ hown (own_w hw 6 rfl) (own_w hw 7 rfl) (own_w hw 3 rfl) (own_w hw 8 rfl) (by decide) [(.int (nar .char z10))] [] (rm2 l Z a0 hw (nar .char z10) h12 n0 Z12) e105 0 (by decide) (by decide) (by decide) (by decide) (by rw [hml]; rfl) (lenOf own_pd1 rfl) (hb hby at_187) rfl (Nat.le_of_eq rfl) rfl (fun v113 T113 L113 X113 hQ113 => ?_)
        obtain ⟨rfl, N113q, e113⟩ := hQ113
        have N113 := Fr.app N105 N113q
        show Go p e below _ _ T113 (mkF m 190 #[.val (.int a), .val (.int b), .val (.int c), .val (.int d), .val (.int g), .val (.int f), .val (.ref b1), .val (.int (2 : Int32)), .val (.int (4 : Int32)), .val (.long (((10 : Int64) * ((0 : Int64) + (((nar .char z6) - (48 : Int32)).toInt64))) + (((nar .char z8) - (48 : Int32)).toInt64))), .second, .val (.int (1 : Int32)), .unset, .unset] [(.int (own_dig (nar .char z10)))])
        by_cases hc114 : (own_dig (nar .char z10)) = (0 : Int32)
        · refine g_ifT X113 hx 217 (hb hby at_190) ((if0 _ _).trans (teq hc114).1) (by decide) (by decide) ?_
          refine g_iconst X113 hx 218 (0 : Int32) (hb hby at_217) (by decide) rfl ?_
          refine g_istore X113 hx 220 #[.val (.int a), .val (.int b), .val (.int c), .val (.int d), .val (.int g), .val (.int f), .val (.ref b1), .val (.int (2 : Int32)), .val (.int (4 : Int32)), .val (.long (((10 : Int64) * ((0 : Int64) + (((nar .char z6) - (48 : Int32)).toInt64))) + (((nar .char z8) - (48 : Int32)).toInt64))), .second, .val (.int (0 : Int32)), .unset, .unset] (hb hby at_218) rfl rfl ?_
          refine g_iload X113 hx 222 (hb hby at_220) rfl rfl ?_
          refine g_ifT X113 hx 266 (hb hby at_222) (by decide) (by decide) (by decide) ?_
          refine g_iconst X113 hx 267 (0 : Int32) (hb hby at_266) (by decide) rfl ?_
          refine g_istore X113 hx 269 #[.val (.int a), .val (.int b), .val (.int c), .val (.int d), .val (.int g), .val (.int f), .val (.ref b1), .val (.int (2 : Int32)), .val (.int (4 : Int32)), .val (.long (((10 : Int64) * ((0 : Int64) + (((nar .char z6) - (48 : Int32)).toInt64))) + (((nar .char z8) - (48 : Int32)).toInt64))), .second, .val (.int (0 : Int32)), .unset, .unset] (hb hby at_267) rfl rfl ?_
          refine g_iload X113 hx 271 (hb hby at_269) rfl rfl ?_
          refine g_ifT X113 hx 315 (hb hby at_271) (by decide) (by decide) (by decide) ?_
          refine g_iconst X113 hx 316 (0 : Int32) (hb hby at_315) (by decide) rfl ?_
          refine g_istore X113 hx 318 #[.val (.int a), .val (.int b), .val (.int c), .val (.int d), .val (.int g), .val (.int f), .val (.ref b1), .val (.int (2 : Int32)), .val (.int (4 : Int32)), .val (.long (((10 : Int64) * ((0 : Int64) + (((nar .char z6) - (48 : Int32)).toInt64))) + (((nar .char z8) - (48 : Int32)).toInt64))), .second, .val (.int (0 : Int32)), .unset, .unset] (hb hby at_316) rfl rfl ?_
          refine g_new X113 hx 321 hZ hown (own_w hw 10 rfl) (own_w hw 11 rfl) (own_w hw 12 rfl) e113 (hb hby at_318) (by decide) (by decide) rfl (fun T115 h115 b115 g115 X115 e115 E115 A115 D115 => ?_)
          have ne_b1_b115 : b1 ≠ b115 := Nat.ne_of_lt (Nat.lt_of_lt_of_le V_b1.lt (Nat.le_of_eq g115.symm))
          have V_b1 := V_b1.ext E115
          have G_b115 : n0 ≤ b115 := Nat.le_trans Z12 (Nat.le_of_eq g115.symm)
          have Z115 : n0 ≤ h115.size := Nat.le_trans Z12 E115.1
          have SZ_b115 : h0.size ≤ b115 := Nat.le_trans K12.1 (Nat.le_of_eq g115.symm)
          have K115 := K12.ext E115
          have E_b115 : Exa Z h115 b115 "gleanwell/Grammar$NumberReading" := A115
          have F_b115_decimalSum : Fld Z h115 b115 "gleanwell/Grammar$NumberReading" "decimalSum" "J" (.long (0 : Int64)) := D115 (Or.inl (own_w hw 26 rfl)) (ty := .long) (by decide)
          have F_b115_integerRadix : Fld Z h115 b115 "gleanwell/Grammar$NumberReading" "integerRadix" "I" (.int (0 : Int32)) := D115 (Or.inl (own_w hw 36 rfl)) (ty := .int) (by decide)
          have F_b115_integerKind : Fld Z h115 b115 "gleanwell/Grammar$NumberReading" "integerKind" "I" (.int (0 : Int32)) := D115 (Or.inl (own_w hw 38 rfl)) (ty := .int) (by decide)
          have F_b115_value : Fld Z h115 b115 "gleanwell/Grammar$NumberReading" "value" "J" (.long (0 : Int64)) := D115 (Or.inl (own_w hw 40 rfl)) (ty := .long) (by decide)
          have F_b115_realRead : Fld Z h115 b115 "gleanwell/Grammar$NumberReading" "realRead" "Z" (.int (0 : Int32)) := D115 (Or.inl (own_w hw 42 rfl)) (ty := .boolean) (by decide)
          refine g_dup X115 hx 322 (hb hby at_321) rfl rfl ?_
          refine g_callI X115 hx 325 hZ rfl hown (own_w hw 13 rfl) (own_w hw 14 rfl) (own_w hw 12 rfl) (own_w hw 15 rfl) (by decide) b115 [] [(.ref b115)] (rm3 l Z a0 hw b115 h115 n0 Z115) e115 1 (by decide) (by decide) (by decide) (by decide) (by rw [hml]; rfl) (lenOf own_pd2 rfl) (hb hby at_322) rfl (Nat.le_of_eq rfl) rfl (fun v116 T116 L116 X116 hQ116 => ?_)
          obtain ⟨rfl, N116q, e116⟩ := hQ116
          have N116 := Fr.app N113 N116q
          show Go p e below _ _ T116 (mkF m 325 #[.val (.int a), .val (.int b), .val (.int c), .val (.int d), .val (.int g), .val (.int f), .val (.ref b1), .val (.int (2 : Int32)), .val (.int (4 : Int32)), .val (.long (((10 : Int64) * ((0 : Int64) + (((nar .char z6) - (48 : Int32)).toInt64))) + (((nar .char z8) - (48 : Int32)).toInt64))), .second, .val (.int (0 : Int32)), .unset, .unset] [(.ref b115)])
          refine g_astore X116 hx 327 #[.val (.int a), .val (.int b), .val (.int c), .val (.int d), .val (.int g), .val (.int f), .val (.ref b1), .val (.int (2 : Int32)), .val (.int (4 : Int32)), .val (.long (((10 : Int64) * ((0 : Int64) + (((nar .char z6) - (48 : Int32)).toInt64))) + (((nar .char z8) - (48 : Int32)).toInt64))), .second, .val (.int (0 : Int32)), .val (.ref b115), .unset] (hb hby at_325) rfl rfl rfl ?_
          refine g_aload X116 hx 329 (hb hby at_327) rfl rfl rfl ?_
          refine g_aload X116 hx 331 (hb hby at_329) rfl rfl rfl ?_
          refine g_iload X116 hx 333 (hb hby at_331) rfl rfl ?_
          refine g_callV X116 hx 336 hZ hown (own_w hw 19 rfl) (own_w hw 20 rfl) (own_w hw 22 rfl) (own_w hw 21 rfl) (own_w hw 12 rfl) (own_w hw 23 rfl) (by decide) b115 E_b115 [(.ref b1), (.int (2 : Int32))] [] (rm5_2_4 l Z a0 hw b115 b1 (nar .char z2) (nar .char z4) (nar .char z6) (nar .char z8) (nar .char z10) kl1 _ _ _ _ _ h115 n0 Z115 G_b115 E_b115 F_b115_decimalSum F_b115_integerRadix F_b115_integerKind F_b115_value F_b115_realRead V_b1 (Ne.symm ne_b1_b115) hc98 hc106 hc114) e116 0 (by decide) (by decide) (by decide) (by decide) (by rw [hml]; rfl) (lenOf own_pd3 rfl) (hb hby at_333) rfl (Nat.le_of_eq rfl) rfl (fun v117 T117 L117 X117 hQ117 => ?_)
          obtain ⟨rfl, N117q, K117, E117x, F117_decimalSum, F117_integerRadix, F117_integerKind, F117_value, F117_realRead⟩ := hQ117
          have N117 := Fr.app N116 N117q
          have V_b1 := V_b1.keep K117 (ninS ne_b1_b115 nin0)
          have E_b115 := E_b115.keep K117
          have KK117 : Keep h0 T117.heap [] := K115.trans K117 (allS (Or.inr SZ_b115) all0)
          have Z117 := Nat.le_trans Z115 K117.1
          show Go p e below _ _ T117 (mkF m 336 #[.val (.int a), .val (.int b), .val (.int c), .val (.int d), .val (.int g), .val (.int f), .val (.ref b1), .val (.int (2 : Int32)), .val (.int (4 : Int32)), .val (.long (((10 : Int64) * ((0 : Int64) + (((nar .char z6) - (48 : Int32)).toInt64))) + (((nar .char z8) - (48 : Int32)).toInt64))), .second, .val (.int (0 : Int32)), .val (.ref b115), .unset] [(.int (4 : Int32))])
          refine g_istore X117 hx 338 #[.val (.int a), .val (.int b), .val (.int c), .val (.int d), .val (.int g), .val (.int f), .val (.ref b1), .val (.int (2 : Int32)), .val (.int (4 : Int32)), .val (.long (((10 : Int64) * ((0 : Int64) + (((nar .char z6) - (48 : Int32)).toInt64))) + (((nar .char z8) - (48 : Int32)).toInt64))), .second, .val (.int (0 : Int32)), .val (.ref b115), .val (.int (4 : Int32))] (hb hby at_336) rfl rfl ?_
          refine g_iload X117 hx 340 (hb hby at_338) rfl rfl ?_
          refine g_iload X117 hx 342 (hb hby at_340) rfl rfl ?_
          refine g_icT X117 hx 347 (hb hby at_342) (by decide) (by decide) (by decide) ?_
          refine g_aload X117 hx 349 (hb hby at_347) rfl rfl rfl ?_
          refine g_iconst X117 hx 350 (0 : Int32) (hb hby at_349) (by decide) rfl ?_
          refine g_iload X117 hx 352 (hb hby at_350) rfl rfl ?_
          refine g_iload X117 hx 354 (hb hby at_352) rfl rfl ?_
          refine g_isub X117 hx 355 (2 : Int32) (hb hby at_354) (by decide) rfl ?_
          refine g_callV X117 hx 358 hZ hown (own_w hw 27 rfl) (own_w hw 28 rfl) (own_w hw 30 rfl) (own_w hw 29 rfl) (own_w hw 12 rfl) (own_w hw 31 rfl) (by decide) b115 E_b115 [(.int (0 : Int32)), (.int (2 : Int32))] [] (rm6 l Z a0 hw b115 (2 : Int32) sd ((10 : Int64) * ((0 : Int64) - ((nar .char z6) - (48 : Int32)).toInt64) - ((nar .char z8) - (48 : Int32)).toInt64) _ _ _ _ T117.heap n0 Z117 G_b115 (own_sta_keep S_sd KK117) E_b115 F117_decimalSum F117_integerRadix F117_integerKind F117_value F117_realRead) rfl 0 (by decide) (by decide) (by decide) (by decide) (by rw [hml]; rfl) (lenOf own_pd4 rfl) (hb hby at_355) rfl (Nat.le_of_eq rfl) rfl (fun v118 T118 L118 X118 hQ118 => ?_)
          obtain ⟨rfl, N118q, K118, E118x, F118_value⟩ := hQ118
          have N118 := Fr.app N117 N118q
          have V_b1 := V_b1.keep K118 (ninS ne_b1_b115 nin0)
          have E_b115 := E_b115.keep K118
          have KK118 : Keep h0 T118.heap [] := KK117.trans K118 (allS (Or.inr SZ_b115) all0)
          have Z118 := Nat.le_trans Z117 K118.1
          show Go p e below _ _ T118 (mkF m 358 #[.val (.int a), .val (.int b), .val (.int c), .val (.int d), .val (.int g), .val (.int f), .val (.ref b1), .val (.int (2 : Int32)), .val (.int (4 : Int32)), .val (.long (((10 : Int64) * ((0 : Int64) + (((nar .char z6) - (48 : Int32)).toInt64))) + (((nar .char z8) - (48 : Int32)).toInt64))), .second, .val (.int (0 : Int32)), .val (.ref b115), .val (.int (4 : Int32))] [])
          refine g_aload X118 hx 360 (hb hby at_358) rfl rfl rfl ?_
          refine g_callV X118 hx 363 hZ hown (own_w hw 43 rfl) (own_w hw 44 rfl) (own_w hw 46 rfl) (own_w hw 45 rfl) (own_w hw 12 rfl) (own_w hw 47 rfl) (by decide) b115 E_b115 [] [] (rm7 l Z a0 hw b115 (-((10 : Int64) * ((0 : Int64) - ((nar .char z6) - (48 : Int32)).toInt64) - ((nar .char z8) - (48 : Int32)).toInt64)) T118.heap n0 Z118 F118_value) rfl 0 (by decide) (by decide) (by decide) (by decide) (by rw [hml]; rfl) (lenOf own_pd5 rfl) (hb hby at_360) rfl (Nat.le_of_eq rfl) rfl (fun v119 T119 L119 X119 hQ119 => ?_)
          obtain ⟨rfl, N119q, e119⟩ := hQ119
          have N119 := Fr.app N118 N119q
          show Go p e below _ _ T119 (mkF m 363 #[.val (.int a), .val (.int b), .val (.int c), .val (.int d), .val (.int g), .val (.int f), .val (.ref b1), .val (.int (2 : Int32)), .val (.int (4 : Int32)), .val (.long (((10 : Int64) * ((0 : Int64) + (((nar .char z6) - (48 : Int32)).toInt64))) + (((nar .char z8) - (48 : Int32)).toInt64))), .second, .val (.int (0 : Int32)), .val (.ref b115), .val (.int (4 : Int32))] [(.long (-((10 : Int64) * ((0 : Int64) - ((nar .char z6) - (48 : Int32)).toInt64) - ((nar .char z8) - (48 : Int32)).toInt64)))])
          refine g_lload X119 hx 365 (hb hby at_363) rfl rfl ?_
          refine g_lcmp X119 hx 366 (hb hby at_365) rfl ?_
          have hk120 : (-((10 : Int64) * ((0 : Int64) - ((nar .char z6) - (48 : Int32)).toInt64) - ((nar .char z8) - (48 : Int32)).toInt64)) = (((10 : Int64) * ((0 : Int64) + (((nar .char z6) - (48 : Int32)).toInt64))) + (((nar .char z8) - (48 : Int32)).toInt64)) := by grind
          refine g_ifF X119 hx 369 (hb hby at_366) (own_eqL hk120).2 rfl ?_
          refine g_iconst X119 hx 370 (1 : Int32) (hb hby at_369) (by decide) rfl ?_
          refine g_goto X119 hx 374 (hb hby at_370) (by decide) (by decide) ?_
          exact g_retZ X119 hx hret hlk rfl (hb hby at_374) (by decide) (by decide) ⟨rfl, N119⟩
        · refine g_ifF X113 hx 193 (hb hby at_190) ((if0 _ _).trans (feq hc114).1) rfl ?_
          refine g_ldc2J X113 hx 196 hZ hown (own_w hw 9 rfl) (hb hby at_193) rfl ?_
          refine g_lload X113 hx 198 (hb hby at_196) rfl rfl ?_
          refine g_lmul X113 hx 199 ((10 : Int64) * (((10 : Int64) * ((0 : Int64) + (((nar .char z6) - (48 : Int32)).toInt64))) + (((nar .char z8) - (48 : Int32)).toInt64))) (hb hby at_198) rfl rfl ?_
          refine g_aload X113 hx 201 (hb hby at_199) rfl rfl rfl ?_
          refine g_iload X113 hx 203 (hb hby at_201) rfl rfl ?_
          refine g_caload X113 hx 204 hZ e113 V_b1 ⟨by decide, by decide⟩ (show _ = (.int (nar .char z10)) from rfl) (hb hby at_203) rfl ?_
          refine g_bipush X113 hx 206 (48 : Int32) (hb hby at_204) (by decide) rfl ?_
          refine g_isub X113 hx 207 ((nar .char z10) - (48 : Int32)) (hb hby at_206) rfl rfl ?_
          refine g_i2l X113 hx 208 (((nar .char z10) - (48 : Int32)).toInt64) (hb hby at_207) rfl rfl ?_
          refine g_ladd X113 hx 209 (((10 : Int64) * (((10 : Int64) * ((0 : Int64) + (((nar .char z6) - (48 : Int32)).toInt64))) + (((nar .char z8) - (48 : Int32)).toInt64))) + (((nar .char z10) - (48 : Int32)).toInt64)) (hb hby at_208) rfl rfl ?_
          refine g_lstore X113 hx 211 #[.val (.int a), .val (.int b), .val (.int c), .val (.int d), .val (.int g), .val (.int f), .val (.ref b1), .val (.int (2 : Int32)), .val (.int (4 : Int32)), .val (.long (((10 : Int64) * (((10 : Int64) * ((0 : Int64) + (((nar .char z6) - (48 : Int32)).toInt64))) + (((nar .char z8) - (48 : Int32)).toInt64))) + (((nar .char z10) - (48 : Int32)).toInt64))), .second, .val (.int (1 : Int32)), .unset, .unset] (hb hby at_209) rfl rfl ?_
          refine g_iinc X113 hx 214 (5 : Int32) #[.val (.int a), .val (.int b), .val (.int c), .val (.int d), .val (.int g), .val (.int f), .val (.ref b1), .val (.int (2 : Int32)), .val (.int (5 : Int32)), .val (.long (((10 : Int64) * (((10 : Int64) * ((0 : Int64) + (((nar .char z6) - (48 : Int32)).toInt64))) + (((nar .char z8) - (48 : Int32)).toInt64))) + (((nar .char z10) - (48 : Int32)).toInt64))), .second, .val (.int (1 : Int32)), .unset, .unset] (hb hby at_211) rfl (by decide) rfl rfl ?_
          refine g_goto X113 hx 220 (hb hby at_214) (by decide) (by decide) ?_
          refine g_iload X113 hx 222 (hb hby at_220) rfl rfl ?_
          refine g_ifF X113 hx 225 (hb hby at_222) (by decide) rfl ?_
          refine g_iload X113 hx 227 (hb hby at_225) rfl rfl ?_
          refine g_iconst X113 hx 228 (5 : Int32) (hb hby at_227) (by decide) rfl ?_
          refine g_icT X113 hx 266 (hb hby at_228) (by decide) (by decide) (by decide) ?_
          refine g_iconst X113 hx 267 (0 : Int32) (hb hby at_266) (by decide) rfl ?_
          refine g_istore X113 hx 269 #[.val (.int a), .val (.int b), .val (.int c), .val (.int d), .val (.int g), .val (.int f), .val (.ref b1), .val (.int (2 : Int32)), .val (.int (5 : Int32)), .val (.long (((10 : Int64) * (((10 : Int64) * ((0 : Int64) + (((nar .char z6) - (48 : Int32)).toInt64))) + (((nar .char z8) - (48 : Int32)).toInt64))) + (((nar .char z10) - (48 : Int32)).toInt64))), .second, .val (.int (0 : Int32)), .unset, .unset] (hb hby at_267) rfl rfl ?_
          refine g_iload X113 hx 271 (hb hby at_269) rfl rfl ?_
          refine g_ifT X113 hx 315 (hb hby at_271) (by decide) (by decide) (by decide) ?_
          refine g_iconst X113 hx 316 (0 : Int32) (hb hby at_315) (by decide) rfl ?_
          refine g_istore X113 hx 318 #[.val (.int a), .val (.int b), .val (.int c), .val (.int d), .val (.int g), .val (.int f), .val (.ref b1), .val (.int (2 : Int32)), .val (.int (5 : Int32)), .val (.long (((10 : Int64) * (((10 : Int64) * ((0 : Int64) + (((nar .char z6) - (48 : Int32)).toInt64))) + (((nar .char z8) - (48 : Int32)).toInt64))) + (((nar .char z10) - (48 : Int32)).toInt64))), .second, .val (.int (0 : Int32)), .unset, .unset] (hb hby at_316) rfl rfl ?_
          refine g_new X113 hx 321 hZ hown (own_w hw 10 rfl) (own_w hw 11 rfl) (own_w hw 12 rfl) e113 (hb hby at_318) (by decide) (by decide) rfl (fun T121 h121 b121 g121 X121 e121 E121 A121 D121 => ?_)
          have ne_b1_b121 : b1 ≠ b121 := Nat.ne_of_lt (Nat.lt_of_lt_of_le V_b1.lt (Nat.le_of_eq g121.symm))
          have V_b1 := V_b1.ext E121
          have G_b121 : n0 ≤ b121 := Nat.le_trans Z12 (Nat.le_of_eq g121.symm)
          have Z121 : n0 ≤ h121.size := Nat.le_trans Z12 E121.1
          have SZ_b121 : h0.size ≤ b121 := Nat.le_trans K12.1 (Nat.le_of_eq g121.symm)
          have K121 := K12.ext E121
          have E_b121 : Exa Z h121 b121 "gleanwell/Grammar$NumberReading" := A121
          have F_b121_decimalSum : Fld Z h121 b121 "gleanwell/Grammar$NumberReading" "decimalSum" "J" (.long (0 : Int64)) := D121 (Or.inl (own_w hw 26 rfl)) (ty := .long) (by decide)
          have F_b121_integerRadix : Fld Z h121 b121 "gleanwell/Grammar$NumberReading" "integerRadix" "I" (.int (0 : Int32)) := D121 (Or.inl (own_w hw 36 rfl)) (ty := .int) (by decide)
          have F_b121_integerKind : Fld Z h121 b121 "gleanwell/Grammar$NumberReading" "integerKind" "I" (.int (0 : Int32)) := D121 (Or.inl (own_w hw 38 rfl)) (ty := .int) (by decide)
          have F_b121_value : Fld Z h121 b121 "gleanwell/Grammar$NumberReading" "value" "J" (.long (0 : Int64)) := D121 (Or.inl (own_w hw 40 rfl)) (ty := .long) (by decide)
          have F_b121_realRead : Fld Z h121 b121 "gleanwell/Grammar$NumberReading" "realRead" "Z" (.int (0 : Int32)) := D121 (Or.inl (own_w hw 42 rfl)) (ty := .boolean) (by decide)
          refine g_dup X121 hx 322 (hb hby at_321) rfl rfl ?_
          refine g_callI X121 hx 325 hZ rfl hown (own_w hw 13 rfl) (own_w hw 14 rfl) (own_w hw 12 rfl) (own_w hw 15 rfl) (by decide) b121 [] [(.ref b121)] (rm3 l Z a0 hw b121 h121 n0 Z121) e121 1 (by decide) (by decide) (by decide) (by decide) (by rw [hml]; rfl) (lenOf own_pd2 rfl) (hb hby at_322) rfl (Nat.le_of_eq rfl) rfl (fun v122 T122 L122 X122 hQ122 => ?_)
          obtain ⟨rfl, N122q, e122⟩ := hQ122
          have N122 := Fr.app N113 N122q
          show Go p e below _ _ T122 (mkF m 325 #[.val (.int a), .val (.int b), .val (.int c), .val (.int d), .val (.int g), .val (.int f), .val (.ref b1), .val (.int (2 : Int32)), .val (.int (5 : Int32)), .val (.long (((10 : Int64) * (((10 : Int64) * ((0 : Int64) + (((nar .char z6) - (48 : Int32)).toInt64))) + (((nar .char z8) - (48 : Int32)).toInt64))) + (((nar .char z10) - (48 : Int32)).toInt64))), .second, .val (.int (0 : Int32)), .unset, .unset] [(.ref b121)])
          refine g_astore X122 hx 327 #[.val (.int a), .val (.int b), .val (.int c), .val (.int d), .val (.int g), .val (.int f), .val (.ref b1), .val (.int (2 : Int32)), .val (.int (5 : Int32)), .val (.long (((10 : Int64) * (((10 : Int64) * ((0 : Int64) + (((nar .char z6) - (48 : Int32)).toInt64))) + (((nar .char z8) - (48 : Int32)).toInt64))) + (((nar .char z10) - (48 : Int32)).toInt64))), .second, .val (.int (0 : Int32)), .val (.ref b121), .unset] (hb hby at_325) rfl rfl rfl ?_
          refine g_aload X122 hx 329 (hb hby at_327) rfl rfl rfl ?_
          refine g_aload X122 hx 331 (hb hby at_329) rfl rfl rfl ?_
          refine g_iload X122 hx 333 (hb hby at_331) rfl rfl ?_
          refine g_callV X122 hx 336 hZ hown (own_w hw 19 rfl) (own_w hw 20 rfl) (own_w hw 22 rfl) (own_w hw 21 rfl) (own_w hw 12 rfl) (own_w hw 23 rfl) (by decide) b121 E_b121 [(.ref b1), (.int (2 : Int32))] [] (rm5_2_5 l Z a0 hw b121 b1 (nar .char z2) (nar .char z4) (nar .char z6) (nar .char z8) (nar .char z10) kl1 _ _ _ _ _ h121 n0 Z121 G_b121 E_b121 F_b121_decimalSum F_b121_integerRadix F_b121_integerKind F_b121_value F_b121_realRead V_b1 (Ne.symm ne_b1_b121) hc98 hc106 hc114) e122 0 (by decide) (by decide) (by decide) (by decide) (by rw [hml]; rfl) (lenOf own_pd3 rfl) (hb hby at_333) rfl (Nat.le_of_eq rfl) rfl (fun v123 T123 L123 X123 hQ123 => ?_)
          obtain ⟨rfl, N123q, K123, E123x, F123_decimalSum, F123_integerRadix, F123_integerKind, F123_value, F123_realRead⟩ := hQ123
          have N123 := Fr.app N122 N123q
          have V_b1 := V_b1.keep K123 (ninS ne_b1_b121 nin0)
          have E_b121 := E_b121.keep K123
          have KK123 : Keep h0 T123.heap [] := K121.trans K123 (allS (Or.inr SZ_b121) all0)
          have Z123 := Nat.le_trans Z121 K123.1
          show Go p e below _ _ T123 (mkF m 336 #[.val (.int a), .val (.int b), .val (.int c), .val (.int d), .val (.int g), .val (.int f), .val (.ref b1), .val (.int (2 : Int32)), .val (.int (5 : Int32)), .val (.long (((10 : Int64) * (((10 : Int64) * ((0 : Int64) + (((nar .char z6) - (48 : Int32)).toInt64))) + (((nar .char z8) - (48 : Int32)).toInt64))) + (((nar .char z10) - (48 : Int32)).toInt64))), .second, .val (.int (0 : Int32)), .val (.ref b121), .unset] [(.int (5 : Int32))])
          refine g_istore X123 hx 338 #[.val (.int a), .val (.int b), .val (.int c), .val (.int d), .val (.int g), .val (.int f), .val (.ref b1), .val (.int (2 : Int32)), .val (.int (5 : Int32)), .val (.long (((10 : Int64) * (((10 : Int64) * ((0 : Int64) + (((nar .char z6) - (48 : Int32)).toInt64))) + (((nar .char z8) - (48 : Int32)).toInt64))) + (((nar .char z10) - (48 : Int32)).toInt64))), .second, .val (.int (0 : Int32)), .val (.ref b121), .val (.int (5 : Int32))] (hb hby at_336) rfl rfl ?_
          refine g_iload X123 hx 340 (hb hby at_338) rfl rfl ?_
          refine g_iload X123 hx 342 (hb hby at_340) rfl rfl ?_
          refine g_icT X123 hx 347 (hb hby at_342) (by decide) (by decide) (by decide) ?_
          refine g_aload X123 hx 349 (hb hby at_347) rfl rfl rfl ?_
          refine g_iconst X123 hx 350 (0 : Int32) (hb hby at_349) (by decide) rfl ?_
          refine g_iload X123 hx 352 (hb hby at_350) rfl rfl ?_
          refine g_iload X123 hx 354 (hb hby at_352) rfl rfl ?_
          refine g_isub X123 hx 355 (3 : Int32) (hb hby at_354) (by decide) rfl ?_
          refine g_callV X123 hx 358 hZ hown (own_w hw 27 rfl) (own_w hw 28 rfl) (own_w hw 30 rfl) (own_w hw 29 rfl) (own_w hw 12 rfl) (own_w hw 31 rfl) (by decide) b121 E_b121 [(.int (0 : Int32)), (.int (3 : Int32))] [] (rm6 l Z a0 hw b121 (3 : Int32) sd ((10 : Int64) * ((10 : Int64) * ((0 : Int64) - ((nar .char z6) - (48 : Int32)).toInt64) - ((nar .char z8) - (48 : Int32)).toInt64) - ((nar .char z10) - (48 : Int32)).toInt64) _ _ _ _ T123.heap n0 Z123 G_b121 (own_sta_keep S_sd KK123) E_b121 F123_decimalSum F123_integerRadix F123_integerKind F123_value F123_realRead) rfl 0 (by decide) (by decide) (by decide) (by decide) (by rw [hml]; rfl) (lenOf own_pd4 rfl) (hb hby at_355) rfl (Nat.le_of_eq rfl) rfl (fun v124 T124 L124 X124 hQ124 => ?_)
          obtain ⟨rfl, N124q, K124, E124x, F124_value⟩ := hQ124
          have N124 := Fr.app N123 N124q
          have V_b1 := V_b1.keep K124 (ninS ne_b1_b121 nin0)
          have E_b121 := E_b121.keep K124
          have KK124 : Keep h0 T124.heap [] := KK123.trans K124 (allS (Or.inr SZ_b121) all0)
          have Z124 := Nat.le_trans Z123 K124.1
          show Go p e below _ _ T124 (mkF m 358 #[.val (.int a), .val (.int b), .val (.int c), .val (.int d), .val (.int g), .val (.int f), .val (.ref b1), .val (.int (2 : Int32)), .val (.int (5 : Int32)), .val (.long (((10 : Int64) * (((10 : Int64) * ((0 : Int64) + (((nar .char z6) - (48 : Int32)).toInt64))) + (((nar .char z8) - (48 : Int32)).toInt64))) + (((nar .char z10) - (48 : Int32)).toInt64))), .second, .val (.int (0 : Int32)), .val (.ref b121), .val (.int (5 : Int32))] [])
          refine g_aload X124 hx 360 (hb hby at_358) rfl rfl rfl ?_
          refine g_callV X124 hx 363 hZ hown (own_w hw 43 rfl) (own_w hw 44 rfl) (own_w hw 46 rfl) (own_w hw 45 rfl) (own_w hw 12 rfl) (own_w hw 47 rfl) (by decide) b121 E_b121 [] [] (rm7 l Z a0 hw b121 (-((10 : Int64) * ((10 : Int64) * ((0 : Int64) - ((nar .char z6) - (48 : Int32)).toInt64) - ((nar .char z8) - (48 : Int32)).toInt64) - ((nar .char z10) - (48 : Int32)).toInt64)) T124.heap n0 Z124 F124_value) rfl 0 (by decide) (by decide) (by decide) (by decide) (by rw [hml]; rfl) (lenOf own_pd5 rfl) (hb hby at_360) rfl (Nat.le_of_eq rfl) rfl (fun v125 T125 L125 X125 hQ125 => ?_)
          obtain ⟨rfl, N125q, e125⟩ := hQ125
          have N125 := Fr.app N124 N125q
          show Go p e below _ _ T125 (mkF m 363 #[.val (.int a), .val (.int b), .val (.int c), .val (.int d), .val (.int g), .val (.int f), .val (.ref b1), .val (.int (2 : Int32)), .val (.int (5 : Int32)), .val (.long (((10 : Int64) * (((10 : Int64) * ((0 : Int64) + (((nar .char z6) - (48 : Int32)).toInt64))) + (((nar .char z8) - (48 : Int32)).toInt64))) + (((nar .char z10) - (48 : Int32)).toInt64))), .second, .val (.int (0 : Int32)), .val (.ref b121), .val (.int (5 : Int32))] [(.long (-((10 : Int64) * ((10 : Int64) * ((0 : Int64) - ((nar .char z6) - (48 : Int32)).toInt64) - ((nar .char z8) - (48 : Int32)).toInt64) - ((nar .char z10) - (48 : Int32)).toInt64)))])
          refine g_lload X125 hx 365 (hb hby at_363) rfl rfl ?_
          refine g_lcmp X125 hx 366 (hb hby at_365) rfl ?_
          have hk126 : (-((10 : Int64) * ((10 : Int64) * ((0 : Int64) - ((nar .char z6) - (48 : Int32)).toInt64) - ((nar .char z8) - (48 : Int32)).toInt64) - ((nar .char z10) - (48 : Int32)).toInt64)) = (((10 : Int64) * (((10 : Int64) * ((0 : Int64) + (((nar .char z6) - (48 : Int32)).toInt64))) + (((nar .char z8) - (48 : Int32)).toInt64))) + (((nar .char z10) - (48 : Int32)).toInt64)) := by grind
          refine g_ifF X125 hx 369 (hb hby at_366) (own_eqL hk126).2 rfl ?_
          refine g_iconst X125 hx 370 (1 : Int32) (hb hby at_369) (by decide) rfl ?_
          refine g_goto X125 hx 374 (hb hby at_370) (by decide) (by decide) ?_
          exact g_retZ X125 hx hret hlk rfl (hb hby at_374) (by decide) (by decide) ⟨rfl, N125⟩
  · refine g_istore X12 hx 63 #[.val (.int a), .val (.int b), .val (.int c), .val (.int d), .val (.int g), .val (.int f), .val (.ref b1), .val (.int (3 : Int32)), .unset, .unset, .unset, .unset, .unset, .unset] (hb hby at_61) rfl rfl ?_
    refine g_iload X12 hx 65 (hb hby at_63) rfl rfl ?_
    refine g_istore X12 hx 67 #[.val (.int a), .val (.int b), .val (.int c), .val (.int d), .val (.int g), .val (.int f), .val (.ref b1), .val (.int (3 : Int32)), .val (.int (3 : Int32)), .unset, .unset, .unset, .unset, .unset] (hb hby at_65) rfl rfl ?_
    refine g_lconst X12 hx 68 (0 : Int64) (hb hby at_67) (by decide) rfl ?_
    refine g_lstore X12 hx 70 #[.val (.int a), .val (.int b), .val (.int c), .val (.int d), .val (.int g), .val (.int f), .val (.ref b1), .val (.int (3 : Int32)), .val (.int (3 : Int32)), .val (.long (0 : Int64)), .second, .unset, .unset, .unset] (hb hby at_68) rfl rfl ?_
    refine g_iconst X12 hx 71 (1 : Int32) (hb hby at_70) (by decide) rfl ?_
    refine g_istore X12 hx 73 #[.val (.int a), .val (.int b), .val (.int c), .val (.int d), .val (.int g), .val (.int f), .val (.ref b1), .val (.int (3 : Int32)), .val (.int (3 : Int32)), .val (.long (0 : Int64)), .second, .val (.int (1 : Int32)), .unset, .unset] (hb hby at_71) rfl rfl ?_
    refine g_iload X12 hx 75 (hb hby at_73) rfl rfl ?_
    refine g_ifF X12 hx 78 (hb hby at_75) (by decide) rfl ?_
    refine g_iload X12 hx 80 (hb hby at_78) rfl rfl ?_
    refine g_iconst X12 hx 81 (5 : Int32) (hb hby at_80) (by decide) rfl ?_
    refine g_icF X12 hx 84 (hb hby at_81) (by decide) rfl ?_
    refine g_aload X12 hx 86 (hb hby at_84) rfl rfl rfl ?_
    refine g_iload X12 hx 88 (hb hby at_86) rfl rfl ?_
    refine g_caload X12 hx 89 hZ e12 V_b1 ⟨by decide, by decide⟩ (show _ = (.int (nar .char z8)) from rfl) (hb hby at_88) rfl ?_
    refine g_callS X12 hx 92 hZ hown (own_w hw 6 rfl) (own_w hw 7 rfl) (own_w hw 3 rfl) (own_w hw 8 rfl) (by decide) [(.int (nar .char z8))] [] (rm2 l Z a0 hw (nar .char z8) h12 n0 Z12) e12 0 (by decide) (by decide) (by decide) (by decide) (by rw [hml]; rfl) (lenOf own_pd1 rfl) (hb hby at_89) rfl (Nat.le_of_eq rfl) rfl (fun v127 T127 L127 X127 hQ127 => ?_)
    obtain ⟨rfl, N127q, e127⟩ := hQ127
    have N127 := Fr.app N12 N127q
    show Go p e below _ _ T127 (mkF m 92 #[.val (.int a), .val (.int b), .val (.int c), .val (.int d), .val (.int g), .val (.int f), .val (.ref b1), .val (.int (3 : Int32)), .val (.int (3 : Int32)), .val (.long (0 : Int64)), .second, .val (.int (1 : Int32)), .unset, .unset] [(.int (own_dig (nar .char z8)))])
    by_cases hc128 : (own_dig (nar .char z8)) = (0 : Int32)
    · refine g_ifT X127 hx 119 (hb hby at_92) ((if0 _ _).trans (teq hc128).1) (by decide) (by decide) ?_
      refine g_iconst X127 hx 120 (0 : Int32) (hb hby at_119) (by decide) rfl ?_
      refine g_istore X127 hx 122 #[.val (.int a), .val (.int b), .val (.int c), .val (.int d), .val (.int g), .val (.int f), .val (.ref b1), .val (.int (3 : Int32)), .val (.int (3 : Int32)), .val (.long (0 : Int64)), .second, .val (.int (0 : Int32)), .unset, .unset] (hb hby at_120) rfl rfl ?_
      refine g_iload X127 hx 124 (hb hby at_122) rfl rfl ?_
      refine g_ifT X127 hx 168 (hb hby at_124) (by decide) (by decide) (by decide) ?_
      refine g_iconst X127 hx 169 (0 : Int32) (hb hby at_168) (by decide) rfl ?_
      refine g_istore X127 hx 171 #[.val (.int a), .val (.int b), .val (.int c), .val (.int d), .val (.int g), .val (.int f), .val (.ref b1), .val (.int (3 : Int32)), .val (.int (3 : Int32)), .val (.long (0 : Int64)), .second, .val (.int (0 : Int32)), .unset, .unset] (hb hby at_169) rfl rfl ?_
      refine g_iload X127 hx 173 (hb hby at_171) rfl rfl ?_
      refine g_ifT X127 hx 217 (hb hby at_173) (by decide) (by decide) (by decide) ?_
      refine g_iconst X127 hx 218 (0 : Int32) (hb hby at_217) (by decide) rfl ?_
      refine g_istore X127 hx 220 #[.val (.int a), .val (.int b), .val (.int c), .val (.int d), .val (.int g), .val (.int f), .val (.ref b1), .val (.int (3 : Int32)), .val (.int (3 : Int32)), .val (.long (0 : Int64)), .second, .val (.int (0 : Int32)), .unset, .unset] (hb hby at_218) rfl rfl ?_
      refine g_iload X127 hx 222 (hb hby at_220) rfl rfl ?_
      refine g_ifT X127 hx 266 (hb hby at_222) (by decide) (by decide) (by decide) ?_
      refine g_iconst X127 hx 267 (0 : Int32) (hb hby at_266) (by decide) rfl ?_
      refine g_istore X127 hx 269 #[.val (.int a), .val (.int b), .val (.int c), .val (.int d), .val (.int g), .val (.int f), .val (.ref b1), .val (.int (3 : Int32)), .val (.int (3 : Int32)), .val (.long (0 : Int64)), .second, .val (.int (0 : Int32)), .unset, .unset] (hb hby at_267) rfl rfl ?_
      refine g_iload X127 hx 271 (hb hby at_269) rfl rfl ?_
      refine g_ifT X127 hx 315 (hb hby at_271) (by decide) (by decide) (by decide) ?_
      refine g_iconst X127 hx 316 (0 : Int32) (hb hby at_315) (by decide) rfl ?_
      refine g_istore X127 hx 318 #[.val (.int a), .val (.int b), .val (.int c), .val (.int d), .val (.int g), .val (.int f), .val (.ref b1), .val (.int (3 : Int32)), .val (.int (3 : Int32)), .val (.long (0 : Int64)), .second, .val (.int (0 : Int32)), .unset, .unset] (hb hby at_316) rfl rfl ?_
      refine g_new X127 hx 321 hZ hown (own_w hw 10 rfl) (own_w hw 11 rfl) (own_w hw 12 rfl) e127 (hb hby at_318) (by decide) (by decide) rfl (fun T129 h129 b129 g129 X129 e129 E129 A129 D129 => ?_)
      have ne_b1_b129 : b1 ≠ b129 := Nat.ne_of_lt (Nat.lt_of_lt_of_le V_b1.lt (Nat.le_of_eq g129.symm))
      have V_b1 := V_b1.ext E129
      have G_b129 : n0 ≤ b129 := Nat.le_trans Z12 (Nat.le_of_eq g129.symm)
      have Z129 : n0 ≤ h129.size := Nat.le_trans Z12 E129.1
      have SZ_b129 : h0.size ≤ b129 := Nat.le_trans K12.1 (Nat.le_of_eq g129.symm)
      have K129 := K12.ext E129
      have E_b129 : Exa Z h129 b129 "gleanwell/Grammar$NumberReading" := A129
      have F_b129_decimalSum : Fld Z h129 b129 "gleanwell/Grammar$NumberReading" "decimalSum" "J" (.long (0 : Int64)) := D129 (Or.inl (own_w hw 26 rfl)) (ty := .long) (by decide)
      have F_b129_integerRadix : Fld Z h129 b129 "gleanwell/Grammar$NumberReading" "integerRadix" "I" (.int (0 : Int32)) := D129 (Or.inl (own_w hw 36 rfl)) (ty := .int) (by decide)
      have F_b129_integerKind : Fld Z h129 b129 "gleanwell/Grammar$NumberReading" "integerKind" "I" (.int (0 : Int32)) := D129 (Or.inl (own_w hw 38 rfl)) (ty := .int) (by decide)
      have F_b129_value : Fld Z h129 b129 "gleanwell/Grammar$NumberReading" "value" "J" (.long (0 : Int64)) := D129 (Or.inl (own_w hw 40 rfl)) (ty := .long) (by decide)
      have F_b129_realRead : Fld Z h129 b129 "gleanwell/Grammar$NumberReading" "realRead" "Z" (.int (0 : Int32)) := D129 (Or.inl (own_w hw 42 rfl)) (ty := .boolean) (by decide)
      refine g_dup X129 hx 322 (hb hby at_321) rfl rfl ?_
      refine g_callI X129 hx 325 hZ rfl hown (own_w hw 13 rfl) (own_w hw 14 rfl) (own_w hw 12 rfl) (own_w hw 15 rfl) (by decide) b129 [] [(.ref b129)] (rm3 l Z a0 hw b129 h129 n0 Z129) e129 1 (by decide) (by decide) (by decide) (by decide) (by rw [hml]; rfl) (lenOf own_pd2 rfl) (hb hby at_322) rfl (Nat.le_of_eq rfl) rfl (fun v130 T130 L130 X130 hQ130 => ?_)
      obtain ⟨rfl, N130q, e130⟩ := hQ130
      have N130 := Fr.app N127 N130q
      show Go p e below _ _ T130 (mkF m 325 #[.val (.int a), .val (.int b), .val (.int c), .val (.int d), .val (.int g), .val (.int f), .val (.ref b1), .val (.int (3 : Int32)), .val (.int (3 : Int32)), .val (.long (0 : Int64)), .second, .val (.int (0 : Int32)), .unset, .unset] [(.ref b129)])
      refine g_astore X130 hx 327 #[.val (.int a), .val (.int b), .val (.int c), .val (.int d), .val (.int g), .val (.int f), .val (.ref b1), .val (.int (3 : Int32)), .val (.int (3 : Int32)), .val (.long (0 : Int64)), .second, .val (.int (0 : Int32)), .val (.ref b129), .unset] (hb hby at_325) rfl rfl rfl ?_
      refine g_aload X130 hx 329 (hb hby at_327) rfl rfl rfl ?_
      refine g_aload X130 hx 331 (hb hby at_329) rfl rfl rfl ?_
      refine g_iload X130 hx 333 (hb hby at_331) rfl rfl ?_
      refine g_callV X130 hx 336 hZ hown (own_w hw 19 rfl) (own_w hw 20 rfl) (own_w hw 22 rfl) (own_w hw 21 rfl) (own_w hw 12 rfl) (own_w hw 23 rfl) (by decide) b129 E_b129 [(.ref b1), (.int (3 : Int32))] [] (rm5_3_3 l Z a0 hw b129 b1 (nar .char z2) (nar .char z4) (nar .char z6) (nar .char z8) (nar .char z10) kl1 _ _ _ _ _ h129 n0 Z129 G_b129 E_b129 F_b129_decimalSum F_b129_integerRadix F_b129_integerKind F_b129_value F_b129_realRead V_b1 (Ne.symm ne_b1_b129) hc128) e130 0 (by decide) (by decide) (by decide) (by decide) (by rw [hml]; rfl) (lenOf own_pd3 rfl) (hb hby at_333) rfl (Nat.le_of_eq rfl) rfl (fun v131 T131 L131 X131 hQ131 => ?_)
      obtain ⟨rfl, N131q, K131, E131x, F131_decimalSum, F131_integerRadix, F131_integerKind, F131_value, F131_realRead⟩ := hQ131
      have N131 := Fr.app N130 N131q
      have V_b1 := V_b1.keep K131 (ninS ne_b1_b129 nin0)
      have E_b129 := E_b129.keep K131
      have KK131 : Keep h0 T131.heap [] := K129.trans K131 (allS (Or.inr SZ_b129) all0)
      have Z131 := Nat.le_trans Z129 K131.1
      show Go p e below _ _ T131 (mkF m 336 #[.val (.int a), .val (.int b), .val (.int c), .val (.int d), .val (.int g), .val (.int f), .val (.ref b1), .val (.int (3 : Int32)), .val (.int (3 : Int32)), .val (.long (0 : Int64)), .second, .val (.int (0 : Int32)), .val (.ref b129), .unset] [(.int (3 : Int32))])
      refine g_istore X131 hx 338 #[.val (.int a), .val (.int b), .val (.int c), .val (.int d), .val (.int g), .val (.int f), .val (.ref b1), .val (.int (3 : Int32)), .val (.int (3 : Int32)), .val (.long (0 : Int64)), .second, .val (.int (0 : Int32)), .val (.ref b129), .val (.int (3 : Int32))] (hb hby at_336) rfl rfl ?_
      refine g_iload X131 hx 340 (hb hby at_338) rfl rfl ?_
      refine g_iload X131 hx 342 (hb hby at_340) rfl rfl ?_
      refine g_icT X131 hx 347 (hb hby at_342) (by decide) (by decide) (by decide) ?_
      refine g_aload X131 hx 349 (hb hby at_347) rfl rfl rfl ?_
      refine g_iconst X131 hx 350 (0 : Int32) (hb hby at_349) (by decide) rfl ?_
      refine g_iload X131 hx 352 (hb hby at_350) rfl rfl ?_
      refine g_iload X131 hx 354 (hb hby at_352) rfl rfl ?_
      refine g_isub X131 hx 355 (0 : Int32) (hb hby at_354) (by decide) rfl ?_
      refine g_callV X131 hx 358 hZ hown (own_w hw 27 rfl) (own_w hw 28 rfl) (own_w hw 30 rfl) (own_w hw 29 rfl) (own_w hw 12 rfl) (own_w hw 31 rfl) (by decide) b129 E_b129 [(.int (0 : Int32)), (.int (0 : Int32))] [] (rm6 l Z a0 hw b129 (0 : Int32) sd (0 : Int64) _ _ _ _ T131.heap n0 Z131 G_b129 (own_sta_keep S_sd KK131) E_b129 F131_decimalSum F131_integerRadix F131_integerKind F131_value F131_realRead) rfl 0 (by decide) (by decide) (by decide) (by decide) (by rw [hml]; rfl) (lenOf own_pd4 rfl) (hb hby at_355) rfl (Nat.le_of_eq rfl) rfl (fun v132 T132 L132 X132 hQ132 => ?_)
      obtain ⟨rfl, N132q, K132, E132x, F132_value⟩ := hQ132
      have N132 := Fr.app N131 N132q
      have V_b1 := V_b1.keep K132 (ninS ne_b1_b129 nin0)
      have E_b129 := E_b129.keep K132
      have KK132 : Keep h0 T132.heap [] := KK131.trans K132 (allS (Or.inr SZ_b129) all0)
      have Z132 := Nat.le_trans Z131 K132.1
      show Go p e below _ _ T132 (mkF m 358 #[.val (.int a), .val (.int b), .val (.int c), .val (.int d), .val (.int g), .val (.int f), .val (.ref b1), .val (.int (3 : Int32)), .val (.int (3 : Int32)), .val (.long (0 : Int64)), .second, .val (.int (0 : Int32)), .val (.ref b129), .val (.int (3 : Int32))] [])
      refine g_aload X132 hx 360 (hb hby at_358) rfl rfl rfl ?_
      refine g_callV X132 hx 363 hZ hown (own_w hw 43 rfl) (own_w hw 44 rfl) (own_w hw 46 rfl) (own_w hw 45 rfl) (own_w hw 12 rfl) (own_w hw 47 rfl) (by decide) b129 E_b129 [] [] (rm7 l Z a0 hw b129 (-(0 : Int64)) T132.heap n0 Z132 F132_value) rfl 0 (by decide) (by decide) (by decide) (by decide) (by rw [hml]; rfl) (lenOf own_pd5 rfl) (hb hby at_360) rfl (Nat.le_of_eq rfl) rfl (fun v133 T133 L133 X133 hQ133 => ?_)
      obtain ⟨rfl, N133q, e133⟩ := hQ133
      have N133 := Fr.app N132 N133q
      show Go p e below _ _ T133 (mkF m 363 #[.val (.int a), .val (.int b), .val (.int c), .val (.int d), .val (.int g), .val (.int f), .val (.ref b1), .val (.int (3 : Int32)), .val (.int (3 : Int32)), .val (.long (0 : Int64)), .second, .val (.int (0 : Int32)), .val (.ref b129), .val (.int (3 : Int32))] [(.long (-(0 : Int64)))])
      refine g_lload X133 hx 365 (hb hby at_363) rfl rfl ?_
      refine g_lcmp X133 hx 366 (hb hby at_365) rfl ?_
      have hk134 : (-(0 : Int64)) = (0 : Int64) := by grind
      refine g_ifF X133 hx 369 (hb hby at_366) (own_eqL hk134).2 rfl ?_
      refine g_iconst X133 hx 370 (1 : Int32) (hb hby at_369) (by decide) rfl ?_
      refine g_goto X133 hx 374 (hb hby at_370) (by decide) (by decide) ?_
      exact g_retZ X133 hx hret hlk rfl (hb hby at_374) (by decide) (by decide) ⟨rfl, N133⟩
    · refine g_ifF X127 hx 95 (hb hby at_92) ((if0 _ _).trans (feq hc128).1) rfl ?_
      refine g_ldc2J X127 hx 98 hZ hown (own_w hw 9 rfl) (hb hby at_95) rfl ?_
      refine g_lload X127 hx 100 (hb hby at_98) rfl rfl ?_
      refine g_lmul X127 hx 101 (0 : Int64) (hb hby at_100) (by decide) rfl ?_
      refine g_aload X127 hx 103 (hb hby at_101) rfl rfl rfl ?_
      refine g_iload X127 hx 105 (hb hby at_103) rfl rfl ?_
      refine g_caload X127 hx 106 hZ e127 V_b1 ⟨by decide, by decide⟩ (show _ = (.int (nar .char z8)) from rfl) (hb hby at_105) rfl ?_
      refine g_bipush X127 hx 108 (48 : Int32) (hb hby at_106) (by decide) rfl ?_
      refine g_isub X127 hx 109 ((nar .char z8) - (48 : Int32)) (hb hby at_108) rfl rfl ?_
      refine g_i2l X127 hx 110 (((nar .char z8) - (48 : Int32)).toInt64) (hb hby at_109) rfl rfl ?_
      refine g_ladd X127 hx 111 ((0 : Int64) + (((nar .char z8) - (48 : Int32)).toInt64)) (hb hby at_110) rfl rfl ?_
      refine g_lstore X127 hx 113 #[.val (.int a), .val (.int b), .val (.int c), .val (.int d), .val (.int g), .val (.int f), .val (.ref b1), .val (.int (3 : Int32)), .val (.int (3 : Int32)), .val (.long ((0 : Int64) + (((nar .char z8) - (48 : Int32)).toInt64))), .second, .val (.int (1 : Int32)), .unset, .unset] (hb hby at_111) rfl rfl ?_
      refine g_iinc X127 hx 116 (4 : Int32) #[.val (.int a), .val (.int b), .val (.int c), .val (.int d), .val (.int g), .val (.int f), .val (.ref b1), .val (.int (3 : Int32)), .val (.int (4 : Int32)), .val (.long ((0 : Int64) + (((nar .char z8) - (48 : Int32)).toInt64))), .second, .val (.int (1 : Int32)), .unset, .unset] (hb hby at_113) rfl (by decide) rfl rfl ?_
      refine g_goto X127 hx 122 (hb hby at_116) (by decide) (by decide) ?_
      refine g_iload X127 hx 124 (hb hby at_122) rfl rfl ?_
      refine g_ifF X127 hx 127 (hb hby at_124) (by decide) rfl ?_
      refine g_iload X127 hx 129 (hb hby at_127) rfl rfl ?_
      refine g_iconst X127 hx 130 (5 : Int32) (hb hby at_129) (by decide) rfl ?_
      refine g_icF X127 hx 133 (hb hby at_130) (by decide) rfl ?_
      refine g_aload X127 hx 135 (hb hby at_133) rfl rfl rfl ?_
      refine g_iload X127 hx 137 (hb hby at_135) rfl rfl ?_
      refine g_caload X127 hx 138 hZ e127 V_b1 ⟨by decide, by decide⟩ (show _ = (.int (nar .char z10)) from rfl) (hb hby at_137) rfl ?_
      refine g_callS X127 hx 141 hZ hown (own_w hw 6 rfl) (own_w hw 7 rfl) (own_w hw 3 rfl) (own_w hw 8 rfl) (by decide) [(.int (nar .char z10))] [] (rm2 l Z a0 hw (nar .char z10) h12 n0 Z12) e127 0 (by decide) (by decide) (by decide) (by decide) (by rw [hml]; rfl) (lenOf own_pd1 rfl) (hb hby at_138) rfl (Nat.le_of_eq rfl) rfl (fun v135 T135 L135 X135 hQ135 => ?_)
      obtain ⟨rfl, N135q, e135⟩ := hQ135
      have N135 := Fr.app N127 N135q
      show Go p e below _ _ T135 (mkF m 141 #[.val (.int a), .val (.int b), .val (.int c), .val (.int d), .val (.int g), .val (.int f), .val (.ref b1), .val (.int (3 : Int32)), .val (.int (4 : Int32)), .val (.long ((0 : Int64) + (((nar .char z8) - (48 : Int32)).toInt64))), .second, .val (.int (1 : Int32)), .unset, .unset] [(.int (own_dig (nar .char z10)))])
      by_cases hc136 : (own_dig (nar .char z10)) = (0 : Int32)
      · refine g_ifT X135 hx 168 (hb hby at_141) ((if0 _ _).trans (teq hc136).1) (by decide) (by decide) ?_
        refine g_iconst X135 hx 169 (0 : Int32) (hb hby at_168) (by decide) rfl ?_
        refine g_istore X135 hx 171 #[.val (.int a), .val (.int b), .val (.int c), .val (.int d), .val (.int g), .val (.int f), .val (.ref b1), .val (.int (3 : Int32)), .val (.int (4 : Int32)), .val (.long ((0 : Int64) + (((nar .char z8) - (48 : Int32)).toInt64))), .second, .val (.int (0 : Int32)), .unset, .unset] (hb hby at_169) rfl rfl ?_
        refine g_iload X135 hx 173 (hb hby at_171) rfl rfl ?_
        refine g_ifT X135 hx 217 (hb hby at_173) (by decide) (by decide) (by decide) ?_
        refine g_iconst X135 hx 218 (0 : Int32) (hb hby at_217) (by decide) rfl ?_
        refine g_istore X135 hx 220 #[.val (.int a), .val (.int b), .val (.int c), .val (.int d), .val (.int g), .val (.int f), .val (.ref b1), .val (.int (3 : Int32)), .val (.int (4 : Int32)), .val (.long ((0 : Int64) + (((nar .char z8) - (48 : Int32)).toInt64))), .second, .val (.int (0 : Int32)), .unset, .unset] (hb hby at_218) rfl rfl ?_
        refine g_iload X135 hx 222 (hb hby at_220) rfl rfl ?_
        refine g_ifT X135 hx 266 (hb hby at_222) (by decide) (by decide) (by decide) ?_
        refine g_iconst X135 hx 267 (0 : Int32) (hb hby at_266) (by decide) rfl ?_
        refine g_istore X135 hx 269 #[.val (.int a), .val (.int b), .val (.int c), .val (.int d), .val (.int g), .val (.int f), .val (.ref b1), .val (.int (3 : Int32)), .val (.int (4 : Int32)), .val (.long ((0 : Int64) + (((nar .char z8) - (48 : Int32)).toInt64))), .second, .val (.int (0 : Int32)), .unset, .unset] (hb hby at_267) rfl rfl ?_
        refine g_iload X135 hx 271 (hb hby at_269) rfl rfl ?_
        refine g_ifT X135 hx 315 (hb hby at_271) (by decide) (by decide) (by decide) ?_
        refine g_iconst X135 hx 316 (0 : Int32) (hb hby at_315) (by decide) rfl ?_
        refine g_istore X135 hx 318 #[.val (.int a), .val (.int b), .val (.int c), .val (.int d), .val (.int g), .val (.int f), .val (.ref b1), .val (.int (3 : Int32)), .val (.int (4 : Int32)), .val (.long ((0 : Int64) + (((nar .char z8) - (48 : Int32)).toInt64))), .second, .val (.int (0 : Int32)), .unset, .unset] (hb hby at_316) rfl rfl ?_
        refine g_new X135 hx 321 hZ hown (own_w hw 10 rfl) (own_w hw 11 rfl) (own_w hw 12 rfl) e135 (hb hby at_318) (by decide) (by decide) rfl (fun T137 h137 b137 g137 X137 e137 E137 A137 D137 => ?_)
        have ne_b1_b137 : b1 ≠ b137 := Nat.ne_of_lt (Nat.lt_of_lt_of_le V_b1.lt (Nat.le_of_eq g137.symm))
        have V_b1 := V_b1.ext E137
        have G_b137 : n0 ≤ b137 := Nat.le_trans Z12 (Nat.le_of_eq g137.symm)
        have Z137 : n0 ≤ h137.size := Nat.le_trans Z12 E137.1
        have SZ_b137 : h0.size ≤ b137 := Nat.le_trans K12.1 (Nat.le_of_eq g137.symm)
        have K137 := K12.ext E137
        have E_b137 : Exa Z h137 b137 "gleanwell/Grammar$NumberReading" := A137
        have F_b137_decimalSum : Fld Z h137 b137 "gleanwell/Grammar$NumberReading" "decimalSum" "J" (.long (0 : Int64)) := D137 (Or.inl (own_w hw 26 rfl)) (ty := .long) (by decide)
        have F_b137_integerRadix : Fld Z h137 b137 "gleanwell/Grammar$NumberReading" "integerRadix" "I" (.int (0 : Int32)) := D137 (Or.inl (own_w hw 36 rfl)) (ty := .int) (by decide)
        have F_b137_integerKind : Fld Z h137 b137 "gleanwell/Grammar$NumberReading" "integerKind" "I" (.int (0 : Int32)) := D137 (Or.inl (own_w hw 38 rfl)) (ty := .int) (by decide)
        have F_b137_value : Fld Z h137 b137 "gleanwell/Grammar$NumberReading" "value" "J" (.long (0 : Int64)) := D137 (Or.inl (own_w hw 40 rfl)) (ty := .long) (by decide)
        have F_b137_realRead : Fld Z h137 b137 "gleanwell/Grammar$NumberReading" "realRead" "Z" (.int (0 : Int32)) := D137 (Or.inl (own_w hw 42 rfl)) (ty := .boolean) (by decide)
        refine g_dup X137 hx 322 (hb hby at_321) rfl rfl ?_
        refine g_callI X137 hx 325 hZ rfl hown (own_w hw 13 rfl) (own_w hw 14 rfl) (own_w hw 12 rfl) (own_w hw 15 rfl) (by decide) b137 [] [(.ref b137)] (rm3 l Z a0 hw b137 h137 n0 Z137) e137 1 (by decide) (by decide) (by decide) (by decide) (by rw [hml]; rfl) (lenOf own_pd2 rfl) (hb hby at_322) rfl (Nat.le_of_eq rfl) rfl (fun v138 T138 L138 X138 hQ138 => ?_)
        obtain ⟨rfl, N138q, e138⟩ := hQ138
        have N138 := Fr.app N135 N138q
        show Go p e below _ _ T138 (mkF m 325 #[.val (.int a), .val (.int b), .val (.int c), .val (.int d), .val (.int g), .val (.int f), .val (.ref b1), .val (.int (3 : Int32)), .val (.int (4 : Int32)), .val (.long ((0 : Int64) + (((nar .char z8) - (48 : Int32)).toInt64))), .second, .val (.int (0 : Int32)), .unset, .unset] [(.ref b137)])
        refine g_astore X138 hx 327 #[.val (.int a), .val (.int b), .val (.int c), .val (.int d), .val (.int g), .val (.int f), .val (.ref b1), .val (.int (3 : Int32)), .val (.int (4 : Int32)), .val (.long ((0 : Int64) + (((nar .char z8) - (48 : Int32)).toInt64))), .second, .val (.int (0 : Int32)), .val (.ref b137), .unset] (hb hby at_325) rfl rfl rfl ?_
        refine g_aload X138 hx 329 (hb hby at_327) rfl rfl rfl ?_
        refine g_aload X138 hx 331 (hb hby at_329) rfl rfl rfl ?_
        refine g_iload X138 hx 333 (hb hby at_331) rfl rfl ?_
        refine g_callV X138 hx 336 hZ hown (own_w hw 19 rfl) (own_w hw 20 rfl) (own_w hw 22 rfl) (own_w hw 21 rfl) (own_w hw 12 rfl) (own_w hw 23 rfl) (by decide) b137 E_b137 [(.ref b1), (.int (3 : Int32))] [] (rm5_3_4 l Z a0 hw b137 b1 (nar .char z2) (nar .char z4) (nar .char z6) (nar .char z8) (nar .char z10) kl1 _ _ _ _ _ h137 n0 Z137 G_b137 E_b137 F_b137_decimalSum F_b137_integerRadix F_b137_integerKind F_b137_value F_b137_realRead V_b1 (Ne.symm ne_b1_b137) hc128 hc136) e138 0 (by decide) (by decide) (by decide) (by decide) (by rw [hml]; rfl) (lenOf own_pd3 rfl) (hb hby at_333) rfl (Nat.le_of_eq rfl) rfl (fun v139 T139 L139 X139 hQ139 => ?_)
        obtain ⟨rfl, N139q, K139, E139x, F139_decimalSum, F139_integerRadix, F139_integerKind, F139_value, F139_realRead⟩ := hQ139
        have N139 := Fr.app N138 N139q
        have V_b1 := V_b1.keep K139 (ninS ne_b1_b137 nin0)
        have E_b137 := E_b137.keep K139
        have KK139 : Keep h0 T139.heap [] := K137.trans K139 (allS (Or.inr SZ_b137) all0)
        have Z139 := Nat.le_trans Z137 K139.1
        show Go p e below _ _ T139 (mkF m 336 #[.val (.int a), .val (.int b), .val (.int c), .val (.int d), .val (.int g), .val (.int f), .val (.ref b1), .val (.int (3 : Int32)), .val (.int (4 : Int32)), .val (.long ((0 : Int64) + (((nar .char z8) - (48 : Int32)).toInt64))), .second, .val (.int (0 : Int32)), .val (.ref b137), .unset] [(.int (4 : Int32))])
        refine g_istore X139 hx 338 #[.val (.int a), .val (.int b), .val (.int c), .val (.int d), .val (.int g), .val (.int f), .val (.ref b1), .val (.int (3 : Int32)), .val (.int (4 : Int32)), .val (.long ((0 : Int64) + (((nar .char z8) - (48 : Int32)).toInt64))), .second, .val (.int (0 : Int32)), .val (.ref b137), .val (.int (4 : Int32))] (hb hby at_336) rfl rfl ?_
        refine g_iload X139 hx 340 (hb hby at_338) rfl rfl ?_
        refine g_iload X139 hx 342 (hb hby at_340) rfl rfl ?_
        refine g_icT X139 hx 347 (hb hby at_342) (by decide) (by decide) (by decide) ?_
        refine g_aload X139 hx 349 (hb hby at_347) rfl rfl rfl ?_
        refine g_iconst X139 hx 350 (0 : Int32) (hb hby at_349) (by decide) rfl ?_
        refine g_iload X139 hx 352 (hb hby at_350) rfl rfl ?_
        refine g_iload X139 hx 354 (hb hby at_352) rfl rfl ?_
        refine g_isub X139 hx 355 (1 : Int32) (hb hby at_354) (by decide) rfl ?_
        refine g_callV X139 hx 358 hZ hown (own_w hw 27 rfl) (own_w hw 28 rfl) (own_w hw 30 rfl) (own_w hw 29 rfl) (own_w hw 12 rfl) (own_w hw 31 rfl) (by decide) b137 E_b137 [(.int (0 : Int32)), (.int (1 : Int32))] [] (rm6 l Z a0 hw b137 (1 : Int32) sd ((0 : Int64) - ((nar .char z8) - (48 : Int32)).toInt64) _ _ _ _ T139.heap n0 Z139 G_b137 (own_sta_keep S_sd KK139) E_b137 F139_decimalSum F139_integerRadix F139_integerKind F139_value F139_realRead) rfl 0 (by decide) (by decide) (by decide) (by decide) (by rw [hml]; rfl) (lenOf own_pd4 rfl) (hb hby at_355) rfl (Nat.le_of_eq rfl) rfl (fun v140 T140 L140 X140 hQ140 => ?_)
        obtain ⟨rfl, N140q, K140, E140x, F140_value⟩ := hQ140
        have N140 := Fr.app N139 N140q
        have V_b1 := V_b1.keep K140 (ninS ne_b1_b137 nin0)
        have E_b137 := E_b137.keep K140
        have KK140 : Keep h0 T140.heap [] := KK139.trans K140 (allS (Or.inr SZ_b137) all0)
        have Z140 := Nat.le_trans Z139 K140.1
        show Go p e below _ _ T140 (mkF m 358 #[.val (.int a), .val (.int b), .val (.int c), .val (.int d), .val (.int g), .val (.int f), .val (.ref b1), .val (.int (3 : Int32)), .val (.int (4 : Int32)), .val (.long ((0 : Int64) + (((nar .char z8) - (48 : Int32)).toInt64))), .second, .val (.int (0 : Int32)), .val (.ref b137), .val (.int (4 : Int32))] [])
        refine g_aload X140 hx 360 (hb hby at_358) rfl rfl rfl ?_
        refine g_callV X140 hx 363 hZ hown (own_w hw 43 rfl) (own_w hw 44 rfl) (own_w hw 46 rfl) (own_w hw 45 rfl) (own_w hw 12 rfl) (own_w hw 47 rfl) (by decide) b137 E_b137 [] [] (rm7 l Z a0 hw b137 (-((0 : Int64) - ((nar .char z8) - (48 : Int32)).toInt64)) T140.heap n0 Z140 F140_value) rfl 0 (by decide) (by decide) (by decide) (by decide) (by rw [hml]; rfl) (lenOf own_pd5 rfl) (hb hby at_360) rfl (Nat.le_of_eq rfl) rfl (fun v141 T141 L141 X141 hQ141 => ?_)
        obtain ⟨rfl, N141q, e141⟩ := hQ141
        have N141 := Fr.app N140 N141q
        show Go p e below _ _ T141 (mkF m 363 #[.val (.int a), .val (.int b), .val (.int c), .val (.int d), .val (.int g), .val (.int f), .val (.ref b1), .val (.int (3 : Int32)), .val (.int (4 : Int32)), .val (.long ((0 : Int64) + (((nar .char z8) - (48 : Int32)).toInt64))), .second, .val (.int (0 : Int32)), .val (.ref b137), .val (.int (4 : Int32))] [(.long (-((0 : Int64) - ((nar .char z8) - (48 : Int32)).toInt64)))])
        refine g_lload X141 hx 365 (hb hby at_363) rfl rfl ?_
        refine g_lcmp X141 hx 366 (hb hby at_365) rfl ?_
        have hk142 : (-((0 : Int64) - ((nar .char z8) - (48 : Int32)).toInt64)) = ((0 : Int64) + (((nar .char z8) - (48 : Int32)).toInt64)) := by grind
        refine g_ifF X141 hx 369 (hb hby at_366) (own_eqL hk142).2 rfl ?_
        refine g_iconst X141 hx 370 (1 : Int32) (hb hby at_369) (by decide) rfl ?_
        refine g_goto X141 hx 374 (hb hby at_370) (by decide) (by decide) ?_
        exact g_retZ X141 hx hret hlk rfl (hb hby at_374) (by decide) (by decide) ⟨rfl, N141⟩
      · refine g_ifF X135 hx 144 (hb hby at_141) ((if0 _ _).trans (feq hc136).1) rfl ?_
        refine g_ldc2J X135 hx 147 hZ hown (own_w hw 9 rfl) (hb hby at_144) rfl ?_
        refine g_lload X135 hx 149 (hb hby at_147) rfl rfl ?_
        refine g_lmul X135 hx 150 ((10 : Int64) * ((0 : Int64) + (((nar .char z8) - (48 : Int32)).toInt64))) (hb hby at_149) rfl rfl ?_
        refine g_aload X135 hx 152 (hb hby at_150) rfl rfl rfl ?_
        refine g_iload X135 hx 154 (hb hby at_152) rfl rfl ?_
        refine g_caload X135 hx 155 hZ e135 V_b1 ⟨by decide, by decide⟩ (show _ = (.int (nar .char z10)) from rfl) (hb hby at_154) rfl ?_
        refine g_bipush X135 hx 157 (48 : Int32) (hb hby at_155) (by decide) rfl ?_
        refine g_isub X135 hx 158 ((nar .char z10) - (48 : Int32)) (hb hby at_157) rfl rfl ?_
        refine g_i2l X135 hx 159 (((nar .char z10) - (48 : Int32)).toInt64) (hb hby at_158) rfl rfl ?_
        refine g_ladd X135 hx 160 (((10 : Int64) * ((0 : Int64) + (((nar .char z8) - (48 : Int32)).toInt64))) + (((nar .char z10) - (48 : Int32)).toInt64)) (hb hby at_159) rfl rfl ?_
        refine g_lstore X135 hx 162 #[.val (.int a), .val (.int b), .val (.int c), .val (.int d), .val (.int g), .val (.int f), .val (.ref b1), .val (.int (3 : Int32)), .val (.int (4 : Int32)), .val (.long (((10 : Int64) * ((0 : Int64) + (((nar .char z8) - (48 : Int32)).toInt64))) + (((nar .char z10) - (48 : Int32)).toInt64))), .second, .val (.int (1 : Int32)), .unset, .unset] (hb hby at_160) rfl rfl ?_
        refine g_iinc X135 hx 165 (5 : Int32) #[.val (.int a), .val (.int b), .val (.int c), .val (.int d), .val (.int g), .val (.int f), .val (.ref b1), .val (.int (3 : Int32)), .val (.int (5 : Int32)), .val (.long (((10 : Int64) * ((0 : Int64) + (((nar .char z8) - (48 : Int32)).toInt64))) + (((nar .char z10) - (48 : Int32)).toInt64))), .second, .val (.int (1 : Int32)), .unset, .unset] (hb hby at_162) rfl (by decide) rfl rfl ?_
        refine g_goto X135 hx 171 (hb hby at_165) (by decide) (by decide) ?_
        refine g_iload X135 hx 173 (hb hby at_171) rfl rfl ?_
        refine g_ifF X135 hx 176 (hb hby at_173) (by decide) rfl ?_
        refine g_iload X135 hx 178 (hb hby at_176) rfl rfl ?_
        refine g_iconst X135 hx 179 (5 : Int32) (hb hby at_178) (by decide) rfl ?_
        refine g_icT X135 hx 217 (hb hby at_179) (by decide) (by decide) (by decide) ?_
        refine g_iconst X135 hx 218 (0 : Int32) (hb hby at_217) (by decide) rfl ?_
        refine g_istore X135 hx 220 #[.val (.int a), .val (.int b), .val (.int c), .val (.int d), .val (.int g), .val (.int f), .val (.ref b1), .val (.int (3 : Int32)), .val (.int (5 : Int32)), .val (.long (((10 : Int64) * ((0 : Int64) + (((nar .char z8) - (48 : Int32)).toInt64))) + (((nar .char z10) - (48 : Int32)).toInt64))), .second, .val (.int (0 : Int32)), .unset, .unset] (hb hby at_218) rfl rfl ?_
        refine g_iload X135 hx 222 (hb hby at_220) rfl rfl ?_
        refine g_ifT X135 hx 266 (hb hby at_222) (by decide) (by decide) (by decide) ?_
        refine g_iconst X135 hx 267 (0 : Int32) (hb hby at_266) (by decide) rfl ?_
        refine g_istore X135 hx 269 #[.val (.int a), .val (.int b), .val (.int c), .val (.int d), .val (.int g), .val (.int f), .val (.ref b1), .val (.int (3 : Int32)), .val (.int (5 : Int32)), .val (.long (((10 : Int64) * ((0 : Int64) + (((nar .char z8) - (48 : Int32)).toInt64))) + (((nar .char z10) - (48 : Int32)).toInt64))), .second, .val (.int (0 : Int32)), .unset, .unset] (hb hby at_267) rfl rfl ?_
        refine g_iload X135 hx 271 (hb hby at_269) rfl rfl ?_
        refine g_ifT X135 hx 315 (hb hby at_271) (by decide) (by decide) (by decide) ?_
        refine g_iconst X135 hx 316 (0 : Int32) (hb hby at_315) (by decide) rfl ?_
        refine g_istore X135 hx 318 #[.val (.int a), .val (.int b), .val (.int c), .val (.int d), .val (.int g), .val (.int f), .val (.ref b1), .val (.int (3 : Int32)), .val (.int (5 : Int32)), .val (.long (((10 : Int64) * ((0 : Int64) + (((nar .char z8) - (48 : Int32)).toInt64))) + (((nar .char z10) - (48 : Int32)).toInt64))), .second, .val (.int (0 : Int32)), .unset, .unset] (hb hby at_316) rfl rfl ?_
        refine g_new X135 hx 321 hZ hown (own_w hw 10 rfl) (own_w hw 11 rfl) (own_w hw 12 rfl) e135 (hb hby at_318) (by decide) (by decide) rfl (fun T143 h143 b143 g143 X143 e143 E143 A143 D143 => ?_)
        have ne_b1_b143 : b1 ≠ b143 := Nat.ne_of_lt (Nat.lt_of_lt_of_le V_b1.lt (Nat.le_of_eq g143.symm))
        have V_b1 := V_b1.ext E143
        have G_b143 : n0 ≤ b143 := Nat.le_trans Z12 (Nat.le_of_eq g143.symm)
        have Z143 : n0 ≤ h143.size := Nat.le_trans Z12 E143.1
        have SZ_b143 : h0.size ≤ b143 := Nat.le_trans K12.1 (Nat.le_of_eq g143.symm)
        have K143 := K12.ext E143
        have E_b143 : Exa Z h143 b143 "gleanwell/Grammar$NumberReading" := A143
        have F_b143_decimalSum : Fld Z h143 b143 "gleanwell/Grammar$NumberReading" "decimalSum" "J" (.long (0 : Int64)) := D143 (Or.inl (own_w hw 26 rfl)) (ty := .long) (by decide)
        have F_b143_integerRadix : Fld Z h143 b143 "gleanwell/Grammar$NumberReading" "integerRadix" "I" (.int (0 : Int32)) := D143 (Or.inl (own_w hw 36 rfl)) (ty := .int) (by decide)
        have F_b143_integerKind : Fld Z h143 b143 "gleanwell/Grammar$NumberReading" "integerKind" "I" (.int (0 : Int32)) := D143 (Or.inl (own_w hw 38 rfl)) (ty := .int) (by decide)
        have F_b143_value : Fld Z h143 b143 "gleanwell/Grammar$NumberReading" "value" "J" (.long (0 : Int64)) := D143 (Or.inl (own_w hw 40 rfl)) (ty := .long) (by decide)
        have F_b143_realRead : Fld Z h143 b143 "gleanwell/Grammar$NumberReading" "realRead" "Z" (.int (0 : Int32)) := D143 (Or.inl (own_w hw 42 rfl)) (ty := .boolean) (by decide)
        refine g_dup X143 hx 322 (hb hby at_321) rfl rfl ?_
        refine g_callI X143 hx 325 hZ rfl hown (own_w hw 13 rfl) (own_w hw 14 rfl) (own_w hw 12 rfl) (own_w hw 15 rfl) (by decide) b143 [] [(.ref b143)] (rm3 l Z a0 hw b143 h143 n0 Z143) e143 1 (by decide) (by decide) (by decide) (by decide) (by rw [hml]; rfl) (lenOf own_pd2 rfl) (hb hby at_322) rfl (Nat.le_of_eq rfl) rfl (fun v144 T144 L144 X144 hQ144 => ?_)
        obtain ⟨rfl, N144q, e144⟩ := hQ144
        have N144 := Fr.app N135 N144q
        show Go p e below _ _ T144 (mkF m 325 #[.val (.int a), .val (.int b), .val (.int c), .val (.int d), .val (.int g), .val (.int f), .val (.ref b1), .val (.int (3 : Int32)), .val (.int (5 : Int32)), .val (.long (((10 : Int64) * ((0 : Int64) + (((nar .char z8) - (48 : Int32)).toInt64))) + (((nar .char z10) - (48 : Int32)).toInt64))), .second, .val (.int (0 : Int32)), .unset, .unset] [(.ref b143)])
        refine g_astore X144 hx 327 #[.val (.int a), .val (.int b), .val (.int c), .val (.int d), .val (.int g), .val (.int f), .val (.ref b1), .val (.int (3 : Int32)), .val (.int (5 : Int32)), .val (.long (((10 : Int64) * ((0 : Int64) + (((nar .char z8) - (48 : Int32)).toInt64))) + (((nar .char z10) - (48 : Int32)).toInt64))), .second, .val (.int (0 : Int32)), .val (.ref b143), .unset] (hb hby at_325) rfl rfl rfl ?_
        refine g_aload X144 hx 329 (hb hby at_327) rfl rfl rfl ?_
        refine g_aload X144 hx 331 (hb hby at_329) rfl rfl rfl ?_
        refine g_iload X144 hx 333 (hb hby at_331) rfl rfl ?_
        refine g_callV X144 hx 336 hZ hown (own_w hw 19 rfl) (own_w hw 20 rfl) (own_w hw 22 rfl) (own_w hw 21 rfl) (own_w hw 12 rfl) (own_w hw 23 rfl) (by decide) b143 E_b143 [(.ref b1), (.int (3 : Int32))] [] (rm5_3_5 l Z a0 hw b143 b1 (nar .char z2) (nar .char z4) (nar .char z6) (nar .char z8) (nar .char z10) kl1 _ _ _ _ _ h143 n0 Z143 G_b143 E_b143 F_b143_decimalSum F_b143_integerRadix F_b143_integerKind F_b143_value F_b143_realRead V_b1 (Ne.symm ne_b1_b143) hc128 hc136) e144 0 (by decide) (by decide) (by decide) (by decide) (by rw [hml]; rfl) (lenOf own_pd3 rfl) (hb hby at_333) rfl (Nat.le_of_eq rfl) rfl (fun v145 T145 L145 X145 hQ145 => ?_)
        obtain ⟨rfl, N145q, K145, E145x, F145_decimalSum, F145_integerRadix, F145_integerKind, F145_value, F145_realRead⟩ := hQ145
        have N145 := Fr.app N144 N145q
        have V_b1 := V_b1.keep K145 (ninS ne_b1_b143 nin0)
        have E_b143 := E_b143.keep K145
        have KK145 : Keep h0 T145.heap [] := K143.trans K145 (allS (Or.inr SZ_b143) all0)
        have Z145 := Nat.le_trans Z143 K145.1
        show Go p e below _ _ T145 (mkF m 336 #[.val (.int a), .val (.int b), .val (.int c), .val (.int d), .val (.int g), .val (.int f), .val (.ref b1), .val (.int (3 : Int32)), .val (.int (5 : Int32)), .val (.long (((10 : Int64) * ((0 : Int64) + (((nar .char z8) - (48 : Int32)).toInt64))) + (((nar .char z10) - (48 : Int32)).toInt64))), .second, .val (.int (0 : Int32)), .val (.ref b143), .unset] [(.int (5 : Int32))])
        refine g_istore X145 hx 338 #[.val (.int a), .val (.int b), .val (.int c), .val (.int d), .val (.int g), .val (.int f), .val (.ref b1), .val (.int (3 : Int32)), .val (.int (5 : Int32)), .val (.long (((10 : Int64) * ((0 : Int64) + (((nar .char z8) - (48 : Int32)).toInt64))) + (((nar .char z10) - (48 : Int32)).toInt64))), .second, .val (.int (0 : Int32)), .val (.ref b143), .val (.int (5 : Int32))] (hb hby at_336) rfl rfl ?_
        refine g_iload X145 hx 340 (hb hby at_338) rfl rfl ?_
        refine g_iload X145 hx 342 (hb hby at_340) rfl rfl ?_
        refine g_icT X145 hx 347 (hb hby at_342) (by decide) (by decide) (by decide) ?_
        refine g_aload X145 hx 349 (hb hby at_347) rfl rfl rfl ?_
        refine g_iconst X145 hx 350 (0 : Int32) (hb hby at_349) (by decide) rfl ?_
        refine g_iload X145 hx 352 (hb hby at_350) rfl rfl ?_
        refine g_iload X145 hx 354 (hb hby at_352) rfl rfl ?_
        refine g_isub X145 hx 355 (2 : Int32) (hb hby at_354) (by decide) rfl ?_
        refine g_callV X145 hx 358 hZ hown (own_w hw 27 rfl) (own_w hw 28 rfl) (own_w hw 30 rfl) (own_w hw 29 rfl) (own_w hw 12 rfl) (own_w hw 31 rfl) (by decide) b143 E_b143 [(.int (0 : Int32)), (.int (2 : Int32))] [] (rm6 l Z a0 hw b143 (2 : Int32) sd ((10 : Int64) * ((0 : Int64) - ((nar .char z8) - (48 : Int32)).toInt64) - ((nar .char z10) - (48 : Int32)).toInt64) _ _ _ _ T145.heap n0 Z145 G_b143 (own_sta_keep S_sd KK145) E_b143 F145_decimalSum F145_integerRadix F145_integerKind F145_value F145_realRead) rfl 0 (by decide) (by decide) (by decide) (by decide) (by rw [hml]; rfl) (lenOf own_pd4 rfl) (hb hby at_355) rfl (Nat.le_of_eq rfl) rfl (fun v146 T146 L146 X146 hQ146 => ?_)
        obtain ⟨rfl, N146q, K146, E146x, F146_value⟩ := hQ146
        have N146 := Fr.app N145 N146q
        have V_b1 := V_b1.keep K146 (ninS ne_b1_b143 nin0)
        have E_b143 := E_b143.keep K146
        have KK146 : Keep h0 T146.heap [] := KK145.trans K146 (allS (Or.inr SZ_b143) all0)
        have Z146 := Nat.le_trans Z145 K146.1
        show Go p e below _ _ T146 (mkF m 358 #[.val (.int a), .val (.int b), .val (.int c), .val (.int d), .val (.int g), .val (.int f), .val (.ref b1), .val (.int (3 : Int32)), .val (.int (5 : Int32)), .val (.long (((10 : Int64) * ((0 : Int64) + (((nar .char z8) - (48 : Int32)).toInt64))) + (((nar .char z10) - (48 : Int32)).toInt64))), .second, .val (.int (0 : Int32)), .val (.ref b143), .val (.int (5 : Int32))] [])
        refine g_aload X146 hx 360 (hb hby at_358) rfl rfl rfl ?_
        refine g_callV X146 hx 363 hZ hown (own_w hw 43 rfl) (own_w hw 44 rfl) (own_w hw 46 rfl) (own_w hw 45 rfl) (own_w hw 12 rfl) (own_w hw 47 rfl) (by decide) b143 E_b143 [] [] (rm7 l Z a0 hw b143 (-((10 : Int64) * ((0 : Int64) - ((nar .char z8) - (48 : Int32)).toInt64) - ((nar .char z10) - (48 : Int32)).toInt64)) T146.heap n0 Z146 F146_value) rfl 0 (by decide) (by decide) (by decide) (by decide) (by rw [hml]; rfl) (lenOf own_pd5 rfl) (hb hby at_360) rfl (Nat.le_of_eq rfl) rfl (fun v147 T147 L147 X147 hQ147 => ?_)
        obtain ⟨rfl, N147q, e147⟩ := hQ147
        have N147 := Fr.app N146 N147q
        show Go p e below _ _ T147 (mkF m 363 #[.val (.int a), .val (.int b), .val (.int c), .val (.int d), .val (.int g), .val (.int f), .val (.ref b1), .val (.int (3 : Int32)), .val (.int (5 : Int32)), .val (.long (((10 : Int64) * ((0 : Int64) + (((nar .char z8) - (48 : Int32)).toInt64))) + (((nar .char z10) - (48 : Int32)).toInt64))), .second, .val (.int (0 : Int32)), .val (.ref b143), .val (.int (5 : Int32))] [(.long (-((10 : Int64) * ((0 : Int64) - ((nar .char z8) - (48 : Int32)).toInt64) - ((nar .char z10) - (48 : Int32)).toInt64)))])
        refine g_lload X147 hx 365 (hb hby at_363) rfl rfl ?_
        refine g_lcmp X147 hx 366 (hb hby at_365) rfl ?_
        have hk148 : (-((10 : Int64) * ((0 : Int64) - ((nar .char z8) - (48 : Int32)).toInt64) - ((nar .char z10) - (48 : Int32)).toInt64)) = (((10 : Int64) * ((0 : Int64) + (((nar .char z8) - (48 : Int32)).toInt64))) + (((nar .char z10) - (48 : Int32)).toInt64)) := by grind
        refine g_ifF X147 hx 369 (hb hby at_366) (own_eqL hk148).2 rfl ?_
        refine g_iconst X147 hx 370 (1 : Int32) (hb hby at_369) (by decide) rfl ?_
        refine g_goto X147 hx 374 (hb hby at_370) (by decide) (by decide) ?_
        exact g_retZ X147 hx hret hlk rfl (hb hby at_374) (by decide) (by decide) ⟨rfl, N147⟩
  · refine g_istore X12 hx 63 #[.val (.int a), .val (.int b), .val (.int c), .val (.int d), .val (.int g), .val (.int f), .val (.ref b1), .val (.int (4 : Int32)), .unset, .unset, .unset, .unset, .unset, .unset] (hb hby at_61) rfl rfl ?_
    refine g_iload X12 hx 65 (hb hby at_63) rfl rfl ?_
    refine g_istore X12 hx 67 #[.val (.int a), .val (.int b), .val (.int c), .val (.int d), .val (.int g), .val (.int f), .val (.ref b1), .val (.int (4 : Int32)), .val (.int (4 : Int32)), .unset, .unset, .unset, .unset, .unset] (hb hby at_65) rfl rfl ?_
    refine g_lconst X12 hx 68 (0 : Int64) (hb hby at_67) (by decide) rfl ?_
    refine g_lstore X12 hx 70 #[.val (.int a), .val (.int b), .val (.int c), .val (.int d), .val (.int g), .val (.int f), .val (.ref b1), .val (.int (4 : Int32)), .val (.int (4 : Int32)), .val (.long (0 : Int64)), .second, .unset, .unset, .unset] (hb hby at_68) rfl rfl ?_
    refine g_iconst X12 hx 71 (1 : Int32) (hb hby at_70) (by decide) rfl ?_
    refine g_istore X12 hx 73 #[.val (.int a), .val (.int b), .val (.int c), .val (.int d), .val (.int g), .val (.int f), .val (.ref b1), .val (.int (4 : Int32)), .val (.int (4 : Int32)), .val (.long (0 : Int64)), .second, .val (.int (1 : Int32)), .unset, .unset] (hb hby at_71) rfl rfl ?_
    refine g_iload X12 hx 75 (hb hby at_73) rfl rfl ?_
    refine g_ifF X12 hx 78 (hb hby at_75) (by decide) rfl ?_
    refine g_iload X12 hx 80 (hb hby at_78) rfl rfl ?_
    refine g_iconst X12 hx 81 (5 : Int32) (hb hby at_80) (by decide) rfl ?_
    refine g_icF X12 hx 84 (hb hby at_81) (by decide) rfl ?_
    refine g_aload X12 hx 86 (hb hby at_84) rfl rfl rfl ?_
    refine g_iload X12 hx 88 (hb hby at_86) rfl rfl ?_
    refine g_caload X12 hx 89 hZ e12 V_b1 ⟨by decide, by decide⟩ (show _ = (.int (nar .char z10)) from rfl) (hb hby at_88) rfl ?_
    refine g_callS X12 hx 92 hZ hown (own_w hw 6 rfl) (own_w hw 7 rfl) (own_w hw 3 rfl) (own_w hw 8 rfl) (by decide) [(.int (nar .char z10))] [] (rm2 l Z a0 hw (nar .char z10) h12 n0 Z12) e12 0 (by decide) (by decide) (by decide) (by decide) (by rw [hml]; rfl) (lenOf own_pd1 rfl) (hb hby at_89) rfl (Nat.le_of_eq rfl) rfl (fun v149 T149 L149 X149 hQ149 => ?_)
    obtain ⟨rfl, N149q, e149⟩ := hQ149
    have N149 := Fr.app N12 N149q
    show Go p e below _ _ T149 (mkF m 92 #[.val (.int a), .val (.int b), .val (.int c), .val (.int d), .val (.int g), .val (.int f), .val (.ref b1), .val (.int (4 : Int32)), .val (.int (4 : Int32)), .val (.long (0 : Int64)), .second, .val (.int (1 : Int32)), .unset, .unset] [(.int (own_dig (nar .char z10)))])
    by_cases hc150 : (own_dig (nar .char z10)) = (0 : Int32)
    · refine g_ifT X149 hx 119 (hb hby at_92) ((if0 _ _).trans (teq hc150).1) (by decide) (by decide) ?_
      refine g_iconst X149 hx 120 (0 : Int32) (hb hby at_119) (by decide) rfl ?_
      refine g_istore X149 hx 122 #[.val (.int a), .val (.int b), .val (.int c), .val (.int d), .val (.int g), .val (.int f), .val (.ref b1), .val (.int (4 : Int32)), .val (.int (4 : Int32)), .val (.long (0 : Int64)), .second, .val (.int (0 : Int32)), .unset, .unset] (hb hby at_120) rfl rfl ?_
      refine g_iload X149 hx 124 (hb hby at_122) rfl rfl ?_
      refine g_ifT X149 hx 168 (hb hby at_124) (by decide) (by decide) (by decide) ?_
      refine g_iconst X149 hx 169 (0 : Int32) (hb hby at_168) (by decide) rfl ?_
      refine g_istore X149 hx 171 #[.val (.int a), .val (.int b), .val (.int c), .val (.int d), .val (.int g), .val (.int f), .val (.ref b1), .val (.int (4 : Int32)), .val (.int (4 : Int32)), .val (.long (0 : Int64)), .second, .val (.int (0 : Int32)), .unset, .unset] (hb hby at_169) rfl rfl ?_
      refine g_iload X149 hx 173 (hb hby at_171) rfl rfl ?_
      refine g_ifT X149 hx 217 (hb hby at_173) (by decide) (by decide) (by decide) ?_
      refine g_iconst X149 hx 218 (0 : Int32) (hb hby at_217) (by decide) rfl ?_
      refine g_istore X149 hx 220 #[.val (.int a), .val (.int b), .val (.int c), .val (.int d), .val (.int g), .val (.int f), .val (.ref b1), .val (.int (4 : Int32)), .val (.int (4 : Int32)), .val (.long (0 : Int64)), .second, .val (.int (0 : Int32)), .unset, .unset] (hb hby at_218) rfl rfl ?_
      refine g_iload X149 hx 222 (hb hby at_220) rfl rfl ?_
      refine g_ifT X149 hx 266 (hb hby at_222) (by decide) (by decide) (by decide) ?_
      refine g_iconst X149 hx 267 (0 : Int32) (hb hby at_266) (by decide) rfl ?_
      refine g_istore X149 hx 269 #[.val (.int a), .val (.int b), .val (.int c), .val (.int d), .val (.int g), .val (.int f), .val (.ref b1), .val (.int (4 : Int32)), .val (.int (4 : Int32)), .val (.long (0 : Int64)), .second, .val (.int (0 : Int32)), .unset, .unset] (hb hby at_267) rfl rfl ?_
      refine g_iload X149 hx 271 (hb hby at_269) rfl rfl ?_
      refine g_ifT X149 hx 315 (hb hby at_271) (by decide) (by decide) (by decide) ?_
      refine g_iconst X149 hx 316 (0 : Int32) (hb hby at_315) (by decide) rfl ?_
      refine g_istore X149 hx 318 #[.val (.int a), .val (.int b), .val (.int c), .val (.int d), .val (.int g), .val (.int f), .val (.ref b1), .val (.int (4 : Int32)), .val (.int (4 : Int32)), .val (.long (0 : Int64)), .second, .val (.int (0 : Int32)), .unset, .unset] (hb hby at_316) rfl rfl ?_
      refine g_new X149 hx 321 hZ hown (own_w hw 10 rfl) (own_w hw 11 rfl) (own_w hw 12 rfl) e149 (hb hby at_318) (by decide) (by decide) rfl (fun T151 h151 b151 g151 X151 e151 E151 A151 D151 => ?_)
      have ne_b1_b151 : b1 ≠ b151 := Nat.ne_of_lt (Nat.lt_of_lt_of_le V_b1.lt (Nat.le_of_eq g151.symm))
      have V_b1 := V_b1.ext E151
      have G_b151 : n0 ≤ b151 := Nat.le_trans Z12 (Nat.le_of_eq g151.symm)
      have Z151 : n0 ≤ h151.size := Nat.le_trans Z12 E151.1
      have SZ_b151 : h0.size ≤ b151 := Nat.le_trans K12.1 (Nat.le_of_eq g151.symm)
      have K151 := K12.ext E151
      have E_b151 : Exa Z h151 b151 "gleanwell/Grammar$NumberReading" := A151
      have F_b151_decimalSum : Fld Z h151 b151 "gleanwell/Grammar$NumberReading" "decimalSum" "J" (.long (0 : Int64)) := D151 (Or.inl (own_w hw 26 rfl)) (ty := .long) (by decide)
      have F_b151_integerRadix : Fld Z h151 b151 "gleanwell/Grammar$NumberReading" "integerRadix" "I" (.int (0 : Int32)) := D151 (Or.inl (own_w hw 36 rfl)) (ty := .int) (by decide)
      have F_b151_integerKind : Fld Z h151 b151 "gleanwell/Grammar$NumberReading" "integerKind" "I" (.int (0 : Int32)) := D151 (Or.inl (own_w hw 38 rfl)) (ty := .int) (by decide)
      have F_b151_value : Fld Z h151 b151 "gleanwell/Grammar$NumberReading" "value" "J" (.long (0 : Int64)) := D151 (Or.inl (own_w hw 40 rfl)) (ty := .long) (by decide)
      have F_b151_realRead : Fld Z h151 b151 "gleanwell/Grammar$NumberReading" "realRead" "Z" (.int (0 : Int32)) := D151 (Or.inl (own_w hw 42 rfl)) (ty := .boolean) (by decide)
      refine g_dup X151 hx 322 (hb hby at_321) rfl rfl ?_
      refine g_callI X151 hx 325 hZ rfl hown (own_w hw 13 rfl) (own_w hw 14 rfl) (own_w hw 12 rfl) (own_w hw 15 rfl) (by decide) b151 [] [(.ref b151)] (rm3 l Z a0 hw b151 h151 n0 Z151) e151 1 (by decide) (by decide) (by decide) (by decide) (by rw [hml]; rfl) (lenOf own_pd2 rfl) (hb hby at_322) rfl (Nat.le_of_eq rfl) rfl (fun v152 T152 L152 X152 hQ152 => ?_)
      obtain ⟨rfl, N152q, e152⟩ := hQ152
      have N152 := Fr.app N149 N152q
      show Go p e below _ _ T152 (mkF m 325 #[.val (.int a), .val (.int b), .val (.int c), .val (.int d), .val (.int g), .val (.int f), .val (.ref b1), .val (.int (4 : Int32)), .val (.int (4 : Int32)), .val (.long (0 : Int64)), .second, .val (.int (0 : Int32)), .unset, .unset] [(.ref b151)])
      refine g_astore X152 hx 327 #[.val (.int a), .val (.int b), .val (.int c), .val (.int d), .val (.int g), .val (.int f), .val (.ref b1), .val (.int (4 : Int32)), .val (.int (4 : Int32)), .val (.long (0 : Int64)), .second, .val (.int (0 : Int32)), .val (.ref b151), .unset] (hb hby at_325) rfl rfl rfl ?_
      refine g_aload X152 hx 329 (hb hby at_327) rfl rfl rfl ?_
      refine g_aload X152 hx 331 (hb hby at_329) rfl rfl rfl ?_
      refine g_iload X152 hx 333 (hb hby at_331) rfl rfl ?_
      refine g_callV X152 hx 336 hZ hown (own_w hw 19 rfl) (own_w hw 20 rfl) (own_w hw 22 rfl) (own_w hw 21 rfl) (own_w hw 12 rfl) (own_w hw 23 rfl) (by decide) b151 E_b151 [(.ref b1), (.int (4 : Int32))] [] (rm5_4_4 l Z a0 hw b151 b1 (nar .char z2) (nar .char z4) (nar .char z6) (nar .char z8) (nar .char z10) kl1 _ _ _ _ _ h151 n0 Z151 G_b151 E_b151 F_b151_decimalSum F_b151_integerRadix F_b151_integerKind F_b151_value F_b151_realRead V_b1 (Ne.symm ne_b1_b151) hc150) e152 0 (by decide) (by decide) (by decide) (by decide) (by rw [hml]; rfl) (lenOf own_pd3 rfl) (hb hby at_333) rfl (Nat.le_of_eq rfl) rfl (fun v153 T153 L153 X153 hQ153 => ?_)
      obtain ⟨rfl, N153q, K153, E153x, F153_decimalSum, F153_integerRadix, F153_integerKind, F153_value, F153_realRead⟩ := hQ153
      have N153 := Fr.app N152 N153q
      have V_b1 := V_b1.keep K153 (ninS ne_b1_b151 nin0)
      have E_b151 := E_b151.keep K153
      have KK153 : Keep h0 T153.heap [] := K151.trans K153 (allS (Or.inr SZ_b151) all0)
      have Z153 := Nat.le_trans Z151 K153.1
      show Go p e below _ _ T153 (mkF m 336 #[.val (.int a), .val (.int b), .val (.int c), .val (.int d), .val (.int g), .val (.int f), .val (.ref b1), .val (.int (4 : Int32)), .val (.int (4 : Int32)), .val (.long (0 : Int64)), .second, .val (.int (0 : Int32)), .val (.ref b151), .unset] [(.int (4 : Int32))])
      refine g_istore X153 hx 338 #[.val (.int a), .val (.int b), .val (.int c), .val (.int d), .val (.int g), .val (.int f), .val (.ref b1), .val (.int (4 : Int32)), .val (.int (4 : Int32)), .val (.long (0 : Int64)), .second, .val (.int (0 : Int32)), .val (.ref b151), .val (.int (4 : Int32))] (hb hby at_336) rfl rfl ?_
      refine g_iload X153 hx 340 (hb hby at_338) rfl rfl ?_
      refine g_iload X153 hx 342 (hb hby at_340) rfl rfl ?_
      refine g_icT X153 hx 347 (hb hby at_342) (by decide) (by decide) (by decide) ?_
      refine g_aload X153 hx 349 (hb hby at_347) rfl rfl rfl ?_
      refine g_iconst X153 hx 350 (0 : Int32) (hb hby at_349) (by decide) rfl ?_
      refine g_iload X153 hx 352 (hb hby at_350) rfl rfl ?_
      refine g_iload X153 hx 354 (hb hby at_352) rfl rfl ?_
      refine g_isub X153 hx 355 (0 : Int32) (hb hby at_354) (by decide) rfl ?_
      refine g_callV X153 hx 358 hZ hown (own_w hw 27 rfl) (own_w hw 28 rfl) (own_w hw 30 rfl) (own_w hw 29 rfl) (own_w hw 12 rfl) (own_w hw 31 rfl) (by decide) b151 E_b151 [(.int (0 : Int32)), (.int (0 : Int32))] [] (rm6 l Z a0 hw b151 (0 : Int32) sd (0 : Int64) _ _ _ _ T153.heap n0 Z153 G_b151 (own_sta_keep S_sd KK153) E_b151 F153_decimalSum F153_integerRadix F153_integerKind F153_value F153_realRead) rfl 0 (by decide) (by decide) (by decide) (by decide) (by rw [hml]; rfl) (lenOf own_pd4 rfl) (hb hby at_355) rfl (Nat.le_of_eq rfl) rfl (fun v154 T154 L154 X154 hQ154 => ?_)
      obtain ⟨rfl, N154q, K154, E154x, F154_value⟩ := hQ154
      have N154 := Fr.app N153 N154q
      have V_b1 := V_b1.keep K154 (ninS ne_b1_b151 nin0)
      have E_b151 := E_b151.keep K154
      have KK154 : Keep h0 T154.heap [] := KK153.trans K154 (allS (Or.inr SZ_b151) all0)
      have Z154 := Nat.le_trans Z153 K154.1
      show Go p e below _ _ T154 (mkF m 358 #[.val (.int a), .val (.int b), .val (.int c), .val (.int d), .val (.int g), .val (.int f), .val (.ref b1), .val (.int (4 : Int32)), .val (.int (4 : Int32)), .val (.long (0 : Int64)), .second, .val (.int (0 : Int32)), .val (.ref b151), .val (.int (4 : Int32))] [])
      refine g_aload X154 hx 360 (hb hby at_358) rfl rfl rfl ?_
      refine g_callV X154 hx 363 hZ hown (own_w hw 43 rfl) (own_w hw 44 rfl) (own_w hw 46 rfl) (own_w hw 45 rfl) (own_w hw 12 rfl) (own_w hw 47 rfl) (by decide) b151 E_b151 [] [] (rm7 l Z a0 hw b151 (-(0 : Int64)) T154.heap n0 Z154 F154_value) rfl 0 (by decide) (by decide) (by decide) (by decide) (by rw [hml]; rfl) (lenOf own_pd5 rfl) (hb hby at_360) rfl (Nat.le_of_eq rfl) rfl (fun v155 T155 L155 X155 hQ155 => ?_)
      obtain ⟨rfl, N155q, e155⟩ := hQ155
      have N155 := Fr.app N154 N155q
      show Go p e below _ _ T155 (mkF m 363 #[.val (.int a), .val (.int b), .val (.int c), .val (.int d), .val (.int g), .val (.int f), .val (.ref b1), .val (.int (4 : Int32)), .val (.int (4 : Int32)), .val (.long (0 : Int64)), .second, .val (.int (0 : Int32)), .val (.ref b151), .val (.int (4 : Int32))] [(.long (-(0 : Int64)))])
      refine g_lload X155 hx 365 (hb hby at_363) rfl rfl ?_
      refine g_lcmp X155 hx 366 (hb hby at_365) rfl ?_
      have hk156 : (-(0 : Int64)) = (0 : Int64) := by grind
      refine g_ifF X155 hx 369 (hb hby at_366) (own_eqL hk156).2 rfl ?_
      refine g_iconst X155 hx 370 (1 : Int32) (hb hby at_369) (by decide) rfl ?_
      refine g_goto X155 hx 374 (hb hby at_370) (by decide) (by decide) ?_
      exact g_retZ X155 hx hret hlk rfl (hb hby at_374) (by decide) (by decide) ⟨rfl, N155⟩
    · refine g_ifF X149 hx 95 (hb hby at_92) ((if0 _ _).trans (feq hc150).1) rfl ?_
      refine g_ldc2J X149 hx 98 hZ hown (own_w hw 9 rfl) (hb hby at_95) rfl ?_
      refine g_lload X149 hx 100 (hb hby at_98) rfl rfl ?_
      refine g_lmul X149 hx 101 (0 : Int64) (hb hby at_100) (by decide) rfl ?_
      refine g_aload X149 hx 103 (hb hby at_101) rfl rfl rfl ?_
      refine g_iload X149 hx 105 (hb hby at_103) rfl rfl ?_
      refine g_caload X149 hx 106 hZ e149 V_b1 ⟨by decide, by decide⟩ (show _ = (.int (nar .char z10)) from rfl) (hb hby at_105) rfl ?_
      refine g_bipush X149 hx 108 (48 : Int32) (hb hby at_106) (by decide) rfl ?_
      refine g_isub X149 hx 109 ((nar .char z10) - (48 : Int32)) (hb hby at_108) rfl rfl ?_
      refine g_i2l X149 hx 110 (((nar .char z10) - (48 : Int32)).toInt64) (hb hby at_109) rfl rfl ?_
      refine g_ladd X149 hx 111 ((0 : Int64) + (((nar .char z10) - (48 : Int32)).toInt64)) (hb hby at_110) rfl rfl ?_
      refine g_lstore X149 hx 113 #[.val (.int a), .val (.int b), .val (.int c), .val (.int d), .val (.int g), .val (.int f), .val (.ref b1), .val (.int (4 : Int32)), .val (.int (4 : Int32)), .val (.long ((0 : Int64) + (((nar .char z10) - (48 : Int32)).toInt64))), .second, .val (.int (1 : Int32)), .unset, .unset] (hb hby at_111) rfl rfl ?_
      refine g_iinc X149 hx 116 (5 : Int32) #[.val (.int a), .val (.int b), .val (.int c), .val (.int d), .val (.int g), .val (.int f), .val (.ref b1), .val (.int (4 : Int32)), .val (.int (5 : Int32)), .val (.long ((0 : Int64) + (((nar .char z10) - (48 : Int32)).toInt64))), .second, .val (.int (1 : Int32)), .unset, .unset] (hb hby at_113) rfl (by decide) rfl rfl ?_
      refine g_goto X149 hx 122 (hb hby at_116) (by decide) (by decide) ?_
      refine g_iload X149 hx 124 (hb hby at_122) rfl rfl ?_
      refine g_ifF X149 hx 127 (hb hby at_124) (by decide) rfl ?_
      refine g_iload X149 hx 129 (hb hby at_127) rfl rfl ?_
      refine g_iconst X149 hx 130 (5 : Int32) (hb hby at_129) (by decide) rfl ?_
      refine g_icT X149 hx 168 (hb hby at_130) (by decide) (by decide) (by decide) ?_
      refine g_iconst X149 hx 169 (0 : Int32) (hb hby at_168) (by decide) rfl ?_
      refine g_istore X149 hx 171 #[.val (.int a), .val (.int b), .val (.int c), .val (.int d), .val (.int g), .val (.int f), .val (.ref b1), .val (.int (4 : Int32)), .val (.int (5 : Int32)), .val (.long ((0 : Int64) + (((nar .char z10) - (48 : Int32)).toInt64))), .second, .val (.int (0 : Int32)), .unset, .unset] (hb hby at_169) rfl rfl ?_
      refine g_iload X149 hx 173 (hb hby at_171) rfl rfl ?_
      refine g_ifT X149 hx 217 (hb hby at_173) (by decide) (by decide) (by decide) ?_
      refine g_iconst X149 hx 218 (0 : Int32) (hb hby at_217) (by decide) rfl ?_
      refine g_istore X149 hx 220 #[.val (.int a), .val (.int b), .val (.int c), .val (.int d), .val (.int g), .val (.int f), .val (.ref b1), .val (.int (4 : Int32)), .val (.int (5 : Int32)), .val (.long ((0 : Int64) + (((nar .char z10) - (48 : Int32)).toInt64))), .second, .val (.int (0 : Int32)), .unset, .unset] (hb hby at_218) rfl rfl ?_
      refine g_iload X149 hx 222 (hb hby at_220) rfl rfl ?_
      refine g_ifT X149 hx 266 (hb hby at_222) (by decide) (by decide) (by decide) ?_
      refine g_iconst X149 hx 267 (0 : Int32) (hb hby at_266) (by decide) rfl ?_
      refine g_istore X149 hx 269 #[.val (.int a), .val (.int b), .val (.int c), .val (.int d), .val (.int g), .val (.int f), .val (.ref b1), .val (.int (4 : Int32)), .val (.int (5 : Int32)), .val (.long ((0 : Int64) + (((nar .char z10) - (48 : Int32)).toInt64))), .second, .val (.int (0 : Int32)), .unset, .unset] (hb hby at_267) rfl rfl ?_
      refine g_iload X149 hx 271 (hb hby at_269) rfl rfl ?_
      refine g_ifT X149 hx 315 (hb hby at_271) (by decide) (by decide) (by decide) ?_
      refine g_iconst X149 hx 316 (0 : Int32) (hb hby at_315) (by decide) rfl ?_
      refine g_istore X149 hx 318 #[.val (.int a), .val (.int b), .val (.int c), .val (.int d), .val (.int g), .val (.int f), .val (.ref b1), .val (.int (4 : Int32)), .val (.int (5 : Int32)), .val (.long ((0 : Int64) + (((nar .char z10) - (48 : Int32)).toInt64))), .second, .val (.int (0 : Int32)), .unset, .unset] (hb hby at_316) rfl rfl ?_
      refine g_new X149 hx 321 hZ hown (own_w hw 10 rfl) (own_w hw 11 rfl) (own_w hw 12 rfl) e149 (hb hby at_318) (by decide) (by decide) rfl (fun T157 h157 b157 g157 X157 e157 E157 A157 D157 => ?_)
      have ne_b1_b157 : b1 ≠ b157 := Nat.ne_of_lt (Nat.lt_of_lt_of_le V_b1.lt (Nat.le_of_eq g157.symm))
      have V_b1 := V_b1.ext E157
      have G_b157 : n0 ≤ b157 := Nat.le_trans Z12 (Nat.le_of_eq g157.symm)
      have Z157 : n0 ≤ h157.size := Nat.le_trans Z12 E157.1
      have SZ_b157 : h0.size ≤ b157 := Nat.le_trans K12.1 (Nat.le_of_eq g157.symm)
      have K157 := K12.ext E157
      have E_b157 : Exa Z h157 b157 "gleanwell/Grammar$NumberReading" := A157
      have F_b157_decimalSum : Fld Z h157 b157 "gleanwell/Grammar$NumberReading" "decimalSum" "J" (.long (0 : Int64)) := D157 (Or.inl (own_w hw 26 rfl)) (ty := .long) (by decide)
      have F_b157_integerRadix : Fld Z h157 b157 "gleanwell/Grammar$NumberReading" "integerRadix" "I" (.int (0 : Int32)) := D157 (Or.inl (own_w hw 36 rfl)) (ty := .int) (by decide)
      have F_b157_integerKind : Fld Z h157 b157 "gleanwell/Grammar$NumberReading" "integerKind" "I" (.int (0 : Int32)) := D157 (Or.inl (own_w hw 38 rfl)) (ty := .int) (by decide)
      have F_b157_value : Fld Z h157 b157 "gleanwell/Grammar$NumberReading" "value" "J" (.long (0 : Int64)) := D157 (Or.inl (own_w hw 40 rfl)) (ty := .long) (by decide)
      have F_b157_realRead : Fld Z h157 b157 "gleanwell/Grammar$NumberReading" "realRead" "Z" (.int (0 : Int32)) := D157 (Or.inl (own_w hw 42 rfl)) (ty := .boolean) (by decide)
      refine g_dup X157 hx 322 (hb hby at_321) rfl rfl ?_
      refine g_callI X157 hx 325 hZ rfl hown (own_w hw 13 rfl) (own_w hw 14 rfl) (own_w hw 12 rfl) (own_w hw 15 rfl) (by decide) b157 [] [(.ref b157)] (rm3 l Z a0 hw b157 h157 n0 Z157) e157 1 (by decide) (by decide) (by decide) (by decide) (by rw [hml]; rfl) (lenOf own_pd2 rfl) (hb hby at_322) rfl (Nat.le_of_eq rfl) rfl (fun v158 T158 L158 X158 hQ158 => ?_)
      obtain ⟨rfl, N158q, e158⟩ := hQ158
      have N158 := Fr.app N149 N158q
      show Go p e below _ _ T158 (mkF m 325 #[.val (.int a), .val (.int b), .val (.int c), .val (.int d), .val (.int g), .val (.int f), .val (.ref b1), .val (.int (4 : Int32)), .val (.int (5 : Int32)), .val (.long ((0 : Int64) + (((nar .char z10) - (48 : Int32)).toInt64))), .second, .val (.int (0 : Int32)), .unset, .unset] [(.ref b157)])
      refine g_astore X158 hx 327 #[.val (.int a), .val (.int b), .val (.int c), .val (.int d), .val (.int g), .val (.int f), .val (.ref b1), .val (.int (4 : Int32)), .val (.int (5 : Int32)), .val (.long ((0 : Int64) + (((nar .char z10) - (48 : Int32)).toInt64))), .second, .val (.int (0 : Int32)), .val (.ref b157), .unset] (hb hby at_325) rfl rfl rfl ?_
      refine g_aload X158 hx 329 (hb hby at_327) rfl rfl rfl ?_
      refine g_aload X158 hx 331 (hb hby at_329) rfl rfl rfl ?_
      refine g_iload X158 hx 333 (hb hby at_331) rfl rfl ?_
      refine g_callV X158 hx 336 hZ hown (own_w hw 19 rfl) (own_w hw 20 rfl) (own_w hw 22 rfl) (own_w hw 21 rfl) (own_w hw 12 rfl) (own_w hw 23 rfl) (by decide) b157 E_b157 [(.ref b1), (.int (4 : Int32))] [] (rm5_4_5 l Z a0 hw b157 b1 (nar .char z2) (nar .char z4) (nar .char z6) (nar .char z8) (nar .char z10) kl1 _ _ _ _ _ h157 n0 Z157 G_b157 E_b157 F_b157_decimalSum F_b157_integerRadix F_b157_integerKind F_b157_value F_b157_realRead V_b1 (Ne.symm ne_b1_b157) hc150) e158 0 (by decide) (by decide) (by decide) (by decide) (by rw [hml]; rfl) (lenOf own_pd3 rfl) (hb hby at_333) rfl (Nat.le_of_eq rfl) rfl (fun v159 T159 L159 X159 hQ159 => ?_)
      obtain ⟨rfl, N159q, K159, E159x, F159_decimalSum, F159_integerRadix, F159_integerKind, F159_value, F159_realRead⟩ := hQ159
      have N159 := Fr.app N158 N159q
      have V_b1 := V_b1.keep K159 (ninS ne_b1_b157 nin0)
      have E_b157 := E_b157.keep K159
      have KK159 : Keep h0 T159.heap [] := K157.trans K159 (allS (Or.inr SZ_b157) all0)
      have Z159 := Nat.le_trans Z157 K159.1
      show Go p e below _ _ T159 (mkF m 336 #[.val (.int a), .val (.int b), .val (.int c), .val (.int d), .val (.int g), .val (.int f), .val (.ref b1), .val (.int (4 : Int32)), .val (.int (5 : Int32)), .val (.long ((0 : Int64) + (((nar .char z10) - (48 : Int32)).toInt64))), .second, .val (.int (0 : Int32)), .val (.ref b157), .unset] [(.int (5 : Int32))])
      refine g_istore X159 hx 338 #[.val (.int a), .val (.int b), .val (.int c), .val (.int d), .val (.int g), .val (.int f), .val (.ref b1), .val (.int (4 : Int32)), .val (.int (5 : Int32)), .val (.long ((0 : Int64) + (((nar .char z10) - (48 : Int32)).toInt64))), .second, .val (.int (0 : Int32)), .val (.ref b157), .val (.int (5 : Int32))] (hb hby at_336) rfl rfl ?_
      refine g_iload X159 hx 340 (hb hby at_338) rfl rfl ?_
      refine g_iload X159 hx 342 (hb hby at_340) rfl rfl ?_
      refine g_icT X159 hx 347 (hb hby at_342) (by decide) (by decide) (by decide) ?_
      refine g_aload X159 hx 349 (hb hby at_347) rfl rfl rfl ?_
      refine g_iconst X159 hx 350 (0 : Int32) (hb hby at_349) (by decide) rfl ?_
      refine g_iload X159 hx 352 (hb hby at_350) rfl rfl ?_
      refine g_iload X159 hx 354 (hb hby at_352) rfl rfl ?_
      refine g_isub X159 hx 355 (1 : Int32) (hb hby at_354) (by decide) rfl ?_
      refine g_callV X159 hx 358 hZ hown (own_w hw 27 rfl) (own_w hw 28 rfl) (own_w hw 30 rfl) (own_w hw 29 rfl) (own_w hw 12 rfl) (own_w hw 31 rfl) (by decide) b157 E_b157 [(.int (0 : Int32)), (.int (1 : Int32))] [] (rm6 l Z a0 hw b157 (1 : Int32) sd ((0 : Int64) - ((nar .char z10) - (48 : Int32)).toInt64) _ _ _ _ T159.heap n0 Z159 G_b157 (own_sta_keep S_sd KK159) E_b157 F159_decimalSum F159_integerRadix F159_integerKind F159_value F159_realRead) rfl 0 (by decide) (by decide) (by decide) (by decide) (by rw [hml]; rfl) (lenOf own_pd4 rfl) (hb hby at_355) rfl (Nat.le_of_eq rfl) rfl (fun v160 T160 L160 X160 hQ160 => ?_)
      obtain ⟨rfl, N160q, K160, E160x, F160_value⟩ := hQ160
      have N160 := Fr.app N159 N160q
      have V_b1 := V_b1.keep K160 (ninS ne_b1_b157 nin0)
      have E_b157 := E_b157.keep K160
      have KK160 : Keep h0 T160.heap [] := KK159.trans K160 (allS (Or.inr SZ_b157) all0)
      have Z160 := Nat.le_trans Z159 K160.1
      show Go p e below _ _ T160 (mkF m 358 #[.val (.int a), .val (.int b), .val (.int c), .val (.int d), .val (.int g), .val (.int f), .val (.ref b1), .val (.int (4 : Int32)), .val (.int (5 : Int32)), .val (.long ((0 : Int64) + (((nar .char z10) - (48 : Int32)).toInt64))), .second, .val (.int (0 : Int32)), .val (.ref b157), .val (.int (5 : Int32))] [])
      refine g_aload X160 hx 360 (hb hby at_358) rfl rfl rfl ?_
      refine g_callV X160 hx 363 hZ hown (own_w hw 43 rfl) (own_w hw 44 rfl) (own_w hw 46 rfl) (own_w hw 45 rfl) (own_w hw 12 rfl) (own_w hw 47 rfl) (by decide) b157 E_b157 [] [] (rm7 l Z a0 hw b157 (-((0 : Int64) - ((nar .char z10) - (48 : Int32)).toInt64)) T160.heap n0 Z160 F160_value) rfl 0 (by decide) (by decide) (by decide) (by decide) (by rw [hml]; rfl) (lenOf own_pd5 rfl) (hb hby at_360) rfl (Nat.le_of_eq rfl) rfl (fun v161 T161 L161 X161 hQ161 => ?_)
      obtain ⟨rfl, N161q, e161⟩ := hQ161
      have N161 := Fr.app N160 N161q
      show Go p e below _ _ T161 (mkF m 363 #[.val (.int a), .val (.int b), .val (.int c), .val (.int d), .val (.int g), .val (.int f), .val (.ref b1), .val (.int (4 : Int32)), .val (.int (5 : Int32)), .val (.long ((0 : Int64) + (((nar .char z10) - (48 : Int32)).toInt64))), .second, .val (.int (0 : Int32)), .val (.ref b157), .val (.int (5 : Int32))] [(.long (-((0 : Int64) - ((nar .char z10) - (48 : Int32)).toInt64)))])
      refine g_lload X161 hx 365 (hb hby at_363) rfl rfl ?_
      refine g_lcmp X161 hx 366 (hb hby at_365) rfl ?_
      have hk162 : (-((0 : Int64) - ((nar .char z10) - (48 : Int32)).toInt64)) = ((0 : Int64) + (((nar .char z10) - (48 : Int32)).toInt64)) := by grind
      refine g_ifF X161 hx 369 (hb hby at_366) (own_eqL hk162).2 rfl ?_
      refine g_iconst X161 hx 370 (1 : Int32) (hb hby at_369) (by decide) rfl ?_
      refine g_goto X161 hx 374 (hb hby at_370) (by decide) (by decide) ?_
      exact g_retZ X161 hx hret hlk rfl (hb hby at_374) (by decide) (by decide) ⟨rfl, N161⟩
  · refine g_istore X12 hx 63 #[.val (.int a), .val (.int b), .val (.int c), .val (.int d), .val (.int g), .val (.int f), .val (.ref b1), .val (.int (5 : Int32)), .unset, .unset, .unset, .unset, .unset, .unset] (hb hby at_61) rfl rfl ?_
    refine g_iload X12 hx 65 (hb hby at_63) rfl rfl ?_
    refine g_istore X12 hx 67 #[.val (.int a), .val (.int b), .val (.int c), .val (.int d), .val (.int g), .val (.int f), .val (.ref b1), .val (.int (5 : Int32)), .val (.int (5 : Int32)), .unset, .unset, .unset, .unset, .unset] (hb hby at_65) rfl rfl ?_
    refine g_lconst X12 hx 68 (0 : Int64) (hb hby at_67) (by decide) rfl ?_
    refine g_lstore X12 hx 70 #[.val (.int a), .val (.int b), .val (.int c), .val (.int d), .val (.int g), .val (.int f), .val (.ref b1), .val (.int (5 : Int32)), .val (.int (5 : Int32)), .val (.long (0 : Int64)), .second, .unset, .unset, .unset] (hb hby at_68) rfl rfl ?_
    refine g_iconst X12 hx 71 (1 : Int32) (hb hby at_70) (by decide) rfl ?_
    refine g_istore X12 hx 73 #[.val (.int a), .val (.int b), .val (.int c), .val (.int d), .val (.int g), .val (.int f), .val (.ref b1), .val (.int (5 : Int32)), .val (.int (5 : Int32)), .val (.long (0 : Int64)), .second, .val (.int (1 : Int32)), .unset, .unset] (hb hby at_71) rfl rfl ?_
    refine g_iload X12 hx 75 (hb hby at_73) rfl rfl ?_
    refine g_ifF X12 hx 78 (hb hby at_75) (by decide) rfl ?_
    refine g_iload X12 hx 80 (hb hby at_78) rfl rfl ?_
    refine g_iconst X12 hx 81 (5 : Int32) (hb hby at_80) (by decide) rfl ?_
    refine g_icT X12 hx 119 (hb hby at_81) (by decide) (by decide) (by decide) ?_
    refine g_iconst X12 hx 120 (0 : Int32) (hb hby at_119) (by decide) rfl ?_
    refine g_istore X12 hx 122 #[.val (.int a), .val (.int b), .val (.int c), .val (.int d), .val (.int g), .val (.int f), .val (.ref b1), .val (.int (5 : Int32)), .val (.int (5 : Int32)), .val (.long (0 : Int64)), .second, .val (.int (0 : Int32)), .unset, .unset] (hb hby at_120) rfl rfl ?_
    refine g_iload X12 hx 124 (hb hby at_122) rfl rfl ?_
    refine g_ifT X12 hx 168 (hb hby at_124) (by decide) (by decide) (by decide) ?_
    refine g_iconst X12 hx 169 (0 : Int32) (hb hby at_168) (by decide) rfl ?_
    refine g_istore X12 hx 171 #[.val (.int a), .val (.int b), .val (.int c), .val (.int d), .val (.int g), .val (.int f), .val (.ref b1), .val (.int (5 : Int32)), .val (.int (5 : Int32)), .val (.long (0 : Int64)), .second, .val (.int (0 : Int32)), .unset, .unset] (hb hby at_169) rfl rfl ?_
    refine g_iload X12 hx 173 (hb hby at_171) rfl rfl ?_
    refine g_ifT X12 hx 217 (hb hby at_173) (by decide) (by decide) (by decide) ?_
    refine g_iconst X12 hx 218 (0 : Int32) (hb hby at_217) (by decide) rfl ?_
    refine g_istore X12 hx 220 #[.val (.int a), .val (.int b), .val (.int c), .val (.int d), .val (.int g), .val (.int f), .val (.ref b1), .val (.int (5 : Int32)), .val (.int (5 : Int32)), .val (.long (0 : Int64)), .second, .val (.int (0 : Int32)), .unset, .unset] (hb hby at_218) rfl rfl ?_
    refine g_iload X12 hx 222 (hb hby at_220) rfl rfl ?_
    refine g_ifT X12 hx 266 (hb hby at_222) (by decide) (by decide) (by decide) ?_
    refine g_iconst X12 hx 267 (0 : Int32) (hb hby at_266) (by decide) rfl ?_
    refine g_istore X12 hx 269 #[.val (.int a), .val (.int b), .val (.int c), .val (.int d), .val (.int g), .val (.int f), .val (.ref b1), .val (.int (5 : Int32)), .val (.int (5 : Int32)), .val (.long (0 : Int64)), .second, .val (.int (0 : Int32)), .unset, .unset] (hb hby at_267) rfl rfl ?_
    refine g_iload X12 hx 271 (hb hby at_269) rfl rfl ?_
    refine g_ifT X12 hx 315 (hb hby at_271) (by decide) (by decide) (by decide) ?_
    refine g_iconst X12 hx 316 (0 : Int32) (hb hby at_315) (by decide) rfl ?_
    refine g_istore X12 hx 318 #[.val (.int a), .val (.int b), .val (.int c), .val (.int d), .val (.int g), .val (.int f), .val (.ref b1), .val (.int (5 : Int32)), .val (.int (5 : Int32)), .val (.long (0 : Int64)), .second, .val (.int (0 : Int32)), .unset, .unset] (hb hby at_316) rfl rfl ?_
    refine g_new X12 hx 321 hZ hown (own_w hw 10 rfl) (own_w hw 11 rfl) (own_w hw 12 rfl) e12 (hb hby at_318) (by decide) (by decide) rfl (fun T163 h163 b163 g163 X163 e163 E163 A163 D163 => ?_)
    have ne_b1_b163 : b1 ≠ b163 := Nat.ne_of_lt (Nat.lt_of_lt_of_le V_b1.lt (Nat.le_of_eq g163.symm))
    have V_b1 := V_b1.ext E163
    have G_b163 : n0 ≤ b163 := Nat.le_trans Z12 (Nat.le_of_eq g163.symm)
    have Z163 : n0 ≤ h163.size := Nat.le_trans Z12 E163.1
    have SZ_b163 : h0.size ≤ b163 := Nat.le_trans K12.1 (Nat.le_of_eq g163.symm)
    have K163 := K12.ext E163
    have E_b163 : Exa Z h163 b163 "gleanwell/Grammar$NumberReading" := A163
    have F_b163_decimalSum : Fld Z h163 b163 "gleanwell/Grammar$NumberReading" "decimalSum" "J" (.long (0 : Int64)) := D163 (Or.inl (own_w hw 26 rfl)) (ty := .long) (by decide)
    have F_b163_integerRadix : Fld Z h163 b163 "gleanwell/Grammar$NumberReading" "integerRadix" "I" (.int (0 : Int32)) := D163 (Or.inl (own_w hw 36 rfl)) (ty := .int) (by decide)
    have F_b163_integerKind : Fld Z h163 b163 "gleanwell/Grammar$NumberReading" "integerKind" "I" (.int (0 : Int32)) := D163 (Or.inl (own_w hw 38 rfl)) (ty := .int) (by decide)
    have F_b163_value : Fld Z h163 b163 "gleanwell/Grammar$NumberReading" "value" "J" (.long (0 : Int64)) := D163 (Or.inl (own_w hw 40 rfl)) (ty := .long) (by decide)
    have F_b163_realRead : Fld Z h163 b163 "gleanwell/Grammar$NumberReading" "realRead" "Z" (.int (0 : Int32)) := D163 (Or.inl (own_w hw 42 rfl)) (ty := .boolean) (by decide)
    refine g_dup X163 hx 322 (hb hby at_321) rfl rfl ?_
    refine g_callI X163 hx 325 hZ rfl hown (own_w hw 13 rfl) (own_w hw 14 rfl) (own_w hw 12 rfl) (own_w hw 15 rfl) (by decide) b163 [] [(.ref b163)] (rm3 l Z a0 hw b163 h163 n0 Z163) e163 1 (by decide) (by decide) (by decide) (by decide) (by rw [hml]; rfl) (lenOf own_pd2 rfl) (hb hby at_322) rfl (Nat.le_of_eq rfl) rfl (fun v164 T164 L164 X164 hQ164 => ?_)
    obtain ⟨rfl, N164q, e164⟩ := hQ164
    have N164 := Fr.app N12 N164q
    show Go p e below _ _ T164 (mkF m 325 #[.val (.int a), .val (.int b), .val (.int c), .val (.int d), .val (.int g), .val (.int f), .val (.ref b1), .val (.int (5 : Int32)), .val (.int (5 : Int32)), .val (.long (0 : Int64)), .second, .val (.int (0 : Int32)), .unset, .unset] [(.ref b163)])
    refine g_astore X164 hx 327 #[.val (.int a), .val (.int b), .val (.int c), .val (.int d), .val (.int g), .val (.int f), .val (.ref b1), .val (.int (5 : Int32)), .val (.int (5 : Int32)), .val (.long (0 : Int64)), .second, .val (.int (0 : Int32)), .val (.ref b163), .unset] (hb hby at_325) rfl rfl rfl ?_
    refine g_aload X164 hx 329 (hb hby at_327) rfl rfl rfl ?_
    refine g_aload X164 hx 331 (hb hby at_329) rfl rfl rfl ?_
    refine g_iload X164 hx 333 (hb hby at_331) rfl rfl ?_
    refine g_callV X164 hx 336 hZ hown (own_w hw 19 rfl) (own_w hw 20 rfl) (own_w hw 22 rfl) (own_w hw 21 rfl) (own_w hw 12 rfl) (own_w hw 23 rfl) (by decide) b163 E_b163 [(.ref b1), (.int (5 : Int32))] [] (rm5_5_5 l Z a0 hw b163 b1 (nar .char z2) (nar .char z4) (nar .char z6) (nar .char z8) (nar .char z10) kl1 _ _ _ _ _ h163 n0 Z163 G_b163 E_b163 F_b163_decimalSum F_b163_integerRadix F_b163_integerKind F_b163_value F_b163_realRead V_b1 (Ne.symm ne_b1_b163) ) e164 0 (by decide) (by decide) (by decide) (by decide) (by rw [hml]; rfl) (lenOf own_pd3 rfl) (hb hby at_333) rfl (Nat.le_of_eq rfl) rfl (fun v165 T165 L165 X165 hQ165 => ?_)
    obtain ⟨rfl, N165q, K165, E165x, F165_decimalSum, F165_integerRadix, F165_integerKind, F165_value, F165_realRead⟩ := hQ165
    have N165 := Fr.app N164 N165q
    have V_b1 := V_b1.keep K165 (ninS ne_b1_b163 nin0)
    have E_b163 := E_b163.keep K165
    have KK165 : Keep h0 T165.heap [] := K163.trans K165 (allS (Or.inr SZ_b163) all0)
    have Z165 := Nat.le_trans Z163 K165.1
    show Go p e below _ _ T165 (mkF m 336 #[.val (.int a), .val (.int b), .val (.int c), .val (.int d), .val (.int g), .val (.int f), .val (.ref b1), .val (.int (5 : Int32)), .val (.int (5 : Int32)), .val (.long (0 : Int64)), .second, .val (.int (0 : Int32)), .val (.ref b163), .unset] [(.int (5 : Int32))])
    refine g_istore X165 hx 338 #[.val (.int a), .val (.int b), .val (.int c), .val (.int d), .val (.int g), .val (.int f), .val (.ref b1), .val (.int (5 : Int32)), .val (.int (5 : Int32)), .val (.long (0 : Int64)), .second, .val (.int (0 : Int32)), .val (.ref b163), .val (.int (5 : Int32))] (hb hby at_336) rfl rfl ?_
    refine g_iload X165 hx 340 (hb hby at_338) rfl rfl ?_
    refine g_iload X165 hx 342 (hb hby at_340) rfl rfl ?_
    refine g_icT X165 hx 347 (hb hby at_342) (by decide) (by decide) (by decide) ?_
    refine g_aload X165 hx 349 (hb hby at_347) rfl rfl rfl ?_
    refine g_iconst X165 hx 350 (0 : Int32) (hb hby at_349) (by decide) rfl ?_
    refine g_iload X165 hx 352 (hb hby at_350) rfl rfl ?_
    refine g_iload X165 hx 354 (hb hby at_352) rfl rfl ?_
    refine g_isub X165 hx 355 (0 : Int32) (hb hby at_354) (by decide) rfl ?_
    refine g_callV X165 hx 358 hZ hown (own_w hw 27 rfl) (own_w hw 28 rfl) (own_w hw 30 rfl) (own_w hw 29 rfl) (own_w hw 12 rfl) (own_w hw 31 rfl) (by decide) b163 E_b163 [(.int (0 : Int32)), (.int (0 : Int32))] [] (rm6 l Z a0 hw b163 (0 : Int32) sd (0 : Int64) _ _ _ _ T165.heap n0 Z165 G_b163 (own_sta_keep S_sd KK165) E_b163 F165_decimalSum F165_integerRadix F165_integerKind F165_value F165_realRead) rfl 0 (by decide) (by decide) (by decide) (by decide) (by rw [hml]; rfl) (lenOf own_pd4 rfl) (hb hby at_355) rfl (Nat.le_of_eq rfl) rfl (fun v166 T166 L166 X166 hQ166 => ?_)
    obtain ⟨rfl, N166q, K166, E166x, F166_value⟩ := hQ166
    have N166 := Fr.app N165 N166q
    have V_b1 := V_b1.keep K166 (ninS ne_b1_b163 nin0)
    have E_b163 := E_b163.keep K166
    have KK166 : Keep h0 T166.heap [] := KK165.trans K166 (allS (Or.inr SZ_b163) all0)
    have Z166 := Nat.le_trans Z165 K166.1
    show Go p e below _ _ T166 (mkF m 358 #[.val (.int a), .val (.int b), .val (.int c), .val (.int d), .val (.int g), .val (.int f), .val (.ref b1), .val (.int (5 : Int32)), .val (.int (5 : Int32)), .val (.long (0 : Int64)), .second, .val (.int (0 : Int32)), .val (.ref b163), .val (.int (5 : Int32))] [])
    refine g_aload X166 hx 360 (hb hby at_358) rfl rfl rfl ?_
    refine g_callV X166 hx 363 hZ hown (own_w hw 43 rfl) (own_w hw 44 rfl) (own_w hw 46 rfl) (own_w hw 45 rfl) (own_w hw 12 rfl) (own_w hw 47 rfl) (by decide) b163 E_b163 [] [] (rm7 l Z a0 hw b163 (-(0 : Int64)) T166.heap n0 Z166 F166_value) rfl 0 (by decide) (by decide) (by decide) (by decide) (by rw [hml]; rfl) (lenOf own_pd5 rfl) (hb hby at_360) rfl (Nat.le_of_eq rfl) rfl (fun v167 T167 L167 X167 hQ167 => ?_)
    obtain ⟨rfl, N167q, e167⟩ := hQ167
    have N167 := Fr.app N166 N167q
    show Go p e below _ _ T167 (mkF m 363 #[.val (.int a), .val (.int b), .val (.int c), .val (.int d), .val (.int g), .val (.int f), .val (.ref b1), .val (.int (5 : Int32)), .val (.int (5 : Int32)), .val (.long (0 : Int64)), .second, .val (.int (0 : Int32)), .val (.ref b163), .val (.int (5 : Int32))] [(.long (-(0 : Int64)))])
    refine g_lload X167 hx 365 (hb hby at_363) rfl rfl ?_
    refine g_lcmp X167 hx 366 (hb hby at_365) rfl ?_
    have hk168 : (-(0 : Int64)) = (0 : Int64) := by grind
    refine g_ifF X167 hx 369 (hb hby at_366) (own_eqL hk168).2 rfl ?_
    refine g_iconst X167 hx 370 (1 : Int32) (hb hby at_369) (by decide) rfl ?_
    refine g_goto X167 hx 374 (hb hby at_370) (by decide) (by decide) ?_
    exact g_retZ X167 hx hret hlk rfl (hb hby at_374) (by decide) (by decide) ⟨rfl, N167⟩
set_option maxRecDepth 65536 in
set_option maxHeartbeats 40000000 in
theorem comes_1 {Post : Tables → Env → Array Value → State → Outcome → State → Prop} (hpost : ∀ tb e args s v u, (limb_1_1.after args s (.returned v) u = true ∧ limb_1_2.after args s (.returned v) u = true ∧ True) → FrameEnd s (.returned v) u (Jvm.fieldLocs frame_1_writes args s ++ Jvm.arrayLocs frame_1_arrays args s ++ Jvm.staticLocs frame_1_statics s) 16 128 → Post tb e args s (.returned v) u) :
    ArmFor flags0 classFile x code maxLocals ret World_1 tables_1 room_1 Calls_1 rest_1 Pre_1 Post := by
  intro l hfl _ _ p e ha hc hk s m args below hf hA hF happ hP
  obtain ⟨hcalls, hrest, hpre⟩ := hP
  obtain ⟨-, -, -, hnamed, -, -, -, hat⟩ := (Spec.applies_iff hf).mp happ
  obtain ⟨hg, hn⟩ := and_e (Cond.before_iff.mp (show (Jvm.Cond.and given_1 narrow_1).before args s = true from hpre))
  obtain ⟨ga1, gb1⟩ := and_e hg
  obtain ⟨ga2, gb2⟩ := and_e gb1
  obtain ⟨ga3, gb3⟩ := and_e gb2
  obtain ⟨ga4, gb4⟩ := and_e gb3
  obtain ⟨ga5, gb5⟩ := and_e gb4
  obtain ⟨ga6, gb6⟩ := and_e gb5
  obtain ⟨w0, w1, w2, w3, w4, w5, rfl⟩ : ∃ w0 w1 w2 w3 w4 w5 : Value, args = #[w0, w1, w2, w3, w4, w5] := by
    have hs : args.size = 6 := by simpa [Cond.value, given_1] using ga1
    obtain ⟨L⟩ := args
    match L, hs with
    | [w0, w1, w2, w3, w4, w5], _ => exact ⟨w0, w1, w2, w3, w4, w5, rfl⟩
  have hw := fun d (hd : d ∈ tables_1) => atoms_spec (ws := Jvm.Cond.code x code maxLocals ret :: tables_1) hat d (List.mem_cons_of_mem _ hd)
  have hfit : Fit s := fun {y c} hc i hi => by
    obtain ⟨ha, rfl⟩ := Array.getElem?_eq_some_iff.mp hc
    have q := List.all_eq_true.mp ((Array.all_eq_true_iff_forall_mem.mp hF) _ (Array.getElem_mem ha)) i (List.mem_range.mpr hi)
    simpa [Array.getElem?_eq_getElem hi] using q
  obtain ⟨i0, ei0⟩ := is_v ga2
  obtain rfl : w0 = (.int i0) := Option.some.inj ei0
  obtain ⟨i1, ei1⟩ := is_v ga3
  obtain rfl : w1 = (.int i1) := Option.some.inj ei1
  obtain ⟨i2, ei2⟩ := is_v ga4
  obtain rfl : w2 = (.int i2) := Option.some.inj ei2
  obtain ⟨i3, ei3⟩ := is_v ga5
  obtain rfl : w3 = (.int i3) := Option.some.inj ei3
  obtain ⟨i4, ei4⟩ := is_v ga6
  obtain rfl : w4 = (.int i4) := Option.some.inj ei4
  obtain ⟨i5, ei5⟩ := is_v gb6
  obtain rfl : w5 = (.int i5) := Option.some.inj ei5
  have esd := own_int_v hn
  have S_sd : Sta s s.heap "gleanwell/Grammar" "SAFE_DECIMAL_DIGITS" "I" (.int 18) := Sta.start esd (Or.inr ⟨own_w hw 33 rfl, own_w hw 34 rfl⟩)
  obtain ⟨n, o, h1, h2, h3, _, L, rfl, ⟨rfl, N⟩, hq⟩ := rm0 l s _ hw i0 i1 i2 i3 i4 i5 (18 : Int32) s.heap s.heap.size (Nat.le_refl _) S_sd p e ha hc hk s m _ below hf ((Spec.applies_iff_loose hf).mp happ).1 ⟨rfl, State.Warmed39.refl s, rfl⟩ trivial
  refine ⟨n, _, h1, h2, h3, hpost _ _ _ _ _ _ ⟨Cond.after_iff.mpr rfl, Cond.after_iff.mpr (eq_i res_at (Term.int_eval (1)) rfl), trivial⟩ ⟨hq.1, hq.2.1, (hq.2.2.sift fun y hy => Or.inr (N y hy)).mono (by decide) (by decide)⟩⟩
theorem main_1_1 : Claimed_1_1 := comes_1 fun _ _ _ _ _ _ h hF => ⟨h.1, hF⟩
theorem main_1_2 : Claimed_1_2 := comes_1 fun _ _ _ _ _ _ h hF => ⟨h.2.1, hF⟩
end Jvm.Pilot.@@N@@
namespace Jvm.Pilot.@@N@@
open Jvm Jvm.ClassFile Sem Op Lib Jvm.Free Jvm.Stand Jvm.Pilot.@@N@@.Jvm.D
/-! MADE BY PROGRAM (witnessworld.py) out of the Statement's table words and the real class files: 12 classes; the members and pool entries that the words name. The judged class is class 1, her method 3. -/
namespace start1
open Jvm.ClassFile
def u (s : String) : CpInfo := .utf8 (stringToUtf16 s)
/-- a pool by its gaps: so many unusable entries, then the entry; so many at the end -/
def gap : Nat → List CpInfo → List CpInfo
  | 0, r => r
  | n + 1, r => .unusable :: gap n r
def poolList (es : List (Nat × CpInfo)) (last : Nat) : List CpInfo := es.foldr (fun e r => gap e.1 (e.2 :: r)) (gap last [])
def pool (es : List (Nat × CpInfo)) (last : Nat) : Array CpInfo := ⟨poolList es last⟩
def fileOf (pool : Array CpInfo) (this : Nat) (attrs : Array Attribute := #[]) (ms : Array MethodInfo := #[]) (fl : Nat := 33) (sup : Nat := 0) (ifs : Array Nat := #[]) (fds : Array FieldInfo := #[]) : ClassFile where
  minorVersion := 0
  majorVersion := 65
  constantPool := pool
  accessFlags := fl
  thisClass := this
  superClass := sup
  interfaces := ifs
  fields := fds
  methods := ms
  attributes := attrs
def plain (name : String) (sup : Option ClassId) : Class where
  name := name
  kind := .ordinary
  loader := none
  accessFlags := 33
  super := sup
  interfaces := #[]
  cf := none
  fields := #[]
  methods := #[]
  instanceTypes := #[]
  staticTypes := #[]
  resolved := #[]
  callSites := []
  init := .initialized
  statics := none
  mirror := none

def pool0 : Array CpInfo := pool [(5, u "<init>"), (0, u "()V"), (1, .class_ 10), (1, u "java/lang/Object")] 113

def k0c0 : Code := { maxStack := 0, maxLocals := 1, code := object_method_1_code, exceptionTable := #[], attributes := #[] }
def k0m0 : Method := { name := "<init>", desc := "()V", sig := { parameters := [], returnType := none }, accessFlags := 1, code := some k0c0 }
/-- java/lang/Object -/
def k0 : Class := { plain "java/lang/Object" none with
  accessFlags := 33
  interfaces := #[]
  cf := some (fileOf pool0 8 #[] #[{ accessFlags := 1, nameIndex := 5, descriptorIndex := 6, attributes := #[] }] 33 0 #[] #[])
  fields := #[]
  methods := #[k0m0]
  instanceTypes := #[]
  staticTypes := #[]
  resolved := Array.replicate 124 none
  statics := none }

def pool1 : Array CpInfo := pool [(2, .class_ 4), (0, .nameAndType 5 6), (0, u "java/lang/Object"), (0, u "<init>"), (0, u "()V"), (0, .methodref 8 9), (0, .class_ 10), (0, .nameAndType 11 12), (0, u "gleanwell/NumberReadingSumDecimalDigitsPinLaw"), (0, u "draw"), (0, u "(I)C"), (0, .integer 2147483647), (0, .methodref 8 15), (0, .nameAndType 16 17), (0, u "isDig"), (0, u "(C)Z"), (0, .long 10), (1, .class_ 21), (0, u "gleanwell/Grammar$NumberReading"), (0, .methodref 20 3), (0, .methodref 20 24), (0, .nameAndType 25 26), (0, u "sumDecimalDigits"), (0, u "([CI)I"), (0, .methodref 20 28), (0, .nameAndType 29 30), (0, u "keepDecimal"), (0, u "(ZI)V"), (0, .methodref 20 32), (0, .nameAndType 33 34), (0, u "integerValue"), (0, u "()J"), (3, u "law"), (0, u "(IIIIII)Z")] 8

def k1m0 : Method := { name := "<init>", desc := "()V", sig := { parameters := [], returnType := none }, accessFlags := 1, code := none }
def k1c1 : Code := { maxStack := 3, maxLocals := 1, code := method_2_code, exceptionTable := #[], attributes := #[] }
def k1m1 : Method := { name := "draw", desc := "(I)C", sig := { parameters := [.int], returnType := some .char }, accessFlags := 10, code := some k1c1 }
def k1c2 : Code := { maxStack := 2, maxLocals := 1, code := method_3_code, exceptionTable := #[], attributes := #[] }
def k1m2 : Method := { name := "isDig", desc := "(C)Z", sig := { parameters := [.char], returnType := some .boolean }, accessFlags := 10, code := some k1c2 }
def k1c3 : Code := { maxStack := 4, maxLocals := 14, code := code, exceptionTable := #[], attributes := #[] }
def k1m3 : Method := { name := "law", desc := "(IIIIII)Z", sig := { parameters := [.int, .int, .int, .int, .int, .int], returnType := some .boolean }, accessFlags := 9, code := some k1c3 }
/-- gleanwell/NumberReadingSumDecimalDigitsPinLaw -/
def k1 : Class := { plain "gleanwell/NumberReadingSumDecimalDigitsPinLaw" (some 0) with
  accessFlags := 49
  interfaces := #[]
  cf := some (fileOf pool1 8 #[] #[{ accessFlags := 1, nameIndex := 5, descriptorIndex := 6, attributes := #[] }, { accessFlags := 10, nameIndex := 11, descriptorIndex := 12, attributes := #[] }, { accessFlags := 10, nameIndex := 16, descriptorIndex := 17, attributes := #[] }, { accessFlags := 9, nameIndex := 38, descriptorIndex := 39, attributes := #[] }] 49 2 #[] #[])
  fields := #[]
  methods := #[k1m0, k1m1, k1m2, k1m3]
  instanceTypes := #[]
  staticTypes := #[]
  resolved := Array.replicate 48 none
  statics := none }

def pool2 : Array CpInfo := pool [(1, .class_ 2), (0, u "gleanwell/Grammar"), (0, .methodref 4 5), (0, .class_ 6), (0, .nameAndType 7 8), (0, u "java/lang/Object"), (0, u "<init>"), (0, u "()V"), (0, .fieldref 10 11), (0, .class_ 12), (0, .nameAndType 13 14), (0, u "gleanwell/Grammar$NumberReading"), (0, u "integerRadix"), (0, u "I"), (0, .fieldref 10 16), (0, .nameAndType 17 18), (0, u "realRead"), (0, u "Z"), (24, .fieldref 10 44), (0, .nameAndType 45 14), (0, u "integerKind"), (0, .fieldref 10 47), (0, .nameAndType 48 49), (0, u "value"), (0, u "J"), (0, .long 10), (1, .fieldref 10 53), (0, .nameAndType 54 49), (0, u "decimalSum"), (0, .fieldref 1 56), (0, .nameAndType 57 14), (0, u "SAFE_DECIMAL_DIGITS"), (57, u "scale"), (0, u "NO_INTEGER"), (2, u "LONG_INTEGER"), (1, u "BIG_INTEGER"), (9, u "sumDecimalDigits"), (0, u "([CI)I"), (0, u "keepDecimal"), (0, u "(ZI)V"), (2, u "integerValue"), (0, u "()J")] 10

def k2c0 : Code := { maxStack := 1, maxLocals := 1, code := prog_28_method_1_code, exceptionTable := #[], attributes := #[] }
def k2m0 : Method := { name := "<init>", desc := "()V", sig := { parameters := [], returnType := none }, accessFlags := 0, code := some k2c0 }
def k2c1 : Code := { maxStack := 4, maxLocals := 8, code := prog_28_method_5_code, exceptionTable := #[], attributes := #[] }
def k2m1 : Method := { name := "sumDecimalDigits", desc := "([CI)I", sig := { parameters := [(.array .char), .int], returnType := some .int }, accessFlags := 0, code := some k2c1 }
def k2c2 : Code := { maxStack := 3, maxLocals := 3, code := prog_28_method_6_code, exceptionTable := #[], attributes := #[] }
def k2m2 : Method := { name := "keepDecimal", desc := "(ZI)V", sig := { parameters := [.boolean, .int], returnType := none }, accessFlags := 0, code := some k2c2 }
def k2c3 : Code := { maxStack := 2, maxLocals := 1, code := prog_28_method_9_code, exceptionTable := #[], attributes := #[] }
def k2m3 : Method := { name := "integerValue", desc := "()J", sig := { parameters := [], returnType := some .long }, accessFlags := 0, code := some k2c3 }
/-- gleanwell/Grammar$NumberReading -/
def k2 : Class := { plain "gleanwell/Grammar$NumberReading" (some 0) with
  accessFlags := 48
  interfaces := #[]
  cf := some (fileOf pool2 10 #[.nestHost 1] #[{ accessFlags := 0, nameIndex := 7, descriptorIndex := 8, attributes := #[] }, { accessFlags := 0, nameIndex := 131, descriptorIndex := 132, attributes := #[] }, { accessFlags := 0, nameIndex := 133, descriptorIndex := 134, attributes := #[] }, { accessFlags := 0, nameIndex := 137, descriptorIndex := 138, attributes := #[] }] 48 4 #[] #[{ accessFlags := 26, nameIndex := 116, descriptorIndex := 14, attributes := #[] }, { accessFlags := 26, nameIndex := 119, descriptorIndex := 14, attributes := #[] }, { accessFlags := 26, nameIndex := 121, descriptorIndex := 14, attributes := #[] }, { accessFlags := 2, nameIndex := 13, descriptorIndex := 14, attributes := #[] }, { accessFlags := 2, nameIndex := 45, descriptorIndex := 14, attributes := #[] }, { accessFlags := 2, nameIndex := 48, descriptorIndex := 49, attributes := #[] }, { accessFlags := 2, nameIndex := 17, descriptorIndex := 18, attributes := #[] }, { accessFlags := 2, nameIndex := 115, descriptorIndex := 49, attributes := #[] }, { accessFlags := 2, nameIndex := 54, descriptorIndex := 49, attributes := #[] }])
  fields := #[{ name := "NO_INTEGER", type := .int, accessFlags := 26, slot := 0, constantValue := 0 }, { name := "LONG_INTEGER", type := .int, accessFlags := 26, slot := 1, constantValue := 0 }, { name := "BIG_INTEGER", type := .int, accessFlags := 26, slot := 2, constantValue := 0 }, { name := "integerRadix", type := .int, accessFlags := 2, slot := 0, constantValue := 0 }, { name := "integerKind", type := .int, accessFlags := 2, slot := 1, constantValue := 0 }, { name := "value", type := .long, accessFlags := 2, slot := 2, constantValue := 0 }, { name := "realRead", type := .boolean, accessFlags := 2, slot := 3, constantValue := 0 }, { name := "scale", type := .long, accessFlags := 2, slot := 4, constantValue := 0 }, { name := "decimalSum", type := .long, accessFlags := 2, slot := 5, constantValue := 0 }]
  methods := #[k2m0, k2m1, k2m2, k2m3]
  instanceTypes := #[.int, .int, .long, .boolean, .long, .long]
  staticTypes := #[.int, .int, .int]
  resolved := Array.replicate 149 none
  statics := none }

def pool3 : Array CpInfo := pool [(6, .class_ 8), (1, u "java/lang/Object"), (0, u "<init>"), (0, u "()V"), (3, .class_ 16), (1, u "gleanwell/Grammar"), (55, u "NAN"), (0, u "[C"), (8, u "INFINITY"), (13, u "SAFE_DIGITS"), (0, u "[I"), (28, u "SAFE_DECIMAL_DIGITS"), (0, u "I"), (6, u "EXACT_POWERS_OF_TEN"), (0, u "[D"), (0, u "GROUPING_MARK"), (0, u "C"), (2, u "NOT_FINITE"), (0, u "J"), (0, u "BEYOND_EXPONENT"), (0, u "BEYOND_LIMIT"), (2, u "NOT_DIGITS"), (0, u "NOT_A_DIGIT"), (1, u "MAX_EXACT_INTEGER"), (2, u "MAX_EXACT_POWER"), (25, .class_ 179), (0, u "gleanwell/Grammar$NumberReading"), (0, .class_ 181), (0, u "gleanwell/Grammar$Width"), (0, .class_ 183), (0, u "gleanwell/Grammar$Width$3"), (0, .class_ 185), (0, u "gleanwell/Grammar$Width$2"), (0, .class_ 187), (0, u "gleanwell/Grammar$Width$1")] 3

def k3m0 : Method := { name := "<init>", desc := "()V", sig := { parameters := [], returnType := none }, accessFlags := 2, code := none }
/-- gleanwell/Grammar -/
def k3 : Class := { plain "gleanwell/Grammar" (some 0) with
  accessFlags := 48
  interfaces := #[]
  cf := some (fileOf pool3 14 #[.nestMembers #[178, 180, 182, 184, 186]] #[{ accessFlags := 2, nameIndex := 9, descriptorIndex := 10, attributes := #[] }] 48 6 #[] #[{ accessFlags := 26, nameIndex := 136, descriptorIndex := 137, attributes := #[] }, { accessFlags := 26, nameIndex := 140, descriptorIndex := 141, attributes := #[] }, { accessFlags := 26, nameIndex := 142, descriptorIndex := 141, attributes := #[] }, { accessFlags := 26, nameIndex := 72, descriptorIndex := 73, attributes := #[] }, { accessFlags := 26, nameIndex := 82, descriptorIndex := 73, attributes := #[] }, { accessFlags := 26, nameIndex := 143, descriptorIndex := 141, attributes := #[] }, { accessFlags := 26, nameIndex := 146, descriptorIndex := 141, attributes := #[] }, { accessFlags := 26, nameIndex := 96, descriptorIndex := 97, attributes := #[] }, { accessFlags := 26, nameIndex := 126, descriptorIndex := 127, attributes := #[] }, { accessFlags := 26, nameIndex := 147, descriptorIndex := 127, attributes := #[] }, { accessFlags := 26, nameIndex := 149, descriptorIndex := 141, attributes := #[] }, { accessFlags := 26, nameIndex := 152, descriptorIndex := 127, attributes := #[] }, { accessFlags := 26, nameIndex := 134, descriptorIndex := 135, attributes := #[] }])
  fields := #[{ name := "GROUPING_MARK", type := .char, accessFlags := 26, slot := 0, constantValue := 0 }, { name := "NOT_FINITE", type := .long, accessFlags := 26, slot := 1, constantValue := 0 }, { name := "BEYOND_EXPONENT", type := .long, accessFlags := 26, slot := 2, constantValue := 0 }, { name := "NAN", type := (.array .char), accessFlags := 26, slot := 3, constantValue := 0 }, { name := "INFINITY", type := (.array .char), accessFlags := 26, slot := 4, constantValue := 0 }, { name := "BEYOND_LIMIT", type := .long, accessFlags := 26, slot := 5, constantValue := 0 }, { name := "NOT_DIGITS", type := .long, accessFlags := 26, slot := 6, constantValue := 0 }, { name := "SAFE_DIGITS", type := (.array .int), accessFlags := 26, slot := 7, constantValue := 0 }, { name := "SAFE_DECIMAL_DIGITS", type := .int, accessFlags := 26, slot := 8, constantValue := 0 }, { name := "NOT_A_DIGIT", type := .int, accessFlags := 26, slot := 9, constantValue := 0 }, { name := "MAX_EXACT_INTEGER", type := .long, accessFlags := 26, slot := 10, constantValue := 0 }, { name := "MAX_EXACT_POWER", type := .int, accessFlags := 26, slot := 11, constantValue := 0 }, { name := "EXACT_POWERS_OF_TEN", type := (.array .double), accessFlags := 26, slot := 12, constantValue := 0 }]
  methods := #[k3m0]
  instanceTypes := #[]
  staticTypes := #[.char, .long, .long, (.array .char), (.array .char), .long, .long, (.array .int), .int, .int, .long, .int, (.array .double)]
  resolved := Array.replicate 191 none
  statics := some 0 }

def pool4 : Array CpInfo := pool [(1, u "java/lang/Cloneable"), (0, .class_ 1), (0, u "java/lang/Object"), (0, .class_ 3)] 3

/-- java/lang/Cloneable -/
def k4 : Class := { plain "java/lang/Cloneable" (some 0) with
  accessFlags := 1537
  interfaces := #[]
  cf := some (fileOf pool4 2 #[] #[] 1537 4 #[] #[])
  fields := #[]
  methods := #[]
  instanceTypes := #[]
  staticTypes := #[]
  resolved := Array.replicate 8 none
  statics := none }

def pool5 : Array CpInfo := pool [(1, u "java/io/Serializable"), (0, .class_ 1), (0, u "java/lang/Object"), (0, .class_ 3)] 3

/-- java/io/Serializable -/
def k5 : Class := { plain "java/io/Serializable" (some 0) with
  accessFlags := 1537
  interfaces := #[]
  cf := some (fileOf pool5 2 #[] #[] 1537 4 #[] #[])
  fields := #[]
  methods := #[]
  instanceTypes := #[]
  staticTypes := #[]
  resolved := Array.replicate 8 none
  statics := none }

/-- the primitive byte -/
def k6 : Class := { plain "byte" none with kind := .primitive 'B', accessFlags := 0x411 }
/-- [B -/
def k7 : Class := { plain "[B" (some 0) with kind := .array 6 .byte, interfaces := #[4, 5], accessFlags := 1041 }

/-- the primitive char -/
def k8 : Class := { plain "char" none with kind := .primitive 'C', accessFlags := 0x411 }
/-- [C -/
def k9 : Class := { plain "[C" (some 0) with kind := .array 8 .char, interfaces := #[4, 5], accessFlags := 1041 }

/-- the primitive int -/
def k10 : Class := { plain "int" none with kind := .primitive 'I', accessFlags := 0x411 }
/-- [I -/
def k11 : Class := { plain "[I" (some 0) with kind := .array 10 .int, interfaces := #[4, 5], accessFlags := 1041 }

def heap : Heap := #[{ cls := 3, slots := #[.int 0, .long 0, .long 0, .null, .null, .long 0, .long 0, .null, .int 18, .int 0, .long 0, .int 0, .null], vm := .statics 3 }]
def classes : Array Class := #[k0, k1, k2, k3, k4, k5, k6, k7, k8, k9, k10, k11]
def interned : List (Array UInt16 × Addr) := []
def slotsUsed : Nat := 13
def theMethod : MethodId := ⟨1, 3⟩
def args0 : Array Value := #[.int 5, .int 9, .int 3, .int 2, .int 1, .int 4]
def aboutOver (below : List Frame) : State where
  vm := { classes := classes, interned := interned.toArray }
  heap := heap
  slotsUsed := slotsUsed
  threads := #[{ frames := .invoking theMethod args0 :: below }]
def below0 : List Frame := [.native { method := ⟨0, 0⟩, args := #[] }]
def about1 : State := aboutOver below0
def p0 : Program := .bare "" "" ""
def e0 : Env := launch0.env 0 0 0
theorem w_frames : about1.frames = Frame.invoking theMethod args0 :: below0 := rfl
set_option maxRecDepth 65536 in
theorem w_args : argsFit about1.vm theMethod args0 = true := by decide +kernel
set_option maxRecDepth 65536 in
theorem w_heap : heapFits about1 = true := by decide +kernel
set_option maxRecDepth 65536 in
theorem w_runnable : about1.curStatus? = some .runnable := by decide +kernel
set_option maxRecDepth 65536 in
theorem w_alone : about1.alone = true := by decide +kernel
set_option maxRecDepth 65536 in
theorem w_named : about1.methodNamed? x = some theMethod := by decide +kernel
set_option maxRecDepth 65536 in
theorem w_hears : about1.hears theMethod below0 = true := by decide +kernel
set_option maxRecDepth 65536 in
theorem w_ripe : about1.ripe theMethod args0 below0 = true := by decide +kernel
theorem w_running : about1.status = .running := rfl
set_option maxRecDepth 65536 in
theorem w_room : about1.hasRoom e0.platform room_1 = true :=
  launch0.hasRoom_least _ room_1 (by decide +kernel) (by decide +kernel) (by decide +kernel) (by decide +kernel) (by decide +kernel) (by decide +kernel)
theorem allAtoms_all (ts : List Jvm.Cond) (a : Array Jvm.Value) (st : Jvm.State) : (allAtoms ts).before a st = ts.all (fun c => c.before a st) := by
  induction ts with
  | nil => rfl
  | cons c t ih =>
    show (Jvm.Cond.and c (allAtoms t)).before a st = _
    rw [Jvm.Cond.before_and, ih, List.all_cons]
def words1 : List Jvm.Cond := Jvm.Cond.code x code maxLocals ret :: tables_1
/-- a 'code' word, met by the world's own term for the bytes: nothing is compared byte by byte -/
theorem code_word {y : MethodName} {bytes : ByteArray} {mx : Nat} {rt : Option FieldType} {a : Array Value} {s : State} {m : MethodId} {meth : Method} {c : Code} (h1 : s.methodNamed? y = some m) (h2 : s.vm.method? m = some meth) (h3 : meth.code = some c) (h4 : c.code = bytes)
    (h5 : (c.maxLocals == mx && c.exceptionTable.isEmpty && decide (c.maxStack ≤ mostOperands) && decide (meth.sig.returnType = rt) && !meth.locks && decide (parseMethodDescriptor y.desc = some meth.sig)) = true) : (Jvm.Cond.code y bytes mx rt).before a s = true := by
  simp only [Bool.and_eq_true, beq_iff_eq, Bool.not_eq_true', decide_eq_true_eq] at h5
  obtain ⟨⟨⟨⟨⟨g1, g2⟩, g3⟩, g4⟩, g5⟩, g6⟩ := h5
  simp [Cond.before, Cond.holds, Cond.value, h1, h2, h3, h4, g1, g2, g3, g4, g5, g6]
def isCode : Jvm.Cond → Bool
  | .code _ _ _ _ => true
  | _ => false
theorem all_split {L : List Jvm.Cond} {P : Jvm.Cond → Bool} (h1 : L.all (fun c => isCode c || P c) = true) (h2 : ∀ c ∈ L.filter isCode, P c = true) : L.all P = true := by
  refine List.all_eq_true.mpr fun c hc => ?_
  have h := List.all_eq_true.mp h1 c hc
  rcases Bool.eq_false_or_eq_true (isCode c) with hi | hi
  · exact h2 c (List.mem_filter.mpr ⟨hc, hi⟩)
  · simpa [hi] using h
set_option maxRecDepth 65536 in
theorem w_c0 : (Jvm.Cond.code x code maxLocals ret).before args0 about1 = true := code_word (m := ⟨1, 3⟩) (meth := k1m3) (c := k1c3) (by decide +kernel) rfl rfl rfl (by decide +kernel)
set_option maxRecDepth 65536 in
theorem w_c1 : (Jvm.Cond.code ({ cls := "gleanwell/NumberReadingSumDecimalDigitsPinLaw", name := "draw", desc := "(I)C" } : Jvm.MethodName) method_2_code (1 : Nat) (Option.some Jvm.ClassFile.FieldType.char)).before args0 about1 = true := code_word (m := ⟨1, 1⟩) (meth := k1m1) (c := k1c1) (by decide +kernel) rfl rfl rfl (by decide +kernel)
set_option maxRecDepth 65536 in
theorem w_c2 : (Jvm.Cond.code ({ cls := "gleanwell/NumberReadingSumDecimalDigitsPinLaw", name := "isDig", desc := "(C)Z" } : Jvm.MethodName) method_3_code (1 : Nat) (Option.some Jvm.ClassFile.FieldType.boolean)).before args0 about1 = true := code_word (m := ⟨1, 2⟩) (meth := k1m2) (c := k1c2) (by decide +kernel) rfl rfl rfl (by decide +kernel)
set_option maxRecDepth 65536 in
theorem w_c3 : (Jvm.Cond.code ({ cls := "gleanwell/Grammar$NumberReading", name := "<init>", desc := "()V" } : Jvm.MethodName) prog_28_method_1_code (1 : Nat) (Option.none : Option Jvm.ClassFile.FieldType)).before args0 about1 = true := code_word (m := ⟨2, 0⟩) (meth := k2m0) (c := k2c0) (by decide +kernel) rfl rfl rfl (by decide +kernel)
set_option maxRecDepth 65536 in
theorem w_c4 : (Jvm.Cond.code ({ cls := "java/lang/Object", name := "<init>", desc := "()V" } : Jvm.MethodName) object_method_1_code (1 : Nat) (Option.none : Option Jvm.ClassFile.FieldType)).before args0 about1 = true := code_word (m := ⟨0, 0⟩) (meth := k0m0) (c := k0c0) (by decide +kernel) rfl rfl rfl (by decide +kernel)
set_option maxRecDepth 65536 in
theorem w_c5 : (Jvm.Cond.code ({ cls := "gleanwell/Grammar$NumberReading", name := "sumDecimalDigits", desc := "([CI)I" } : Jvm.MethodName) prog_28_method_5_code (8 : Nat) (Option.some Jvm.ClassFile.FieldType.int)).before args0 about1 = true := code_word (m := ⟨2, 1⟩) (meth := k2m1) (c := k2c1) (by decide +kernel) rfl rfl rfl (by decide +kernel)
set_option maxRecDepth 65536 in
theorem w_c6 : (Jvm.Cond.code ({ cls := "gleanwell/Grammar$NumberReading", name := "keepDecimal", desc := "(ZI)V" } : Jvm.MethodName) prog_28_method_6_code (3 : Nat) (Option.none : Option Jvm.ClassFile.FieldType)).before args0 about1 = true := code_word (m := ⟨2, 2⟩) (meth := k2m2) (c := k2c2) (by decide +kernel) rfl rfl rfl (by decide +kernel)
set_option maxRecDepth 65536 in
theorem w_c7 : (Jvm.Cond.code ({ cls := "gleanwell/Grammar$NumberReading", name := "integerValue", desc := "()J" } : Jvm.MethodName) prog_28_method_9_code (1 : Nat) (Option.some Jvm.ClassFile.FieldType.long)).before args0 about1 = true := code_word (m := ⟨2, 3⟩) (meth := k2m3) (c := k2c3) (by decide +kernel) rfl rfl rfl (by decide +kernel)
def codes1 : List Jvm.Cond := [Jvm.Cond.code x code maxLocals ret, Jvm.Cond.code ({ cls := "gleanwell/NumberReadingSumDecimalDigitsPinLaw", name := "draw", desc := "(I)C" } : Jvm.MethodName) method_2_code (1 : Nat) (Option.some Jvm.ClassFile.FieldType.char), Jvm.Cond.code ({ cls := "gleanwell/NumberReadingSumDecimalDigitsPinLaw", name := "isDig", desc := "(C)Z" } : Jvm.MethodName) method_3_code (1 : Nat) (Option.some Jvm.ClassFile.FieldType.boolean), Jvm.Cond.code ({ cls := "gleanwell/Grammar$NumberReading", name := "<init>", desc := "()V" } : Jvm.MethodName) prog_28_method_1_code (1 : Nat) (Option.none : Option Jvm.ClassFile.FieldType), Jvm.Cond.code ({ cls := "java/lang/Object", name := "<init>", desc := "()V" } : Jvm.MethodName) object_method_1_code (1 : Nat) (Option.none : Option Jvm.ClassFile.FieldType), Jvm.Cond.code ({ cls := "gleanwell/Grammar$NumberReading", name := "sumDecimalDigits", desc := "([CI)I" } : Jvm.MethodName) prog_28_method_5_code (8 : Nat) (Option.some Jvm.ClassFile.FieldType.int), Jvm.Cond.code ({ cls := "gleanwell/Grammar$NumberReading", name := "keepDecimal", desc := "(ZI)V" } : Jvm.MethodName) prog_28_method_6_code (3 : Nat) (Option.none : Option Jvm.ClassFile.FieldType), Jvm.Cond.code ({ cls := "gleanwell/Grammar$NumberReading", name := "integerValue", desc := "()J" } : Jvm.MethodName) prog_28_method_9_code (1 : Nat) (Option.some Jvm.ClassFile.FieldType.long)]
set_option maxRecDepth 65536 in
theorem codes_eq : words1.filter isCode = codes1 := rfl
theorem w_codes : ∀ c ∈ words1.filter isCode, c.before args0 about1 = true := by
  rw [codes_eq]
  intro c hc
  simp only [codes1, List.mem_cons, List.not_mem_nil, or_false] at hc
  rcases hc with rfl | rfl | rfl | rfl | rfl | rfl | rfl | rfl
  · exact w_c0
  · exact w_c1
  · exact w_c2
  · exact w_c3
  · exact w_c4
  · exact w_c5
  · exact w_c6
  · exact w_c7
set_option maxRecDepth 65536 in
theorem w_t1 : (words1.take 24).all (fun c => isCode c || c.before args0 about1) = true := by decide +kernel
set_option maxRecDepth 65536 in
theorem w_t2 : ((words1.drop 24).take 24).all (fun c => isCode c || c.before args0 about1) = true := by decide +kernel
set_option maxRecDepth 65536 in
theorem w_t3 : ((words1.drop 24).drop 24).all (fun c => isCode c || c.before args0 about1) = true := by decide +kernel
theorem w_tables : (allAtoms (Jvm.Cond.code x code maxLocals ret :: tables_1)).before args0 about1 = true := by
  rw [allAtoms_all]
  show words1.all (fun c => c.before args0 about1) = true
  refine all_split ?_ w_codes
  rw [← List.take_append_drop 24 words1, List.all_append, w_t1, ← List.take_append_drop 24 (words1.drop 24), List.all_append, w_t2, w_t3]
  rfl
set_option maxRecDepth 65536 in
theorem w_case : (Jvm.Cond.and given_1 narrow_1).before args0 about1 = true := by decide +kernel
theorem w_applies : (headSpec (Jvm.Cond.code x code maxLocals ret :: tables_1) room_1).applies x e0.platform about1 = true :=
  (Spec.applies_iff w_frames).mpr ⟨w_running, w_runnable, w_alone, w_named, w_hears, w_ripe, w_room, w_tables⟩
theorem atStart : AtStart classFile x code maxLocals ret World_1 tables_1 room_1 Calls_1 rest_1 Pre_1 launch0 p0 e0 about1 theMethod args0 below0 :=
  ⟨lists_1, trivial, launch0.admits_env _ _ _, launch0.least_env, fairChoices_fair.cas, fairChoices_fair.clock, w_frames, w_args, w_heap, w_applies, trivial, trivial, w_case⟩
end start1
theorem witness_1 : WitnessClaimed_1 := ⟨start1.p0, start1.e0, start1.about1, start1.theMethod, start1.args0, start1.below0, start1.atStart⟩
end Jvm.Pilot.@@N@@
