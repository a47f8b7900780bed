import JvmDerived
import JvmDerived.Pilot.@@N@@Statement
import JvmDerived.Pilot.@@N@@Code
set_option linter.unusedVariables false
set_option linter.unusedSimpArgs false
namespace Jvm.Pilot.@@N@@
open Jvm Jvm.ClassFile Sem Op Lib Jvm.Free Jvm.Stand Jvm.LawKit Jvm.RoadKit Bundle Jvm.Pilot.@@N@@.Jvm.D
section OwnKit
variable {p : Program} {l : Launch} {e : Env} {R : Room} {s : State} {m : MethodId} {args : Array Value} {below : List Frame} {meth : Method} {c : Code} {T : State} {locs : List Loc} {cells slots : Nat} {Z : State} {a0 : Array Value} {h : Heap} {pc : Nat} {Ls : Array Slot} {S : List Value} {Q : Option Value → Heap → List Loc → Prop} {K J : Nat} {Fn : Outcome → State → List Loc → Prop}
/-- from here the body comes to its return, and then Q holds -/
def Go (p : Program) (e : Env) (below : List Frame) (Fn : Outcome → State → List Loc → Prop) (Q : Option Value → Heap → List Loc → Prop) (T : State) (g : JFrame) : Prop :=
  ∃ s₂ o, Steps p.tables e below (T.setTop g) s₂ ∧ s₂.status = .running ∧ Ended s₂ below o ∧ ∃ v L, o = .returned v ∧ Q v s₂.heap L ∧ Fn o s₂ L
theorem Go.st {T' : State} {g g' : JFrame} (st : ∀ t, Steps p.tables e below (T'.setTop g') t → Steps p.tables e below (T.setTop g) t) (k : Go p e below Fn Q T' g') : Go p e below Fn Q T g := by
  obtain ⟨s2, o, h1, h2⟩ := k
  exact ⟨s2, o, st _ h1, h2⟩
theorem own_w {d : Jvm.Cond} (hw : ∀ d ∈ tables_1, d.before a0 Z = true) (i : Nat) (h : tables_1[i]? = some d) : d.before a0 Z = true := hw _ (List.mem_of_getElem? h)
/-- a body's contract, at the heap h0 -/
def OwnMet (l : Launch) (Z : State) (y : MethodName) (bytes : ByteArray) (maxL : Nat) (ret : Option FieldType) (ws : List Jvm.Cond) (rm : Room) (as' : List Value) (h0 : Heap) (Qc : Option Value → Heap → List Loc → Prop) : Prop :=
  MetFree l y (head1 (Jvm.Cond.code y bytes maxL ret :: ws) rm) (fun a U => a = as'.toArray ∧ Z.Warmed39 U.vm ∧ U.heap = h0) (fun _ _ _ _ _ => True) (fun _ U o U' => ∃ v L, o = .returned v ∧ Qc v U'.heap L ∧ FrameEnd U o U' L rm.cells rm.slots)
theorem own_body {y : MethodName} {bytes : ByteArray} {maxL : Nat} {ret : Option FieldType} {ws : List Jvm.Cond} {rm : Room} {as' : List Value} {h0 : Heap} {Qc : Option Value → Heap → List Loc → Prop} {Ls : Array Slot} (hpl : plainFor y = true) (hef : ∀ m, entryFrame m as'.toArray maxL = mkF m 0 Ls [])
    (k : ∀ (p : Program) (e : Env) (s : State) (m : MethodId) (below : List Frame) (meth : Method) (c : Code) (T : State), p.tables.exec = Jvm.exec → c.code = bytes → c.maxLocals = maxL → s.vm.findClass y.cls = some m.cls → meth.name = y.name → meth.sig.returnType = ret → meth.locks = false → Z.Warmed39 s.vm → Stand p l e rm s m as'.toArray below meth c T [] 0 0 → T.heap = h0 → Go p e below (fun o t L => FrameEnd s o t L rm.cells rm.slots) Qc T (mkF m 0 Ls [])) : OwnMet l Z y bytes maxL ret ws rm as' h0 Qc := by
  refine MetFree.of_bodySF hpl hisR ?_
  intro p e s m args below meth c s₁ Bd hml0 hP hK
  obtain ⟨rfl, hZ, hh⟩ := hP
  have e0 : s₁.heap = h0 := by rw [← hh, Bd.state]; rfl
  have g := k p e s m below meth c s₁ Bd.exec Bd.bytes hml0 (findClass_of_methodNamed Bd.named) (name_of_methodNamed Bd.named Bd.method).1 Bd.returns (BodyLoose.notSynchronized Bd) hZ (Stand.of_body Bd) e0
  rw [hef]
  exact g
theorem Go.mono {Q' : Option Value → Heap → List Loc → Prop} {g : JFrame} (k : Go p e below Fn Q' T g) (hq : ∀ v h L, Q' v h L → Q v h L) : Go p e below Fn Q T g := by
  obtain ⟨s2, o, h1, h2, h3, v, L, h4, h5, h6⟩ := k
  exact ⟨s2, o, h1, h2, h3, v, L, h4, hq _ _ _ h5, h6⟩

theorem g_iloadN (X : Stand p l e R s m args below meth c T locs cells slots) (hx : p.tables.exec = Jvm.exec) (q : Nat) {k : Fin 4} {v : Int32} (hd : decode c.code pc = .ok (.iload_n k, 1)) (hl : Ls[k.val]? = some (.val (.int v))) (hq : pc + 1 = q) (k : Go p e below Fn Q T (mkF m q Ls (.int v :: S))) : Go p e below Fn Q T (mkF m pc Ls (S)) := by
  subst hq; exact k.st fun _ z => XS.iloadN X.here hx rfl hd hl z
theorem g_iload (X : Stand p l e R s m args below meth c T locs cells slots) (hx : p.tables.exec = Jvm.exec) (q : Nat) {k : Nat} {v : Int32} (hd : decode c.code pc = .ok (.iload k, 2)) (hl : Ls[k]? = some (.val (.int v))) (hq : pc + 2 = q) (k : Go p e below Fn Q T (mkF m q Ls (.int v :: S))) : Go p e below Fn Q T (mkF m pc Ls (S)) := by
  subst hq; exact k.st fun _ z => XS.iload X.here hx rfl hd hl z
theorem g_istoreN (X : Stand p l e R s m args below meth c T locs cells slots) (hx : p.tables.exec = Jvm.exec) (q : Nat) {k : Fin 4} {v : Int32} (l' : Array Slot) (hd : decode c.code pc = .ok (.istore_n k, 1)) (hl : storeLocals Ls k.val (.int v) = some l') (hq : pc + 1 = q) (k : Go p e below Fn Q T (mkF m q l' (S))) : Go p e below Fn Q T (mkF m pc Ls (.int v :: S)) := by
  subst hq; exact k.st fun _ z => XS.istoreN X.here hx rfl hd rfl hl z
theorem g_istore (X : Stand p l e R s m args below meth c T locs cells slots) (hx : p.tables.exec = Jvm.exec) (q : Nat) {k : Nat} {v : Int32} (l' : Array Slot) (hd : decode c.code pc = .ok (.istore k, 2)) (hl : storeLocals Ls k (.int v) = some l') (hq : pc + 2 = q) (k : Go p e below Fn Q T (mkF m q l' (S))) : Go p e below Fn Q T (mkF m pc Ls (.int v :: S)) := by
  subst hq; exact k.st fun _ z => XS.istore X.here hx rfl hd rfl hl z
theorem g_lloadN (X : Stand p l e R s m args below meth c T locs cells slots) (hx : p.tables.exec = Jvm.exec) (q : Nat) {k : Fin 4} {v : Int64} (hd : decode c.code pc = .ok (.lload_n k, 1)) (hl : Ls[k.val]? = some (.val (.long v))) (hq : pc + 1 = q) (k : Go p e below Fn Q T (mkF m q Ls (.long v :: S))) : Go p e below Fn Q T (mkF m pc Ls (S)) := by
  subst hq; exact k.st fun _ z => XS.lloadN X.here hx rfl hd hl z
theorem g_lload (X : Stand p l e R s m args below meth c T locs cells slots) (hx : p.tables.exec = Jvm.exec) (q : Nat) {k : Nat} {v : Int64} (hd : decode c.code pc = .ok (.lload k, 2)) (hl : Ls[k]? = some (.val (.long v))) (hq : pc + 2 = q) (k : Go p e below Fn Q T (mkF m q Ls (.long v :: S))) : Go p e below Fn Q T (mkF m pc Ls (S)) := by
  subst hq; exact k.st fun _ z => XS.lload X.here hx rfl hd hl z
theorem g_lstoreN (X : Stand p l e R s m args below meth c T locs cells slots) (hx : p.tables.exec = Jvm.exec) (q : Nat) {k : Fin 4} {v : Int64} (l' : Array Slot) (hd : decode c.code pc = .ok (.lstore_n k, 1)) (hl : storeLocals Ls k.val (.long v) = some l') (hq : pc + 1 = q) (k : Go p e below Fn Q T (mkF m q l' (S))) : Go p e below Fn Q T (mkF m pc Ls (.long v :: S)) := by
  subst hq; exact k.st fun _ z => XS.lstoreN X.here hx rfl hd rfl hl z
theorem g_lstore (X : Stand p l e R s m args below meth c T locs cells slots) (hx : p.tables.exec = Jvm.exec) (q : Nat) {k : Nat} {v : Int64} (l' : Array Slot) (hd : decode c.code pc = .ok (.lstore k, 2)) (hl : storeLocals Ls k (.long v) = some l') (hq : pc + 2 = q) (k : Go p e below Fn Q T (mkF m q l' (S))) : Go p e below Fn Q T (mkF m pc Ls (.long v :: S)) := by
  subst hq; exact k.st fun _ z => XS.lstore X.here hx rfl hd rfl hl z
theorem g_aloadN (X : Stand p l e R s m args below meth c T locs cells slots) (hx : p.tables.exec = Jvm.exec) (q : Nat) {k : Fin 4} {v : Value} (hd : decode c.code pc = .ok (.aload_n k, 1)) (hl : Ls[k.val]? = some (.val v)) (hv : v.isRef = true) (hq : pc + 1 = q) (k : Go p e below Fn Q T (mkF m q Ls (v :: S))) : Go p e below Fn Q T (mkF m pc Ls (S)) := by
  subst hq; exact k.st fun _ z => XS.aloadN X.here hx rfl hd hl hv z
theorem g_aload (X : Stand p l e R s m args below meth c T locs cells slots) (hx : p.tables.exec = Jvm.exec) (q : Nat) {k : Nat} {v : Value} (hd : decode c.code pc = .ok (.aload k, 2)) (hl : Ls[k]? = some (.val v)) (hv : v.isRef = true) (hq : pc + 2 = q) (k : Go p e below Fn Q T (mkF m q Ls (v :: S))) : Go p e below Fn Q T (mkF m pc Ls (S)) := by
  subst hq; exact k.st fun _ z => XS.aload X.here hx rfl hd hl hv z
theorem g_astoreN (X : Stand p l e R s m args below meth c T locs cells slots) (hx : p.tables.exec = Jvm.exec) (q : Nat) {k : Fin 4} {v : Value} (l' : Array Slot) (hd : decode c.code pc = .ok (.astore_n k, 1)) (hv : v.isRef = true) (hl : storeLocals Ls k.val v = some l') (hq : pc + 1 = q) (k : Go p e below Fn Q T (mkF m q l' (S))) : Go p e below Fn Q T (mkF m pc Ls (v :: S)) := by
  subst hq; exact k.st fun _ z => XS.astoreN X.here hx rfl hd rfl hv hl z
theorem g_astore (X : Stand p l e R s m args below meth c T locs cells slots) (hx : p.tables.exec = Jvm.exec) (q : Nat) {k : Nat} {v : Value} (l' : Array Slot) (hd : decode c.code pc = .ok (.astore k, 2)) (hv : v.isRef = true) (hl : storeLocals Ls k v = some l') (hq : pc + 2 = q) (k : Go p e below Fn Q T (mkF m q l' (S))) : Go p e below Fn Q T (mkF m pc Ls (v :: S)) := by
  subst hq; exact k.st fun _ z => XS.astore X.here hx rfl hd rfl hv hl z
theorem g_iconst (X : Stand p l e R s m args below meth c T locs cells slots) (hx : p.tables.exec = Jvm.exec) (q : Nat) {i : Int} (v : Int32) (hd : decode c.code pc = .ok (.iconst i, 1)) (hv : Int32.ofInt i = v) (hq : pc + 1 = q) (k : Go p e below Fn Q T (mkF m q Ls (.int v :: S))) : Go p e below Fn Q T (mkF m pc Ls (S)) := by
  subst hq; exact k.st fun _ z => XS.iconst X.here hx rfl hd (hv ▸ z)
theorem g_bipush (X : Stand p l e R s m args below meth c T locs cells slots) (hx : p.tables.exec = Jvm.exec) (q : Nat) {i : Int} (v : Int32) (hd : decode c.code pc = .ok (.bipush i, 2)) (hv : (Int8.ofInt i).toInt32 = v) (hq : pc + 2 = q) (k : Go p e below Fn Q T (mkF m q Ls (.int v :: S))) : Go p e below Fn Q T (mkF m pc Ls (S)) := by
  subst hq; exact k.st fun _ z => XS.bipush X.here hx rfl hd (hv ▸ z)
theorem g_sipush (X : Stand p l e R s m args below meth c T locs cells slots) (hx : p.tables.exec = Jvm.exec) (q : Nat) {i : Int} (v : Int32) (hd : decode c.code pc = .ok (.sipush i, 3)) (hv : (Int16.ofInt i).toInt32 = v) (hq : pc + 3 = q) (k : Go p e below Fn Q T (mkF m q Ls (.int v :: S))) : Go p e below Fn Q T (mkF m pc Ls (S)) := by
  subst hq; exact k.st fun _ z => XS.sipush X.here hx rfl hd (hv ▸ z)
theorem g_lconst (X : Stand p l e R s m args below meth c T locs cells slots) (hx : p.tables.exec = Jvm.exec) (q : Nat) {k : Fin 2} (v : Int64) (hd : decode c.code pc = .ok (.lconst k, 1)) (hv : Int64.ofNat k = v) (hq : pc + 1 = q) (k : Go p e below Fn Q T (mkF m q Ls (.long v :: S))) : Go p e below Fn Q T (mkF m pc Ls (S)) := by
  subst hq; exact k.st fun _ z => XS.lconst X.here hx rfl hd (hv ▸ z)
theorem g_aconst_null (X : Stand p l e R s m args below meth c T locs cells slots) (hx : p.tables.exec = Jvm.exec) (q : Nat)  (hd : decode c.code pc = .ok (.aconst_null, 1))  (hq : pc + 1 = q) (k : Go p e below Fn Q T (mkF m q Ls (.null :: S))) : Go p e below Fn Q T (mkF m pc Ls (S)) := by
  subst hq; exact k.st fun _ z => XS.aconstNull X.here hx rfl hd z
theorem g_iadd (X : Stand p l e R s m args below meth c T locs cells slots) (hx : p.tables.exec = Jvm.exec) (q : Nat) {x y : Int32} (w : Int32) (hd : decode c.code pc = .ok (.iadd, 1)) (hv : x + y = w) (hq : pc + 1 = q) (k : Go p e below Fn Q T (mkF m q Ls (.int w :: S))) : Go p e below Fn Q T (mkF m pc Ls (.int y :: .int x :: S)) := by
  subst hq; exact k.st fun _ z => XS.iadd X.here hx rfl hd rfl (hv ▸ z)
theorem g_isub (X : Stand p l e R s m args below meth c T locs cells slots) (hx : p.tables.exec = Jvm.exec) (q : Nat) {x y : Int32} (w : Int32) (hd : decode c.code pc = .ok (.isub, 1)) (hv : x - y = w) (hq : pc + 1 = q) (k : Go p e below Fn Q T (mkF m q Ls (.int w :: S))) : Go p e below Fn Q T (mkF m pc Ls (.int y :: .int x :: S)) := by
  subst hq; exact k.st fun _ z => XS.isub X.here hx rfl hd rfl (hv ▸ z)
theorem g_imul (X : Stand p l e R s m args below meth c T locs cells slots) (hx : p.tables.exec = Jvm.exec) (q : Nat) {x y : Int32} (w : Int32) (hd : decode c.code pc = .ok (.imul, 1)) (hv : x * y = w) (hq : pc + 1 = q) (k : Go p e below Fn Q T (mkF m q Ls (.int w :: S))) : Go p e below Fn Q T (mkF m pc Ls (.int y :: .int x :: S)) := by
  subst hq; exact k.st fun _ z => XS.imul X.here hx rfl hd rfl (hv ▸ z)
theorem g_iand (X : Stand p l e R s m args below meth c T locs cells slots) (hx : p.tables.exec = Jvm.exec) (q : Nat) {x y : Int32} (w : Int32) (hd : decode c.code pc = .ok (.iand, 1)) (hv : x &&& y = w) (hq : pc + 1 = q) (k : Go p e below Fn Q T (mkF m q Ls (.int w :: S))) : Go p e below Fn Q T (mkF m pc Ls (.int y :: .int x :: S)) := by
  subst hq; exact k.st fun _ z => XS.iand X.here hx rfl hd rfl (hv ▸ z)
theorem g_ior (X : Stand p l e R s m args below meth c T locs cells slots) (hx : p.tables.exec = Jvm.exec) (q : Nat) {x y : Int32} (w : Int32) (hd : decode c.code pc = .ok (.ior, 1)) (hv : x ||| y = w) (hq : pc + 1 = q) (k : Go p e below Fn Q T (mkF m q Ls (.int w :: S))) : Go p e below Fn Q T (mkF m pc Ls (.int y :: .int x :: S)) := by
  subst hq; exact k.st fun _ z => XS.ior X.here hx rfl hd rfl (hv ▸ z)
theorem g_ixor (X : Stand p l e R s m args below meth c T locs cells slots) (hx : p.tables.exec = Jvm.exec) (q : Nat) {x y : Int32} (w : Int32) (hd : decode c.code pc = .ok (.ixor, 1)) (hv : x ^^^ y = w) (hq : pc + 1 = q) (k : Go p e below Fn Q T (mkF m q Ls (.int w :: S))) : Go p e below Fn Q T (mkF m pc Ls (.int y :: .int x :: S)) := by
  subst hq; exact k.st fun _ z => XS.ixor X.here hx rfl hd rfl (hv ▸ z)
theorem g_ishl (X : Stand p l e R s m args below meth c T locs cells slots) (hx : p.tables.exec = Jvm.exec) (q : Nat) {x y : Int32} (w : Int32) (hd : decode c.code pc = .ok (.ishl, 1)) (hv : x <<< (y &&& 31) = w) (hq : pc + 1 = q) (k : Go p e below Fn Q T (mkF m q Ls (.int w :: S))) : Go p e below Fn Q T (mkF m pc Ls (.int y :: .int x :: S)) := by
  subst hq; exact k.st fun _ z => XS.ishl X.here hx rfl hd rfl (hv ▸ z)
theorem g_ishr (X : Stand p l e R s m args below meth c T locs cells slots) (hx : p.tables.exec = Jvm.exec) (q : Nat) {x y : Int32} (w : Int32) (hd : decode c.code pc = .ok (.ishr, 1)) (hv : x >>> (y &&& 31) = w) (hq : pc + 1 = q) (k : Go p e below Fn Q T (mkF m q Ls (.int w :: S))) : Go p e below Fn Q T (mkF m pc Ls (.int y :: .int x :: S)) := by
  subst hq; exact k.st fun _ z => XS.ishr X.here hx rfl hd rfl (hv ▸ z)
theorem g_iushr (X : Stand p l e R s m args below meth c T locs cells slots) (hx : p.tables.exec = Jvm.exec) (q : Nat) {x y : Int32} (w : Int32) (hd : decode c.code pc = .ok (.iushr, 1)) (hv : (x.toUInt32 >>> (y &&& 31).toUInt32).toInt32 = w) (hq : pc + 1 = q) (k : Go p e below Fn Q T (mkF m q Ls (.int w :: S))) : Go p e below Fn Q T (mkF m pc Ls (.int y :: .int x :: S)) := by
  subst hq; exact k.st fun _ z => XS.iushr X.here hx rfl hd rfl (hv ▸ z)
theorem g_ladd (X : Stand p l e R s m args below meth c T locs cells slots) (hx : p.tables.exec = Jvm.exec) (q : Nat) {x y : Int64} (w : Int64) (hd : decode c.code pc = .ok (.ladd, 1)) (hv : x + y = w) (hq : pc + 1 = q) (k : Go p e below Fn Q T (mkF m q Ls (.long w :: S))) : Go p e below Fn Q T (mkF m pc Ls (.long y :: .long x :: S)) := by
  subst hq; exact k.st fun _ z => XS.ladd X.here hx rfl hd rfl (hv ▸ z)
theorem g_lsub (X : Stand p l e R s m args below meth c T locs cells slots) (hx : p.tables.exec = Jvm.exec) (q : Nat) {x y : Int64} (w : Int64) (hd : decode c.code pc = .ok (.lsub, 1)) (hv : x - y = w) (hq : pc + 1 = q) (k : Go p e below Fn Q T (mkF m q Ls (.long w :: S))) : Go p e below Fn Q T (mkF m pc Ls (.long y :: .long x :: S)) := by
  subst hq; exact k.st fun _ z => XS.lsub X.here hx rfl hd rfl (hv ▸ z)
theorem g_lmul (X : Stand p l e R s m args below meth c T locs cells slots) (hx : p.tables.exec = Jvm.exec) (q : Nat) {x y : Int64} (w : Int64) (hd : decode c.code pc = .ok (.lmul, 1)) (hv : x * y = w) (hq : pc + 1 = q) (k : Go p e below Fn Q T (mkF m q Ls (.long w :: S))) : Go p e below Fn Q T (mkF m pc Ls (.long y :: .long x :: S)) := by
  subst hq; exact k.st fun _ z => XS.lmul X.here hx rfl hd rfl (hv ▸ z)
theorem g_land (X : Stand p l e R s m args below meth c T locs cells slots) (hx : p.tables.exec = Jvm.exec) (q : Nat) {x y : Int64} (w : Int64) (hd : decode c.code pc = .ok (.land, 1)) (hv : x &&& y = w) (hq : pc + 1 = q) (k : Go p e below Fn Q T (mkF m q Ls (.long w :: S))) : Go p e below Fn Q T (mkF m pc Ls (.long y :: .long x :: S)) := by
  subst hq; exact k.st fun _ z => XS.land X.here hx rfl hd rfl (hv ▸ z)
theorem g_lor (X : Stand p l e R s m args below meth c T locs cells slots) (hx : p.tables.exec = Jvm.exec) (q : Nat) {x y : Int64} (w : Int64) (hd : decode c.code pc = .ok (.lor, 1)) (hv : x ||| y = w) (hq : pc + 1 = q) (k : Go p e below Fn Q T (mkF m q Ls (.long w :: S))) : Go p e below Fn Q T (mkF m pc Ls (.long y :: .long x :: S)) := by
  subst hq; exact k.st fun _ z => XS.lor X.here hx rfl hd rfl (hv ▸ z)
theorem g_lxor (X : Stand p l e R s m args below meth c T locs cells slots) (hx : p.tables.exec = Jvm.exec) (q : Nat) {x y : Int64} (w : Int64) (hd : decode c.code pc = .ok (.lxor, 1)) (hv : x ^^^ y = w) (hq : pc + 1 = q) (k : Go p e below Fn Q T (mkF m q Ls (.long w :: S))) : Go p e below Fn Q T (mkF m pc Ls (.long y :: .long x :: S)) := by
  subst hq; exact k.st fun _ z => XS.lxor X.here hx rfl hd rfl (hv ▸ z)
theorem g_lshl (X : Stand p l e R s m args below meth c T locs cells slots) (hx : p.tables.exec = Jvm.exec) (q : Nat) {x : Int64} {y : Int32} (w : Int64) (hd : decode c.code pc = .ok (.lshl, 1)) (hv : x <<< (y &&& 0x3f).toInt64 = w) (hq : pc + 1 = q) (k : Go p e below Fn Q T (mkF m q Ls (.long w :: S))) : Go p e below Fn Q T (mkF m pc Ls (.int y :: .long x :: S)) := by
  subst hq; exact k.st fun _ z => XS.lshl X.here hx rfl hd rfl (hv ▸ z)
theorem g_lshr (X : Stand p l e R s m args below meth c T locs cells slots) (hx : p.tables.exec = Jvm.exec) (q : Nat) {x : Int64} {y : Int32} (w : Int64) (hd : decode c.code pc = .ok (.lshr, 1)) (hv : x >>> (y &&& 0x3f).toInt64 = w) (hq : pc + 1 = q) (k : Go p e below Fn Q T (mkF m q Ls (.long w :: S))) : Go p e below Fn Q T (mkF m pc Ls (.int y :: .long x :: S)) := by
  subst hq; exact k.st fun _ z => XS.lshr X.here hx rfl hd rfl (hv ▸ z)
theorem g_lushr (X : Stand p l e R s m args below meth c T locs cells slots) (hx : p.tables.exec = Jvm.exec) (q : Nat) {x : Int64} {y : Int32} (w : Int64) (hd : decode c.code pc = .ok (.lushr, 1)) (hv : (x.toUInt64 >>> (y &&& 0x3f).toInt64.toUInt64).toInt64 = w) (hq : pc + 1 = q) (k : Go p e below Fn Q T (mkF m q Ls (.long w :: S))) : Go p e below Fn Q T (mkF m pc Ls (.int y :: .long x :: S)) := by
  subst hq; exact k.st fun _ z => XS.lushr X.here hx rfl hd rfl (hv ▸ z)
theorem g_lcmp (X : Stand p l e R s m args below meth c T locs cells slots) (hx : p.tables.exec = Jvm.exec) (q : Nat) {x y : Int64} (hd : decode c.code pc = .ok (.lcmp, 1))  (hq : pc + 1 = q) (k : Go p e below Fn Q T (mkF m q Ls (.int (lcmpW x y) :: S))) : Go p e below Fn Q T (mkF m pc Ls (.long y :: .long x :: S)) := by
  subst hq; exact k.st fun _ z => XS.lcmp X.here hx rfl hd rfl z
theorem g_idiv (X : Stand p l e R s m args below meth c T locs cells slots) (hx : p.tables.exec = Jvm.exec) (q : Nat) {x y : Int32} (w : Int32) (hd : decode c.code pc = .ok (.idiv, 1)) (hy : y ≠ 0) (hv : x / y = w) (hq : pc + 1 = q) (k : Go p e below Fn Q T (mkF m q Ls (.int w :: S))) : Go p e below Fn Q T (mkF m pc Ls (.int y :: .int x :: S)) := by
  subst hq; exact k.st fun _ z => XS.idiv X.here hx rfl hd rfl hy (hv ▸ z)
theorem g_irem (X : Stand p l e R s m args below meth c T locs cells slots) (hx : p.tables.exec = Jvm.exec) (q : Nat) {x y : Int32} (w : Int32) (hd : decode c.code pc = .ok (.irem, 1)) (hy : y ≠ 0) (hv : x % y = w) (hq : pc + 1 = q) (k : Go p e below Fn Q T (mkF m q Ls (.int w :: S))) : Go p e below Fn Q T (mkF m pc Ls (.int y :: .int x :: S)) := by
  subst hq; exact k.st fun _ z => iremM X hx rfl hd rfl hy (hv ▸ z)
theorem g_ldiv (X : Stand p l e R s m args below meth c T locs cells slots) (hx : p.tables.exec = Jvm.exec) (q : Nat) {x y : Int64} (w : Int64) (hd : decode c.code pc = .ok (.ldiv, 1)) (hy : y ≠ 0) (hv : x / y = w) (hq : pc + 1 = q) (k : Go p e below Fn Q T (mkF m q Ls (.long w :: S))) : Go p e below Fn Q T (mkF m pc Ls (.long y :: .long x :: S)) := by
  subst hq; exact k.st fun _ z => XS.ldiv X.here hx rfl hd rfl hy (hv ▸ z)
theorem g_ineg (X : Stand p l e R s m args below meth c T locs cells slots) (hx : p.tables.exec = Jvm.exec) (q : Nat) {x : Int32} (w : Int32) (hd : decode c.code pc = .ok (.ineg, 1)) (hv : -x = w) (hq : pc + 1 = q) (k : Go p e below Fn Q T (mkF m q Ls (.int w :: S))) : Go p e below Fn Q T (mkF m pc Ls (.int x :: S)) := by
  subst hq; exact k.st fun _ z => XS.ineg X.here hx rfl hd rfl (hv ▸ z)
theorem g_lneg (X : Stand p l e R s m args below meth c T locs cells slots) (hx : p.tables.exec = Jvm.exec) (q : Nat) {x : Int64} (w : Int64) (hd : decode c.code pc = .ok (.lneg, 1)) (hv : -x = w) (hq : pc + 1 = q) (k : Go p e below Fn Q T (mkF m q Ls (.long w :: S))) : Go p e below Fn Q T (mkF m pc Ls (.long x :: S)) := by
  subst hq; exact k.st fun _ z => XS.lneg X.here hx rfl hd rfl (hv ▸ z)
theorem g_i2l (X : Stand p l e R s m args below meth c T locs cells slots) (hx : p.tables.exec = Jvm.exec) (q : Nat) {x : Int32} (w : Int64) (hd : decode c.code pc = .ok (.i2l, 1)) (hv : x.toInt64 = w) (hq : pc + 1 = q) (k : Go p e below Fn Q T (mkF m q Ls (.long w :: S))) : Go p e below Fn Q T (mkF m pc Ls (.int x :: S)) := by
  subst hq; exact k.st fun _ z => XS.i2l X.here hx rfl hd rfl (hv ▸ z)
theorem g_l2i (X : Stand p l e R s m args below meth c T locs cells slots) (hx : p.tables.exec = Jvm.exec) (q : Nat) {x : Int64} (w : Int32) (hd : decode c.code pc = .ok (.l2i, 1)) (hv : x.toInt32 = w) (hq : pc + 1 = q) (k : Go p e below Fn Q T (mkF m q Ls (.int w :: S))) : Go p e below Fn Q T (mkF m pc Ls (.long x :: S)) := by
  subst hq; exact k.st fun _ z => XS.l2i X.here hx rfl hd rfl (hv ▸ z)
theorem g_i2c (X : Stand p l e R s m args below meth c T locs cells slots) (hx : p.tables.exec = Jvm.exec) (q : Nat) {x : Int32} (w : Int32) (hd : decode c.code pc = .ok (.i2c, 1)) (hv : x.toUInt32.toUInt16.toUInt32.toInt32 = w) (hq : pc + 1 = q) (k : Go p e below Fn Q T (mkF m q Ls (.int w :: S))) : Go p e below Fn Q T (mkF m pc Ls (.int x :: S)) := by
  subst hq; exact k.st fun _ z => XS.i2c X.here hx rfl hd rfl (hv ▸ z)
theorem g_i2b (X : Stand p l e R s m args below meth c T locs cells slots) (hx : p.tables.exec = Jvm.exec) (q : Nat) {x : Int32} (w : Int32) (hd : decode c.code pc = .ok (.i2b, 1)) (hv : x.toInt8.toInt32 = w) (hq : pc + 1 = q) (k : Go p e below Fn Q T (mkF m q Ls (.int w :: S))) : Go p e below Fn Q T (mkF m pc Ls (.int x :: S)) := by
  subst hq; exact k.st fun _ z => XS.i2b X.here hx rfl hd rfl (hv ▸ z)
theorem g_i2s (X : Stand p l e R s m args below meth c T locs cells slots) (hx : p.tables.exec = Jvm.exec) (q : Nat) {x : Int32} (w : Int32) (hd : decode c.code pc = .ok (.i2s, 1)) (hv : x.toInt16.toInt32 = w) (hq : pc + 1 = q) (k : Go p e below Fn Q T (mkF m q Ls (.int w :: S))) : Go p e below Fn Q T (mkF m pc Ls (.int x :: S)) := by
  subst hq; exact k.st fun _ z => XS.i2s X.here hx rfl hd rfl (hv ▸ z)
theorem g_dup (X : Stand p l e R s m args below meth c T locs cells slots) (hx : p.tables.exec = Jvm.exec) (q : Nat) {v : Value} (hd : decode c.code pc = .ok (.dup, 1)) (hc : v.category = 1) (hq : pc + 1 = q) (k : Go p e below Fn Q T (mkF m q Ls (v :: v :: S))) : Go p e below Fn Q T (mkF m pc Ls (v :: S)) := by
  subst hq; exact k.st fun _ z => XS.dup X.here hx rfl hd rfl hc z
theorem g_pop (X : Stand p l e R s m args below meth c T locs cells slots) (hx : p.tables.exec = Jvm.exec) (q : Nat) {v : Value} (hd : decode c.code pc = .ok (.pop, 1)) (hc : v.category = 1) (hq : pc + 1 = q) (k : Go p e below Fn Q T (mkF m q Ls (S))) : Go p e below Fn Q T (mkF m pc Ls (v :: S)) := by
  subst hq; exact k.st fun _ z => XS.pop X.here hx rfl hd rfl hc z
theorem g_dup_x1 (X : Stand p l e R s m args below meth c T locs cells slots) (hx : p.tables.exec = Jvm.exec) (q : Nat) {v w : Value} (hd : decode c.code pc = .ok (.dup_x1, 1)) (hc : v.category = 1) (hc' : w.category = 1) (hq : pc + 1 = q) (k : Go p e below Fn Q T (mkF m q Ls (v :: w :: v :: S))) : Go p e below Fn Q T (mkF m pc Ls (v :: w :: S)) := by
  subst hq; exact k.st fun _ z => XS.dupX1 X.here hx rfl hd rfl hc hc' z
theorem g_dup2L (X : Stand p l e R s m args below meth c T locs cells slots) (hx : p.tables.exec = Jvm.exec) (q : Nat) {x : Int64} (hd : decode c.code pc = .ok (.dup2, 1))  (hq : pc + 1 = q) (k : Go p e below Fn Q T (mkF m q Ls (.long x :: .long x :: S))) : Go p e below Fn Q T (mkF m pc Ls (.long x :: S)) := by
  subst hq; exact k.st fun _ z => Jvm.Free.XT.dup2L X.here hx rfl hd rfl z
theorem g_dup2 (X : Stand p l e R s m args below meth c T locs cells slots) (hx : p.tables.exec = Jvm.exec) (q : Nat) {v w : Value} (hd : decode c.code pc = .ok (.dup2, 1)) (hc : v.category = 1) (hc' : w.category = 1) (hq : pc + 1 = q) (k : Go p e below Fn Q T (mkF m q Ls (v :: w :: v :: w :: S))) : Go p e below Fn Q T (mkF m pc Ls (v :: w :: S)) := by
  subst hq; exact k.st fun _ z => Jvm.Free.XT.dup2 X.here hx rfl hd rfl hc hc' z
theorem g_iinc (X : Stand p l e R s m args below meth c T locs cells slots) (hx : p.tables.exec = Jvm.exec) (q : Nat) {k : Nat} {cst : Int} {x : Int32} (w : Int32) (l' : Array Slot) (hd : decode c.code pc = .ok (.iinc k cst, 3)) (hl : Ls[k]? = some (.val (.int x))) (hv : x + Int32.ofInt cst = w) (hl' : storeLocals Ls k (.int w) = some l') (hq : pc + 3 = q) (k : Go p e below Fn Q T (mkF m q l' (S))) : Go p e below Fn Q T (mkF m pc Ls (S)) := by
  subst hq; exact k.st fun _ z => XS.iinc X.here hx rfl hd hl (hv ▸ hl') z
theorem g_ldcI (X : Stand p l e R s m args below meth c T locs cells slots) (hx : p.tables.exec = Jvm.exec) (q : Nat) (hZ : Z.Warmed39 s.vm) {own : String} {index : Nat} {v : Int32} (hown : s.vm.findClass own = some m.cls) (w1 : (Jvm.Cond.constant own index v).before a0 Z = true) (hd : decode c.code pc = .ok (.ldc index, 2))  (hq : pc + 2 = q) (k : Go p e below Fn Q T (mkF m q Ls (.int v :: S))) : Go p e below Fn Q T (mkF m pc Ls (S)) := by
  subst hq; exact k.st fun _ z => X.ldcInt hx hown (mvT hZ w1) (g := mkF m pc Ls S) rfl hd _ z
theorem g_ldc2J (X : Stand p l e R s m args below meth c T locs cells slots) (hx : p.tables.exec = Jvm.exec) (q : Nat) (hZ : Z.Warmed39 s.vm) {own : String} {index : Nat} {v : Int64} (hown : s.vm.findClass own = some m.cls) (w1 : (Jvm.Cond.constantLong own index v).before a0 Z = true) (hd : decode c.code pc = .ok (.ldc2_w index, 3))  (hq : pc + 3 = q) (k : Go p e below Fn Q T (mkF m q Ls (.long v :: S))) : Go p e below Fn Q T (mkF m pc Ls (S)) := by
  subst hq; exact k.st fun _ z => X.ldc2Long hx hown (mvT hZ w1) (g := mkF m pc Ls S) rfl hd _ z
theorem g_goto (X : Stand p l e R s m args below meth c T locs cells slots) (hx : p.tables.exec = Jvm.exec) (q : Nat)  {o : Int} (hd : decode c.code pc = .ok (.goto o, 3))  (ho : 0 ≤ (pc : Int) + o) (hp : ((pc : Int) + o).toNat = q) (k : Go p e below Fn Q T (mkF m q Ls S)) : Go p e below Fn Q T (mkF m pc Ls (S)) := k.st fun _ z => XS.goto X.here hx rfl rfl hd ho hp z
theorem g_ifT (X : Stand p l e R s m args below meth c T locs cells slots) (hx : p.tables.exec = Jvm.exec) (q : Nat) {cd : ClassFile.Cond} {x : Int32} {o : Int} (hd : decode c.code pc = .ok (.ifCond cd o, 3)) (hc : ifCond.holds cd x = true) (ho : 0 ≤ (pc : Int) + o) (hp : ((pc : Int) + o).toNat = q) (k : Go p e below Fn Q T (mkF m q Ls S)) : Go p e below Fn Q T (mkF m pc Ls (.int x :: S)) := k.st fun _ z => XS.ifYes X.here hx rfl rfl hd rfl hc ho hp z
theorem g_ifF (X : Stand p l e R s m args below meth c T locs cells slots) (hx : p.tables.exec = Jvm.exec) (q : Nat) {cd : ClassFile.Cond} {x : Int32} {o : Int} (hd : decode c.code pc = .ok (.ifCond cd o, 3)) (hc : ifCond.holds cd x = false) (hq : pc + 3 = q) (k : Go p e below Fn Q T (mkF m q Ls S)) : Go p e below Fn Q T (mkF m pc Ls (.int x :: S)) := by
  subst hq; exact k.st fun _ z => XS.ifNo X.here hx rfl hd rfl hc z
theorem g_icT (X : Stand p l e R s m args below meth c T locs cells slots) (hx : p.tables.exec = Jvm.exec) (q : Nat) {cd : ClassFile.Cond} {x y : Int32} {o : Int} (hd : decode c.code pc = .ok (.if_icmp cd o, 3)) (hc : if_icmp.holds cd x y = true) (ho : 0 ≤ (pc : Int) + o) (hp : ((pc : Int) + o).toNat = q) (k : Go p e below Fn Q T (mkF m q Ls S)) : Go p e below Fn Q T (mkF m pc Ls (.int y :: .int x :: S)) := k.st fun _ z => XS.icmpYes X.here hx rfl rfl hd rfl hc ho hp z
theorem g_icF (X : Stand p l e R s m args below meth c T locs cells slots) (hx : p.tables.exec = Jvm.exec) (q : Nat) {cd : ClassFile.Cond} {x y : Int32} {o : Int} (hd : decode c.code pc = .ok (.if_icmp cd o, 3)) (hc : if_icmp.holds cd x y = false) (hq : pc + 3 = q) (k : Go p e below Fn Q T (mkF m q Ls S)) : Go p e below Fn Q T (mkF m pc Ls (.int y :: .int x :: S)) := by
  subst hq; exact k.st fun _ z => XS.icmpNo X.here hx rfl hd rfl hc z
theorem g_ifnullT (X : Stand p l e R s m args below meth c T locs cells slots) (hx : p.tables.exec = Jvm.exec) (q : Nat)  {o : Int} (hd : decode c.code pc = .ok (.ifnull o, 3))  (ho : 0 ≤ (pc : Int) + o) (hp : ((pc : Int) + o).toNat = q) (k : Go p e below Fn Q T (mkF m q Ls S)) : Go p e below Fn Q T (mkF m pc Ls (.null :: S)) := k.st fun _ z => XS.ifnullYes X.here hx rfl rfl hd rfl ho hp z
theorem g_ifnullF (X : Stand p l e R s m args below meth c T locs cells slots) (hx : p.tables.exec = Jvm.exec) (q : Nat) {b : Addr} {o : Int} (hd : decode c.code pc = .ok (.ifnull o, 3))  (hq : pc + 3 = q) (k : Go p e below Fn Q T (mkF m q Ls S)) : Go p e below Fn Q T (mkF m pc Ls (.ref b :: S)) := by
  subst hq; exact k.st fun _ z => XS.ifnullNo X.here hx rfl hd rfl z
theorem g_ifnonnullT (X : Stand p l e R s m args below meth c T locs cells slots) (hx : p.tables.exec = Jvm.exec) (q : Nat) {b : Addr} {o : Int} (hd : decode c.code pc = .ok (.ifnonnull o, 3))  (ho : 0 ≤ (pc : Int) + o) (hp : ((pc : Int) + o).toNat = q) (k : Go p e below Fn Q T (mkF m q Ls S)) : Go p e below Fn Q T (mkF m pc Ls (.ref b :: S)) := k.st fun _ z => XS.ifnonnullYes X.here hx rfl rfl hd rfl ho hp z
theorem g_ifnonnullF (X : Stand p l e R s m args below meth c T locs cells slots) (hx : p.tables.exec = Jvm.exec) (q : Nat)  {o : Int} (hd : decode c.code pc = .ok (.ifnonnull o, 3))  (hq : pc + 3 = q) (k : Go p e below Fn Q T (mkF m q Ls S)) : Go p e below Fn Q T (mkF m pc Ls (.null :: S)) := by
  subst hq; exact k.st fun _ z => XS.ifnonnullNo X.here hx rfl hd rfl z
theorem g_ac (X : Stand p l e R s m args below meth c T locs cells slots) (hx : p.tables.exec = Jvm.exec) (q : Nat) {cd : ACond} {v w : Value} {o : Int} (same : Bool) (hd : decode c.code pc = .ok (.if_acmp cd o, 3)) (h1 : v.isRef = true) (h2 : w.isRef = true) (hs : decide (v = w) = same) (ho : 0 ≤ (pc : Int) + o) (hp : q = if acV cd same = true then ((pc : Int) + o).toNat else pc + 3) (k : Go p e below Fn Q T (mkF m q Ls S)) : Go p e below Fn Q T (mkF m pc Ls (w :: v :: S)) := k.st fun _ z => Jvm.RoadKit.acmp X hx rfl h1 h2 rfl hd rfl hs ho hp z
theorem own_ltL {x y : Int64} (h : x < y) : ifCond.holds .lt (lcmpW x y) = true ∧ ifCond.holds .ge (lcmpW x y) = false ∧ ifCond.holds .gt (lcmpW y x) = true ∧ ifCond.holds .le (lcmpW y x) = false := by
  have h1 := (lw_lt x y).mpr h
  have h2 := (lw_gt y x).mpr h
  exact ⟨(if0 _ _).trans (tlt h1).1, (if0 _ _).trans (tlt h1).2.1, (if0 _ _).trans (tlt h2).2.2.1, (if0 _ _).trans (tlt h2).2.2.2⟩
theorem own_nltL {x y : Int64} (h : ¬ x < y) : ifCond.holds .lt (lcmpW x y) = false ∧ ifCond.holds .ge (lcmpW x y) = true ∧ ifCond.holds .gt (lcmpW y x) = false ∧ ifCond.holds .le (lcmpW y x) = true := by
  have h1 : ¬ lcmpW x y < 0 := fun q => h ((lw_lt x y).mp q)
  have h2 : ¬ 0 < lcmpW y x := fun q => h ((lw_gt y x).mp q)
  exact ⟨(if0 _ _).trans (flt h1).1, (if0 _ _).trans (flt h1).2.1, (if0 _ _).trans (flt h2).2.2.1, (if0 _ _).trans (flt h2).2.2.2⟩
theorem own_eqL {x y : Int64} (h : x = y) : ifCond.holds .eq (lcmpW x y) = true ∧ ifCond.holds .ne (lcmpW x y) = false := by
  have h1 := (lw_eq x y).mpr h
  exact ⟨(if0 _ _).trans (teq h1).1, (if0 _ _).trans (teq h1).2⟩
theorem own_neL {x y : Int64} (h : ¬ x = y) : ifCond.holds .eq (lcmpW x y) = false ∧ ifCond.holds .ne (lcmpW x y) = true := by
  have h1 : ¬ lcmpW x y = 0 := fun q => h ((lw_eq x y).mp q)
  exact ⟨(if0 _ _).trans (feq h1).1, (if0 _ _).trans (feq h1).2⟩
theorem g_ret (X : Stand p l e R s m args below meth c T locs cells slots) (hx : p.tables.exec = Jvm.exec) {t : FieldType} {i : Instr} {w : Value} (hret : meth.sig.returnType = some t) (hlk : meth.locks = false) (hn : narrow t w = w) (hi : (i = .ireturn ∧ (t = .int ∨ t = .boolean ∨ t = .byte ∨ t = .char ∨ t = .short) ∧ ∃ z, w = .int z) ∨ (i = .lreturn ∧ t = .long ∧ ∃ z, w = .long z) ∨ (i = .dreturn ∧ t = .double ∧ ∃ z, w = .double z) ∨ (i = .freturn ∧ t = .float ∧ ∃ z, w = .float z) ∨ (i = .areturn ∧ t.isReference = true ∧ w.isRef = true)) (hd : decode c.code pc = .ok (i, 1)) (hc : cells ≤ K) (hs : slots ≤ J) (hq : Q (some w) T.heap locs) : Go p e below (fun o t L => FrameEnd s o t L K J) Q T (mkF m pc Ls (w :: S)) := by
  obtain ⟨fs, hr, hrun, hended, hW, hsame⟩ := X.leave (v := some w) (fun h => by rw [hret] at h; cases h) hlk
  exact ⟨_, _, retOut X hx hret hn hi hd hr, hrun, hended, _, _, rfl, hq, ⟨_, rfl⟩, hW, hsame.mono hc hs⟩
theorem g_retI (X : Stand p l e R s m args below meth c T locs cells slots) (hx : p.tables.exec = Jvm.exec) {z : Int32} (hret : meth.sig.returnType = some .int) (hlk : meth.locks = false) (hd : decode c.code pc = .ok (.ireturn, 1)) (hc : cells ≤ K) (hs : slots ≤ J) (hq : Q (some (.int z)) T.heap locs) : Go p e below (fun o t L => FrameEnd s o t L K J) Q T (mkF m pc Ls (.int z :: S)) := g_ret X hx hret hlk rfl (Or.inl ⟨rfl, Or.inl rfl, _, rfl⟩) hd hc hs hq
theorem g_retZ (X : Stand p l e R s m args below meth c T locs cells slots) (hx : p.tables.exec = Jvm.exec) {z : Int32} (hret : meth.sig.returnType = some .boolean) (hlk : meth.locks = false) (hn : narrow .boolean (.int z) = .int z) (hd : decode c.code pc = .ok (.ireturn, 1)) (hc : cells ≤ K) (hs : slots ≤ J) (hq : Q (some (.int z)) T.heap locs) : Go p e below (fun o t L => FrameEnd s o t L K J) Q T (mkF m pc Ls (.int z :: S)) := g_ret X hx hret hlk hn (Or.inl ⟨rfl, Or.inr (Or.inl rfl), _, rfl⟩) hd hc hs hq
theorem g_retC (X : Stand p l e R s m args below meth c T locs cells slots) (hx : p.tables.exec = Jvm.exec) {z : Int32} (hret : meth.sig.returnType = some .char) (hlk : meth.locks = false) (hn : narrow .char (.int z) = .int z) (hd : decode c.code pc = .ok (.ireturn, 1)) (hc : cells ≤ K) (hs : slots ≤ J) (hq : Q (some (.int z)) T.heap locs) : Go p e below (fun o t L => FrameEnd s o t L K J) Q T (mkF m pc Ls (.int z :: S)) := g_ret X hx hret hlk hn (Or.inl ⟨rfl, Or.inr (Or.inr (Or.inr (Or.inl rfl))), _, rfl⟩) hd hc hs hq
theorem g_retB (X : Stand p l e R s m args below meth c T locs cells slots) (hx : p.tables.exec = Jvm.exec) {z : Int32} (hret : meth.sig.returnType = some .byte) (hlk : meth.locks = false) (hn : narrow .byte (.int z) = .int z) (hd : decode c.code pc = .ok (.ireturn, 1)) (hc : cells ≤ K) (hs : slots ≤ J) (hq : Q (some (.int z)) T.heap locs) : Go p e below (fun o t L => FrameEnd s o t L K J) Q T (mkF m pc Ls (.int z :: S)) := g_ret X hx hret hlk hn (Or.inl ⟨rfl, Or.inr (Or.inr (Or.inl rfl)), _, rfl⟩) hd hc hs hq
theorem g_retJ (X : Stand p l e R s m args below meth c T locs cells slots) (hx : p.tables.exec = Jvm.exec) {z : Int64} (hret : meth.sig.returnType = some .long) (hlk : meth.locks = false) (hd : decode c.code pc = .ok (.lreturn, 1)) (hc : cells ≤ K) (hs : slots ≤ J) (hq : Q (some (.long z)) T.heap locs) : Go p e below (fun o t L => FrameEnd s o t L K J) Q T (mkF m pc Ls (.long z :: S)) := g_ret X hx hret hlk rfl (Or.inr (Or.inl ⟨rfl, rfl, _, rfl⟩)) hd hc hs hq
theorem g_retA (X : Stand p l e R s m args below meth c T locs cells slots) (hx : p.tables.exec = Jvm.exec) {t : FieldType} {w : Value} (hret : meth.sig.returnType = some t) (hlk : meth.locks = false) (hr : t.isReference = true) (hw : w.isRef = true) (hn : narrow t w = w) (hd : decode c.code pc = .ok (.areturn, 1)) (hc : cells ≤ K) (hs : slots ≤ J) (hq : Q (some w) T.heap locs) : Go p e below (fun o t L => FrameEnd s o t L K J) Q T (mkF m pc Ls (w :: S)) := g_ret X hx hret hlk hn (Or.inr (Or.inr (Or.inr (Or.inr ⟨rfl, hr, hw⟩)))) hd hc hs hq
theorem g_retV (X : Stand p l e R s m args below meth c T locs cells slots) (hx : p.tables.exec = Jvm.exec) (hret : meth.sig.returnType = none) (hlk : meth.locks = false) (hd : decode c.code pc = .ok (.return_, 1)) (hc : cells ≤ K) (hs : slots ≤ J) (hq : Q none T.heap locs) : Go p e below (fun o t L => FrameEnd s o t L K J) Q T (mkF m pc Ls []) := by
  obtain ⟨fs, hr, hrun, hended, hW, hsame⟩ := X.leave (v := none) (fun _ => rfl) hlk
  exact ⟨_, _, X.returnOut hx hret hd hr, hrun, hended, _, _, rfl, hq, ⟨_, rfl⟩, hW, hsame.mono hc hs⟩
theorem g_getF (X : Stand p l e R s m args below meth c T locs cells slots) (hx : p.tables.exec = Jvm.exec) (q : Nat) (hZ : Z.Warmed39 s.vm) {own R0 O n d host : String} {index : Nat} (hown : s.vm.findClass own = some m.cls) (w1 : (Jvm.Cond.fieldLink own index R0 n d).before a0 Z = true ∨ (Jvm.Cond.fieldLinkNest own index R0 n d host).before a0 Z = true) (via : Via Z R0 O n d) (eT : T.heap = h) {a : Addr} {v : Value} (F : Fld Z h a O n d v) (hd : decode c.code pc = .ok (.getfield index, 3)) (hq : pc + 3 = q)
    (k : ∀ T', Stand p l e R s m args below meth c T' locs cells slots → T'.heap = h → Go p e below Fn Q T' (mkF m q Ls (v :: S))) : Go p e below Fn Q T (mkF m pc Ls (.ref a :: S)) := by
  obtain ⟨T', X', e', st⟩ := getF X hx hZ hown w1 via eT F (g := mkF m pc Ls (.ref a :: S)) rfl rfl hd
  subst hq; exact (k T' X' e').st st
theorem g_putF (X : Stand p l e R s m args below meth c T locs cells slots) (hx : p.tables.exec = Jvm.exec) (q : Nat) (hZ : Z.Warmed39 s.vm) {own R0 O n d host C : String} {index kk : Nat} {ty : FieldType} (hown : s.vm.findClass own = some m.cls) (w1 : (Jvm.Cond.fieldLink own index R0 n d).before a0 Z = true ∨ (Jvm.Cond.fieldLinkNest own index R0 n d host).before a0 Z = true) (via : Via Z R0 O n d) (eT : T.heap = h) {a : Addr} {v old : Value} (F : Fld Z h a O n d old) (E : Exa Z h a C)
    (L : (Jvm.Cond.lays C O n d).before a0 Z = true ∨ ((Jvm.Cond.laysFinal C O n d).before a0 Z = true ∧ own = O ∧ meth.name = "<init>")) (wi : (Jvm.Cond.instantiable C kk).before a0 Z = true) (hty : parseFieldDescriptor d = some ty) (hn : narrow ty v = v) (hf : fits ty v = true) (hd : decode c.code pc = .ok (.putfield index, 3)) (hq : pc + 3 = q)
    (k : ∀ T' h', Stand p l e R s m args below meth c T' (locs ++ [⟨a, Jvm.RoadKit.slotOf Z O n d⟩]) cells slots → T'.heap = h' → Wr h h' a (Jvm.RoadKit.slotOf Z O n d) v → Go p e below Fn Q T' (mkF m q Ls S)) : Go p e below Fn Q T (mkF m pc Ls (v :: .ref a :: S)) := by
  obtain ⟨T', h', X', e', W', st⟩ := putF X hx hZ hown w1 via eT F E L wi hty hn hf (g := mkF m pc Ls (v :: .ref a :: S)) rfl rfl hd
  subst hq; exact (k T' h' X' e' W').st st
theorem g_getS (X : Stand p l e R s m args below meth c T locs cells slots) (hx : p.tables.exec = Jvm.exec) (q : Nat) (hZ : Z.Warmed39 s.vm) {own R0 O n d host : String} {index : Nat} (hown : s.vm.findClass own = some m.cls) (w1 : (Jvm.Cond.fieldLink own index R0 n d).before a0 Z = true ∨ (Jvm.Cond.fieldLinkNest own index R0 n d host).before a0 Z = true) (via : Via Z R0 O n d) (eT : T.heap = h) {v : Value} (F : Sta Z h O n d v) (hd : decode c.code pc = .ok (.getstatic index, 3)) (hq : pc + 3 = q)
    (k : ∀ T', Stand p l e R s m args below meth c T' locs cells slots → T'.heap = h → Go p e below Fn Q T' (mkF m q Ls (v :: S))) : Go p e below Fn Q T (mkF m pc Ls S) := by
  obtain ⟨T', X', e', st⟩ := getS2 X hx hZ hown w1 via eT F (g := mkF m pc Ls S) rfl hd
  subst hq; exact (k T' X' e').st st
theorem g_new (X : Stand p l e R s m args below meth c T locs cells slots) (hx : p.tables.exec = Jvm.exec) (q : Nat) (hZ : Z.Warmed39 s.vm) {own C : String} {index n : Nat} (hown : s.vm.findClass own = some m.cls) (w1 : (Jvm.Cond.classLink own index C).before a0 Z = true) (wi : (Jvm.Cond.instantiable C n).before a0 Z = true) (wz : (Jvm.Cond.initialized C).before a0 Z = true) (eT : T.heap = h) (hd : decode c.code pc = .ok (.new index, 3)) (hc : cells + 1 ≤ R.cells) (hl : slots + n ≤ R.slots) (hq : pc + 3 = q)
    (k : ∀ T' h' b, b = h.size → Stand p l e R s m args below meth c T' locs (cells + 1) (slots + n) → T'.heap = h' → Ext h h' → Exa Z h' b C → (∀ {O nm d : String} {ty : FieldType}, Laid Z a0 C O nm d → parseFieldDescriptor d = some ty → Fld Z h' b O nm d (defaultValue ty)) → Go p e below Fn Q T' (mkF m q Ls (.ref b :: S))) : Go p e below Fn Q T (mkF m pc Ls S) := by
  obtain ⟨T', h', X', e', E', A', D', -, st⟩ := newO X hx hZ hown w1 wi wz eT (g := mkF m pc Ls S) rfl hd hc hl
  subst hq; exact (k T' h' _ rfl X' e' E' A' D').st st
theorem g_initO (X : Stand p l e R s m args below meth c T locs cells slots) (hx : p.tables.exec = Jvm.exec) (q : Nat) (hZ : Z.Warmed39 s.vm) {own : String} {index : Nat} (hown : s.vm.findClass own = some m.cls) (w1 : (Jvm.Cond.methodLink own index Lib.objectInit).before a0 Z = true) (w2 : (Jvm.Cond.instanceMethod Lib.objectInit).before a0 Z = true) (w3 : (Jvm.Cond.code Lib.objectInit ⟨#[0xb1]⟩ 1 none).before a0 Z = true) (eT : T.heap = h) (hml : Ls.size = c.maxLocals) {a : Addr} (hd : decode c.code pc = .ok (.invokespecial index, 3)) (hf : 1 ≤ R.frames) (W : Nat) (hW : (S.map fun v => v.category).sum ≤ W) (hl : W + 12 ≤ R.locals) (hq : pc + 3 = q)
    (k : ∀ T', Stand p l e R s m args below meth c T' locs cells slots → T'.heap = h → Go p e below Fn Q T' (mkF m q Ls S)) : Go p e below Fn Q T (mkF m pc Ls (.ref a :: S)) := by
  obtain ⟨T', X', e', st⟩ := initO X hx hZ hown w1 w2 w3 eT (g := mkF m pc Ls (.ref a :: S)) rfl hml rfl hd hf (W := W) (by show 2 * 0 + _ ≤ _; omega) hl
  subst hq; exact (k T' X' e').st st
theorem g_newP (X : Stand p l e R s m args below meth c T locs cells slots) (hx : p.tables.exec = Jvm.exec) (q : Nat) (hZ : Z.Warmed39 s.vm) {aty : ArrayType} (w1 : (Jvm.Cond.arrayClass (newarray.typeOf aty)).before a0 Z = true) (eT : T.heap = h) {n : Int32} (hd : decode c.code pc = .ok (.newarray aty, 2)) (hn : ¬ n < 0) (cap : Nat) (hcap : n.toNatClampNeg ≤ cap) (hb : cap * 8 ≤ 536870912) (hc : cells + 1 ≤ R.cells) (hl : slots + cap ≤ R.slots) (hq : pc + 2 = q)
    (k : ∀ T' h' b kA, b = h.size → Stand p l e R s m args below meth c T' locs (cells + 1) (slots + cap) → T'.heap = h' → Ext h h' → Arv Z h' b kA (newarray.typeOf aty) n [] (defaultValue (newarray.typeOf aty)) → Go p e below Fn Q T' (mkF m q Ls (.ref b :: S))) : Go p e below Fn Q T (mkF m pc Ls (.int n :: S)) := by
  obtain ⟨T', h', cA, X', e', E', A', st⟩ := newP X hx hZ w1 eT (g := mkF m pc Ls (.int n :: S)) rfl hd rfl hn hcap hb hc hl
  subst hq; exact (k T' h' _ cA rfl X' e' E' (Arv.new A' hn)).st st
theorem g_newR (X : Stand p l e R s m args below meth c T locs cells slots) (hx : p.tables.exec = Jvm.exec) (q : Nat) (hZ : Z.Warmed39 s.vm) {own C : String} {index : Nat} (hown : s.vm.findClass own = some m.cls) (w1 : (Jvm.Cond.classLink own index C).before a0 Z = true) (w2 : (Jvm.Cond.arrayOver (.object C)).before a0 Z = true) (eT : T.heap = h) {n : Int32} (hd : decode c.code pc = .ok (.anewarray index, 3)) (hn : ¬ n < 0) (cap : Nat) (hcap : n.toNatClampNeg ≤ cap) (hb : cap * 8 ≤ 536870912) (hc : cells + 1 ≤ R.cells) (hl : slots + cap ≤ R.slots) (hq : pc + 3 = q)
    (k : ∀ T' h' b kA, b = h.size → Stand p l e R s m args below meth c T' locs (cells + 1) (slots + cap) → T'.heap = h' → Ext h h' → Arv Z h' b kA (.object C) n [] .null → Ovr Z kA C → Go p e below Fn Q T' (mkF m q Ls (.ref b :: S))) : Go p e below Fn Q T (mkF m pc Ls (.int n :: S)) := by
  obtain ⟨T', h', cA, X', e', E', A', O', st⟩ := newR X hx hZ hown w1 w2 eT (g := mkF m pc Ls (.int n :: S)) rfl hd rfl hn hcap hb hc hl
  subst hq; exact (k T' h' _ cA rfl X' e' E' (Arv.new A' hn) O').st st
theorem g_iaload (X : Stand p l e R s m args below meth c T locs cells slots) (hx : p.tables.exec = Jvm.exec) (q : Nat) (hZ : Z.Warmed39 s.vm) (eT : T.heap = h) {a : Addr} {kA : ClassId} {n j : Int32} {vs : List Value} {dv v : Value} (V : Arv Z h a kA .int n vs dv) (hj : ¬ j < 0 ∧ j < n) (hv : vs.getD j.toNatClampNeg dv = v) (hd : decode c.code pc = .ok (.iaload, 1)) (hq : pc + 1 = q) (k : Go p e below Fn Q T (mkF m q Ls (v :: S))) : Go p e below Fn Q T (mkF m pc Ls (.int j :: .ref a :: S)) := by
  obtain ⟨cl, A, -, S', -, H', -⟩ := V
  subst hq
  exact k.st fun _ z => X.iaload hx (by rw [eT]; exact A.1) (State.isArrayOf_alike hZ.alike A.2.1) A.2.2 (inb_of S' hj) (H'.at (inb_of S' hj) hv) (g := mkF m pc Ls (.int j :: .ref a :: S)) rfl rfl hd _ z
theorem g_caload (X : Stand p l e R s m args below meth c T locs cells slots) (hx : p.tables.exec = Jvm.exec) (q : Nat) (hZ : Z.Warmed39 s.vm) (eT : T.heap = h) {a : Addr} {kA : ClassId} {n j : Int32} {vs : List Value} {dv v : Value} (V : Arv Z h a kA .char n vs dv) (hj : ¬ j < 0 ∧ j < n) (hv : vs.getD j.toNatClampNeg dv = v) (hd : decode c.code pc = .ok (.caload, 1)) (hq : pc + 1 = q) (k : Go p e below Fn Q T (mkF m q Ls (v :: S))) : Go p e below Fn Q T (mkF m pc Ls (.int j :: .ref a :: S)) := by
  obtain ⟨cl, A, -, S', -, H', -⟩ := V
  subst hq
  exact k.st fun _ z => X.caload hx (by rw [eT]; exact A.1) (State.isArrayOf_alike hZ.alike A.2.1) A.2.2 (inb_of S' hj) (H'.at (inb_of S' hj) hv) (g := mkF m pc Ls (.int j :: .ref a :: S)) rfl rfl hd _ z
theorem g_laload (X : Stand p l e R s m args below meth c T locs cells slots) (hx : p.tables.exec = Jvm.exec) (q : Nat) (hZ : Z.Warmed39 s.vm) (eT : T.heap = h) {a : Addr} {kA : ClassId} {n j : Int32} {vs : List Value} {dv v : Value} (V : Arv Z h a kA .long n vs dv) (hj : ¬ j < 0 ∧ j < n) (hv : vs.getD j.toNatClampNeg dv = v) (hd : decode c.code pc = .ok (.laload, 1)) (hq : pc + 1 = q) (k : Go p e below Fn Q T (mkF m q Ls (v :: S))) : Go p e below Fn Q T (mkF m pc Ls (.int j :: .ref a :: S)) := by
  obtain ⟨cl, A, -, S', -, H', -⟩ := V
  subst hq
  exact k.st fun _ z => X.laload hx (by rw [eT]; exact A.1) (State.isArrayOf_alike hZ.alike A.2.1) A.2.2 (inb_of S' hj) (H'.at (inb_of S' hj) hv) (g := mkF m pc Ls (.int j :: .ref a :: S)) rfl rfl hd _ z
theorem g_baload (X : Stand p l e R s m args below meth c T locs cells slots) (hx : p.tables.exec = Jvm.exec) (q : Nat) (hZ : Z.Warmed39 s.vm) (eT : T.heap = h) {a : Addr} {kA : ClassId} {n j : Int32} {vs : List Value} {dv v : Value} (V : Arv Z h a kA .byte n vs dv) (hj : ¬ j < 0 ∧ j < n) (hv : vs.getD j.toNatClampNeg dv = v) (hd : decode c.code pc = .ok (.baload, 1)) (hq : pc + 1 = q) (k : Go p e below Fn Q T (mkF m q Ls (v :: S))) : Go p e below Fn Q T (mkF m pc Ls (.int j :: .ref a :: S)) := by
  obtain ⟨cl, A, -, S', -, H', -⟩ := V
  subst hq
  exact k.st fun _ z => X.baloadBytes hx (by rw [eT]; exact A.1) (State.isArrayOf_alike hZ.alike A.2.1) A.2.2 (inb_of S' hj) (H'.at (inb_of S' hj) hv) (g := mkF m pc Ls (.int j :: .ref a :: S)) rfl rfl hd _ z
theorem g_aaload (X : Stand p l e R s m args below meth c T locs cells slots) (hx : p.tables.exec = Jvm.exec) (q : Nat) (hZ : Z.Warmed39 s.vm) (eT : T.heap = h) {a : Addr} {kA : ClassId} {C : String} {n j : Int32} {vs : List Value} {dv v : Value} (V : Arv Z h a kA (.object C) n vs dv) (hj : ¬ j < 0 ∧ j < n) (hv : vs.getD j.toNatClampNeg dv = v) (hd : decode c.code pc = .ok (.aaload, 1)) (hq : pc + 1 = q) (k : Go p e below Fn Q T (mkF m q Ls (v :: S))) : Go p e below Fn Q T (mkF m pc Ls (.int j :: .ref a :: S)) := by
  obtain ⟨cl, A, -, S', -, H', -⟩ := V
  subst hq
  exact k.st fun _ z => X.aaload hx (by rw [eT]; exact A.1) (State.isArrayOf_alike hZ.alike A.2.1) rfl A.2.2 (inb_of S' hj) (H'.at (inb_of S' hj) hv) (g := mkF m pc Ls (.int j :: .ref a :: S)) rfl rfl hd _ z
theorem g_arraylength (X : Stand p l e R s m args below meth c T locs cells slots) (hx : p.tables.exec = Jvm.exec) (q : Nat) (hZ : Z.Warmed39 s.vm) (eT : T.heap = h) {a : Addr} {kA : ClassId} {ty : FieldType} {n : Int32} {vs : List Value} {dv : Value} (V : Arv Z h a kA ty n vs dv) (hd : decode c.code pc = .ok (.arraylength, 1)) (hq : pc + 1 = q) (k : Go p e below Fn Q T (mkF m q Ls (.int n :: S))) : Go p e below Fn Q T (mkF m pc Ls (.ref a :: S)) := by
  obtain ⟨cl, A, -, S', N', -, -⟩ := V
  subst hq
  exact k.st fun _ z => X.arraylength hx (by rw [eT]; exact A.1) (State.isArrayOf_alike hZ.alike A.2.1) (g := mkF m pc Ls (.ref a :: S)) rfl rfl hd _ (by rw [len_of S' N']; exact z)
theorem g_aastore (X : Stand p l e R s m args below meth c T locs cells slots) (hx : p.tables.exec = Jvm.exec) (q : Nat) (hZ : Z.Warmed39 s.vm) (eT : T.heap = h) {a b : Addr} {kA : ClassId} {C : String} {n j : Int32} {vs : List Value} {dv : Value} (V : Arv Z h a kA (.object C) n vs dv) (O : Ovr Z kA C) (I : Ins Z h b C true) (i : Nat) (hi : j.toNatClampNeg = i) (hj : ¬ j < 0 ∧ j < n) (hl : i < vs.length) (hd : decode c.code pc = .ok (.aastore, 1)) (hq : pc + 1 = q)
    (k : ∀ T' h', Stand p l e R s m args below meth c T' (locs ++ [⟨a, j.toNatClampNeg⟩]) cells slots → T'.heap = h' → Wr h h' a j.toNatClampNeg (.ref b) → Arv Z h' a kA (.object C) n (vs.set i (.ref b)) dv → Go p e below Fn Q T' (mkF m q Ls S)) : Go p e below Fn Q T (mkF m pc Ls (.ref b :: .int j :: .ref a :: S)) := by
  obtain ⟨cl, A, q1, S', N', H', G'⟩ := V
  subst hq
  obtain ⟨T', h', X', e', W', st⟩ := stR X hx hZ eT A (j := j) (inb_of S' hj) rfl (Sto.ofV A q1 O I) (g := mkF m pc Ls (.ref b :: .int j :: .ref a :: S)) rfl rfl hd
  exact (k T' h' X' e' W' (Arv.set A q1 S' N' H' G' rfl W' i hi hl)).st st
theorem g_iastore (X : Stand p l e R s m args below meth c T locs cells slots) (hx : p.tables.exec = Jvm.exec) (q : Nat) (hZ : Z.Warmed39 s.vm) (eT : T.heap = h) {a : Addr} {kA : ClassId} {n j x : Int32} {vs : List Value} {dv : Value} (V : Arv Z h a kA .int n vs dv) (i : Nat) (hi : j.toNatClampNeg = i) (hj : ¬ j < 0 ∧ j < n) (hl : i < vs.length) (hd : decode c.code pc = .ok (.iastore, 1)) (hq : pc + 1 = q)
    (k : ∀ T' h', Stand p l e R s m args below meth c T' (locs ++ [⟨a, j.toNatClampNeg⟩]) cells slots → T'.heap = h' → Wr h h' a j.toNatClampNeg (.int x) → Arv Z h' a kA .int n (vs.set i (.int x)) dv → Go p e below Fn Q T' (mkF m q Ls S)) : Go p e below Fn Q T (mkF m pc Ls (.int x :: .int j :: .ref a :: S)) := by
  obtain ⟨cl, A, q1, S', N', H', G'⟩ := V
  subst hq
  obtain ⟨T', h', X', e', W', st⟩ := stI X hx hZ eT A (j := j) (inb_of S' hj) (g := mkF m pc Ls (.int x :: .int j :: .ref a :: S)) rfl rfl hd
  exact (k T' h' X' e' W' (Arv.set A q1 S' N' H' G' rfl W' i hi hl)).st st
theorem g_castore (X : Stand p l e R s m args below meth c T locs cells slots) (hx : p.tables.exec = Jvm.exec) (q : Nat) (hZ : Z.Warmed39 s.vm) (eT : T.heap = h) {a : Addr} {kA : ClassId} {n j x : Int32} {vs : List Value} {dv : Value} (V : Arv Z h a kA .char n vs dv) (i : Nat) (hi : j.toNatClampNeg = i) (hj : ¬ j < 0 ∧ j < n) (hl : i < vs.length) (hd : decode c.code pc = .ok (.castore, 1)) (hq : pc + 1 = q)
    (k : ∀ T' h', Stand p l e R s m args below meth c T' (locs ++ [⟨a, j.toNatClampNeg⟩]) cells slots → T'.heap = h' → Wr h h' a j.toNatClampNeg (.int (nar .char x)) → Arv Z h' a kA .char n (vs.set i (.int (nar .char x))) dv → Go p e below Fn Q T' (mkF m q Ls S)) : Go p e below Fn Q T (mkF m pc Ls (.int x :: .int j :: .ref a :: S)) := by
  obtain ⟨cl, A, q1, S', N', H', G'⟩ := V
  subst hq
  obtain ⟨T', h', X', e', W', st⟩ := stC X hx hZ eT A (j := j) (inb_of S' hj) (g := mkF m pc Ls (.int x :: .int j :: .ref a :: S)) rfl rfl hd
  exact (k T' h' X' e' W' (Arv.set A q1 S' N' H' G' (fits_nar_char _) W' i hi hl)).st st
theorem g_bastore (X : Stand p l e R s m args below meth c T locs cells slots) (hx : p.tables.exec = Jvm.exec) (q : Nat) (hZ : Z.Warmed39 s.vm) (eT : T.heap = h) {a : Addr} {kA : ClassId} {n j x : Int32} {vs : List Value} {dv : Value} (V : Arv Z h a kA .byte n vs dv) (i : Nat) (hi : j.toNatClampNeg = i) (hj : ¬ j < 0 ∧ j < n) (hl : i < vs.length) (hd : decode c.code pc = .ok (.bastore, 1)) (hq : pc + 1 = q)
    (k : ∀ T' h', Stand p l e R s m args below meth c T' (locs ++ [⟨a, j.toNatClampNeg⟩]) cells slots → T'.heap = h' → Wr h h' a j.toNatClampNeg (.int (nar .byte x)) → Arv Z h' a kA .byte n (vs.set i (.int (nar .byte x))) dv → Go p e below Fn Q T' (mkF m q Ls S)) : Go p e below Fn Q T (mkF m pc Ls (.int x :: .int j :: .ref a :: S)) := by
  obtain ⟨cl, A, q1, S', N', H', G'⟩ := V
  subst hq
  obtain ⟨T', h', X', e', W', st⟩ := stB X hx hZ eT A (j := j) (inb_of S' hj) (g := mkF m pc Ls (.int x :: .int j :: .ref a :: S)) rfl rfl hd
  exact (k T' h' X' e' W' (Arv.set A q1 S' N' H' G' (fits_nar_byte _) W' i hi hl)).st st
theorem g_callS (X : Stand p l e R s m args below meth c T locs cells slots) (hx : p.tables.exec = Jvm.exec) (q : Nat) (hZ : Z.Warmed39 s.vm) {own : String} {index : Nat} {y : MethodName} {bytes : ByteArray} {maxL : Nat} {ret : Option FieldType} {rm : Room} {Qc : Option Value → Heap → List Loc → Prop} (hown : s.vm.findClass own = some m.cls) (w1 : (Jvm.Cond.methodLink own index y).before a0 Z = true) (w2 : (Jvm.Cond.static y).before a0 Z = true) (w3 : (Jvm.Cond.initialized y.cls).before a0 Z = true) (w4 : (Jvm.Cond.code y bytes maxL ret).before a0 Z = true) (hy : y.cls ≠ "java/lang/invoke/MethodHandle" ∧ y.cls ≠ "java/lang/invoke/VarHandle") (argsL rest : List Value) (hM : OwnMet l Z y bytes maxL ret [] rm argsL h Qc)
    (eT : T.heap = h) (W : Nat) (hf : rm.frames + 1 ≤ R.frames) (hl : W + (maxL + 11) + rm.locals ≤ R.locals) (hc : cells + rm.cells ≤ R.cells) (hs : slots + rm.slots ≤ R.slots) (hml : Ls.size = c.maxLocals) (hlen : ∀ sig, parseMethodDescriptor y.desc = some sig → argsL.length = sig.parameters.length) (hd : decode c.code pc = .ok (.invokestatic index, 3)) (hst : S = argsL.reverse ++ rest) (hW : (rest.map fun v => v.category).sum ≤ W) (hq : pc + 3 = q) (k : ∀ v T' L', Stand p l e R s m args below meth c T' (locs ++ L') (cells + rm.cells) (slots + rm.slots) → Qc v T'.heap L' → Go p e below Fn Q T' (mkF m q Ls (v.toList ++ rest))) : Go p e below Fn Q T (mkF m pc Ls S) := by
  subst hst
  obtain ⟨v, _, ⟨T', L', k', n'⟩, -, X', ⟨Lc, hQ, l', y', z'⟩, st⟩ := Jvm.LawKit.callS X hx (y := y) hown (mvT hZ w1) (mvT hZ w2) (mvT hZ w3) (mvT hZ w4) hy (backOf (W := W) hM hZ w4 w3 hf hl) (g := mkF m pc Ls (argsL.reverse ++ rest)) rfl hml (argsL := argsL) (rest := rest) hlen rfl (by show 2 * 0 + _ ≤ _; omega) hd (fun _ _ => ⟨rfl, eT, hc, hs⟩)
  dsimp only [Pt.U, Pt.locs, Pt.cells, Pt.slots] at X' l' y' z' st hQ
  subst l' y' z' hq
  exact (k v T' Lc X' hQ).st st
theorem g_callI (X : Stand p l e R s m args below meth c T locs cells slots) (hx : p.tables.exec = Jvm.exec) (q : Nat) (hZ : Z.Warmed39 s.vm) {own : String} {index : Nat} {y : MethodName} {bytes : ByteArray} {maxL : Nat} {rm : Room} {Qc : Option Value → Heap → List Loc → Prop} (hy1 : y.name = "<init>") (hown : s.vm.findClass own = some m.cls) (w1 : (Jvm.Cond.methodLink own index y).before a0 Z = true) (w2 : (Jvm.Cond.instanceMethod y).before a0 Z = true) (w3 : (Jvm.Cond.initialized y.cls).before a0 Z = true) (w4 : (Jvm.Cond.code y bytes maxL none).before a0 Z = true) (hy : y.cls ≠ "java/lang/invoke/MethodHandle" ∧ y.cls ≠ "java/lang/invoke/VarHandle") (a : Addr) (argsL rest : List Value) (hM : OwnMet l Z y bytes maxL none [] rm (.ref a :: argsL) h Qc)
    (eT : T.heap = h) (W : Nat) (hf : rm.frames + 1 ≤ R.frames) (hl : W + (maxL + 11) + rm.locals ≤ R.locals) (hc : cells + rm.cells ≤ R.cells) (hs : slots + rm.slots ≤ R.slots) (hml : Ls.size = c.maxLocals) (hlen : ∀ sig, parseMethodDescriptor y.desc = some sig → argsL.length = sig.parameters.length) (hd : decode c.code pc = .ok (.invokespecial index, 3)) (hst : S = argsL.reverse ++ .ref a :: rest) (hW : (rest.map fun v => v.category).sum ≤ W) (hq : pc + 3 = q) (k : ∀ v T' L', Stand p l e R s m args below meth c T' (locs ++ L') (cells + rm.cells) (slots + rm.slots) → Qc v T'.heap L' → Go p e below Fn Q T' (mkF m q Ls (v.toList ++ rest))) : Go p e below Fn Q T (mkF m pc Ls S) := by
  subst hst
  obtain ⟨v, _, ⟨T', L', k', n'⟩, -, X', ⟨Lc, hQ, l', y', z'⟩, st⟩ := X.specialBack hx (y := y) hy1 hown (mvT hZ w1) (mvT hZ w2) (mvT hZ w4) hy (backOf (W := W) hM hZ w4 w3 hf hl) (g := mkF m pc Ls (argsL.reverse ++ .ref a :: rest)) rfl hml (Steps.refl _) (a := a) (argsL := argsL) (rest := rest) hlen rfl (by show 2 * 0 + _ ≤ _; omega) hd (fun _ _ => ⟨rfl, eT, hc, hs⟩)
  dsimp only [Pt.U, Pt.locs, Pt.cells, Pt.slots] at X' l' y' z' st hQ
  subst l' y' z' hq
  exact (k v T' Lc X' hQ).st fun _ z => st.trans z
theorem g_callV (X : Stand p l e R s m args below meth c T locs cells slots) (hx : p.tables.exec = Jvm.exec) (q : Nat) (hZ : Z.Warmed39 s.vm) {own C : String} {index : Nat} {y : MethodName} {bytes : ByteArray} {maxL : Nat} {ret : Option FieldType} {rm : Room} {Qc : Option Value → Heap → List Loc → Prop} (hown : s.vm.findClass own = some m.cls) (w1 : (Jvm.Cond.methodLink own index y).before a0 Z = true) (w2 : (Jvm.Cond.declares y).before a0 Z = true) (w5 : (Jvm.Cond.selects C y y).before a0 Z = true) (w6 : (Jvm.Cond.instanceMethod y).before a0 Z = true) (w3 : (Jvm.Cond.initialized y.cls).before a0 Z = true) (w4 : (Jvm.Cond.code y bytes maxL ret).before a0 Z = true) (hy : y.cls ≠ "java/lang/invoke/MethodHandle" ∧ y.cls ≠ "java/lang/invoke/VarHandle") (a : Addr) (E : Exa Z h a C) (argsL rest : List Value) (hM : OwnMet l Z y bytes maxL ret [] rm (.ref a :: argsL) h Qc)
    (eT : T.heap = h) (W : Nat) (hf : rm.frames + 1 ≤ R.frames) (hl : W + (maxL + 11) + rm.locals ≤ R.locals) (hc : cells + rm.cells ≤ R.cells) (hs : slots + rm.slots ≤ R.slots) (hml : Ls.size = c.maxLocals) (hlen : ∀ sig, parseMethodDescriptor y.desc = some sig → argsL.length = sig.parameters.length) (hd : decode c.code pc = .ok (.invokevirtual index, 3)) (hst : S = argsL.reverse ++ .ref a :: rest) (hW : (rest.map fun v => v.category).sum ≤ W) (hq : pc + 3 = q) (k : ∀ v T' L', Stand p l e R s m args below meth c T' (locs ++ L') (cells + rm.cells) (slots + rm.slots) → Qc v T'.heap L' → Go p e below Fn Q T' (mkF m q Ls (v.toList ++ rest))) : Go p e below Fn Q T (mkF m pc Ls S) := by
  subst hst
  obtain ⟨cq, kq, qa, qb, qc⟩ := isOf (T := T) hZ eT E
  obtain ⟨v, _, ⟨T', L', k', n'⟩, -, X', ⟨Lc, hQ, l', y', z'⟩, st⟩ := X.virtualBack hx (y := y) (z := y) hown (mvT hZ w1) (mvT hZ w2) (notFace_of_selects (args := #[]) (mvT hZ w5)) (mvT hZ w5) (mvT hZ w6) hy (backOf (W := W) hM hZ w4 w3 hf hl) qa qc (g := mkF m pc Ls (argsL.reverse ++ .ref a :: rest)) rfl hml (Steps.refl _) (argsL := argsL) (rest := rest) hlen rfl (by show 2 * 0 + _ ≤ _; omega) hd (fun _ _ => ⟨rfl, eT, hc, hs⟩)
  dsimp only [Pt.U, Pt.locs, Pt.cells, Pt.slots] at X' l' y' z' st hQ
  subst l' y' z' hq
  exact (k v T' Lc X' hQ).st fun _ z => st.trans z
theorem g_newPE (X : Stand p l e R s m args below meth c T locs cells slots) (hx : p.tables.exec = Jvm.exec) (q : Nat) (hZ : Z.Warmed39 s.vm) {aty : ArrayType} (w1 : (Jvm.Cond.arrayClass (newarray.typeOf aty)).before a0 Z = true) (eT : T.heap = h) {n : Int32} (hd : decode c.code pc = .ok (.newarray aty, 2)) (hn : ¬ n < 0) (cap : Nat) (hcap : n.toNatClampNeg ≤ cap) (hb : cap * 8 ≤ 536870912) (hc : cells + 1 ≤ R.cells) (hl : slots + cap ≤ R.slots) (ad : String) (had : "[" ++ (newarray.typeOf aty).toString = ad) (hq : pc + 2 = q)
    (k : ∀ T' h' b kA, b = h.size → Stand p l e R s m args below meth c T' locs (cells + 1) (slots + cap) → T'.heap = h' → Ext h h' → Arv Z h' b kA (newarray.typeOf aty) n [] (defaultValue (newarray.typeOf aty)) → Exa Z h' b ad → Go p e below Fn Q T' (mkF m q Ls (.ref b :: S))) : Go p e below Fn Q T (mkF m pc Ls (.int n :: S)) := by
  obtain ⟨T', h', cA, X', e', E', A', I', st⟩ := newPE X hx hZ w1 eT (g := mkF m pc Ls (.int n :: S)) rfl hd rfl hn hcap hb hc hl had
  subst hq; exact (k T' h' _ cA rfl X' e' E' (Arv.new A' hn) I').st st
theorem g_clone (X : Stand p l e R s m args below meth c T locs cells slots) (hx : p.tables.exec = Jvm.exec) (q : Nat) (hZ : Z.Warmed39 s.vm) {own ad : String} {index : Nat} (hown : s.vm.findClass own = some m.cls) (w1 : (Jvm.Cond.methodLink own index ⟨ad, "clone", "()Ljava/lang/Object;"⟩).before a0 Z = true) (w2 : (Jvm.Cond.sameMethod ad "java/lang/Object" "clone" "()Ljava/lang/Object;").before a0 Z = true) (w3 : (Jvm.Cond.native ⟨"java/lang/Object", "clone", "()Ljava/lang/Object;"⟩).before a0 Z = true) (w4 : (Jvm.Cond.instanceMethod ⟨"java/lang/Object", "clone", "()Ljava/lang/Object;"⟩).before a0 Z = true) (w5 : (Jvm.Cond.selects ad ⟨ad, "clone", "()Ljava/lang/Object;"⟩ ⟨"java/lang/Object", "clone", "()Ljava/lang/Object;"⟩).before a0 Z = true) (w6 : (Jvm.Cond.castable ad "java/lang/Cloneable").before a0 Z = true)
    (eT : T.heap = h) {a : Addr} {kA : ClassId} {ty : FieldType} {n : Int32} {vs : List Value} {dv : Value} (V : Arv Z h a kA ty n vs dv) (E : Exa Z h a ad) (hml : Ls.size = c.maxLocals) (hd : decode c.code pc = .ok (.invokevirtual index, 3)) (hf : 1 ≤ R.frames) (W cap : Nat) (hW : (S.map fun v => v.category).sum ≤ W) (hl : W + 14 ≤ R.locals) (hcap : n.toNatClampNeg ≤ cap) (hc : cells + 1 ≤ R.cells) (hsl : slots + cap ≤ R.slots) (hq : pc + 3 = q)
    (k : ∀ T' h' b, b = h.size → Stand p l e R s m args below meth c T' locs (cells + 1) (slots + cap) → T'.heap = h' → Ext h h' → Arv Z h' b kA ty n vs dv → Exa Z h' b ad → Go p e below Fn Q T' (mkF m q Ls (.ref b :: S))) : Go p e below Fn Q T (mkF m pc Ls (.ref a :: S)) := by
  obtain ⟨T', h', X', e', E', V', I', st⟩ := cloneH X hx hZ hown w1 w2 w3 w4 w5 w6 eT V.arh E (g := mkF m pc Ls (.ref a :: S)) rfl hml rfl hd hf (W := W) (by show 2 * 0 + _ ≤ _; omega) hl hcap hc hsl
  subst hq; exact (k T' h' _ rfl X' e' E' V' I').st st
theorem g_cast (X : Stand p l e R s m args below meth c T locs cells slots) (hx : p.tables.exec = Jvm.exec) (q : Nat) (hZ : Z.Warmed39 s.vm) {own C : String} {index : Nat} (hown : s.vm.findClass own = some m.cls) (w1 : (Jvm.Cond.classLink own index C).before a0 Z = true) (eT : T.heap = h) {a : Addr} (I : Ins Z h a C true) (hd : decode c.code pc = .ok (.checkcast index, 3)) (hq : pc + 3 = q)
    (k : ∀ T', Stand p l e R s m args below meth c T' locs cells slots → T'.heap = h → Go p e below Fn Q T' (mkF m q Ls (.ref a :: S))) : Go p e below Fn Q T (mkF m pc Ls (.ref a :: S)) := by
  obtain ⟨T', X', e', st⟩ := castY X hx hZ hown w1 eT I (g := mkF m pc Ls (.ref a :: S)) rfl rfl hd
  subst hq; exact (k T' X' e').st st
theorem g_callU (X : Stand p l e R s m args below meth c T locs cells slots) (hx : p.tables.exec = Jvm.exec) (q : Nat) (hZ : Z.Warmed39 s.vm) {own C owner : String} {index : Nat} {x y : MethodName} {bytes : ByteArray} {maxL : Nat} {ret : Option FieldType} {rm : Room} {Qc : Option Value → Heap → List Loc → Prop} (hown : s.vm.findClass own = some m.cls) (w1 : (Jvm.Cond.methodLink own index x).before a0 Z = true) (w2 : (Jvm.Cond.sameMethod x.cls owner x.name x.desc).before a0 Z = true) (w7 : (Jvm.Cond.declares ⟨owner, x.name, x.desc⟩).before a0 Z = true) (hy : owner ≠ "java/lang/invoke/MethodHandle" ∧ owner ≠ "java/lang/invoke/VarHandle") (w5 : (Jvm.Cond.selects C x y).before a0 Z = true) (w6 : (Jvm.Cond.instanceMethod y).before a0 Z = true) (w3 : (Jvm.Cond.initialized y.cls).before a0 Z = true) (w4 : (Jvm.Cond.code y bytes maxL ret).before a0 Z = true) (a : Addr) (E : Exa Z h a C) (argsL rest : List Value) (hM : OwnMet l Z y bytes maxL ret [] rm (.ref a :: argsL) h Qc)
    (eT : T.heap = h) (W : Nat) (hf : rm.frames + 1 ≤ R.frames) (hl : W + (maxL + 11) + rm.locals ≤ R.locals) (hc : cells + rm.cells ≤ R.cells) (hs : slots + rm.slots ≤ R.slots) (hml : Ls.size = c.maxLocals) (hlen : ∀ sig, parseMethodDescriptor x.desc = some sig → argsL.length = sig.parameters.length) (hd : decode c.code pc = .ok (.invokevirtual index, 3)) (hst : S = argsL.reverse ++ .ref a :: rest) (hW : (rest.map fun v => v.category).sum ≤ W) (hq : pc + 3 = q) (k : ∀ v T' L', Stand p l e R s m args below meth c T' (locs ++ L') (cells + rm.cells) (slots + rm.slots) → Qc v T'.heap L' → Go p e below Fn Q T' (mkF m q Ls (v.toList ++ rest))) : Go p e below Fn Q T (mkF m pc Ls S) := by
  subst hst
  obtain ⟨cq, kq, qa, qb, qc⟩ := isOf (T := T) hZ eT E
  obtain ⟨v, _, ⟨T', L', k', n'⟩, -, X', ⟨Lc, hQ, l', y', z'⟩, st⟩ := X.virtualBackUp hx (x := x) (y := y) hown (mvT hZ w1) (mvT hZ w2) (mvT hZ w7) hy (mvT hZ w5) (mvT hZ w6) (backOf (W := W) hM hZ w4 w3 hf hl) qa qc (g := mkF m pc Ls (argsL.reverse ++ .ref a :: rest)) rfl hml (Steps.refl _) (argsL := argsL) (rest := rest) hlen rfl (by show 2 * 0 + _ ≤ _; omega) hd (fun _ _ => ⟨rfl, eT, hc, hs⟩)
  dsimp only [Pt.U, Pt.locs, Pt.cells, Pt.slots] at X' l' y' z' st hQ
  subst l' y' z' hq
  exact (k v T' Lc X' hQ).st fun _ z => st.trans z
theorem g_callP (X : Stand p l e R s m args below meth c T locs cells slots) (hx : p.tables.exec = Jvm.exec) (q : Nat) (hZ : Z.Warmed39 s.vm) {own C0 : String} {index : Nat} {y y0 : MethodName} {bytes : ByteArray} {maxL : Nat} {ret : Option FieldType} {rm : Room} {Qc : Option Value → Heap → List Loc → Prop} (hown : s.vm.findClass own = some m.cls) (w1 : (Jvm.Cond.methodLink own index y).before a0 Z = true) (w6 : (Jvm.Cond.instanceMethod y).before a0 Z = true) (w8 : (Jvm.Cond.privateMethod y).before a0 Z = true) (w5 : (Jvm.Cond.selects C0 y0 y0).before a0 Z = true) (hc0 : y0.cls = y.cls) (w3 : (Jvm.Cond.initialized y.cls).before a0 Z = true) (w4 : (Jvm.Cond.code y bytes maxL ret).before a0 Z = true) (hy : y.cls ≠ "java/lang/invoke/MethodHandle" ∧ y.cls ≠ "java/lang/invoke/VarHandle") {C : String} (a : Addr) (E : Exa Z h a C) (argsL rest : List Value) (hM : OwnMet l Z y bytes maxL ret [] rm (.ref a :: argsL) h Qc)
    (eT : T.heap = h) (W : Nat) (hf : rm.frames + 1 ≤ R.frames) (hl : W + (maxL + 11) + rm.locals ≤ R.locals) (hc : cells + rm.cells ≤ R.cells) (hs : slots + rm.slots ≤ R.slots) (hml : Ls.size = c.maxLocals) (hlen : ∀ sig, parseMethodDescriptor y.desc = some sig → argsL.length = sig.parameters.length) (hd : decode c.code pc = .ok (.invokevirtual index, 3)) (hst : S = argsL.reverse ++ .ref a :: rest) (hW : (rest.map fun v => v.category).sum ≤ W) (hq : pc + 3 = q) (k : ∀ v T' L', Stand p l e R s m args below meth c T' (locs ++ L') (cells + rm.cells) (slots + rm.slots) → Qc v T'.heap L' → Go p e below Fn Q T' (mkF m q Ls (v.toList ++ rest))) : Go p e below Fn Q T (mkF m pc Ls S) := by
  subst hst
  have hpriv : s.PrivateAt y := Cond.privateMethod_at (mvP hZ w8 (args := #[]))
  have hsel : (Jvm.Cond.selects y.cls y y).before args s = true := by
    obtain ⟨c2, r2, m2, -, -, q3, -, kP, hkP, hkPi⟩ := Cond.selects_spec (mvT hZ w5 : (Jvm.Cond.selects C0 y0 y0).before args s = true)
    exact selects_self_of_private (hc0 ▸ findClass_of_methodNamed q3) hkP hkPi hpriv (mvT hZ w6) hy
  obtain ⟨cq, qa, qb⟩ := E.cell
  obtain ⟨v, _, ⟨T', L', k', n'⟩, -, X', ⟨Lc, hQ, l', y', z'⟩, st⟩ := X.privateBack hx (y := y) hown (mvT hZ w1) (mvT hZ w6) hsel hpriv (mvT hZ w4) hy (backOf (W := W) hM hZ w4 w3 hf hl) (g := mkF m pc Ls (argsL.reverse ++ .ref a :: rest)) rfl hml (Steps.refl _) (a := a) (by rw [eT]; exact qa) qb (argsL := argsL) (rest := rest) hlen rfl (by show 2 * 0 + _ ≤ _; omega) hd (fun _ _ => ⟨rfl, eT, hc, hs⟩)
  dsimp only [Pt.U, Pt.locs, Pt.cells, Pt.slots] at X' l' y' z' st hQ
  subst l' y' z' hq
  exact (k v T' Lc X' hQ).st fun _ z => st.trans z
theorem own_sta_keep {h' : Heap} {C n d : String} {v : Value} (F : Sta Z h C n d v) (Kp : Keep h h' []) : Sta Z h' C n d v := by
  obtain ⟨cf, i, k, f, st, cell, h1, h2, h3, h4, h5, r⟩ := F
  exact ⟨cf, i, k, f, st, cell, h1, h2, h3, h4, Kp.2.1 _ _ h5 nin0, r⟩
theorem own_plain {C : String} {x : Addr} (F : Exa Z h x C) : ∃ cl : Cell, h[x]? = some cl ∧ cl.vm.isStatics = false := by
  obtain ⟨c, _, h1, -, -, h4, -⟩ := F; exact ⟨c, h1, h4⟩
theorem own_sta_keep' {h' : Heap} {C n d : String} {v : Value} {x : Addr} (F : Sta Z h C n d v) (Kp : Keep h h' [x]) (hp : ∃ cl : Cell, h[x]? = some cl ∧ cl.vm.isStatics = false) : Sta Z h' C n d v := by
  obtain ⟨cf, i, k, f, st, cell, h1, h2, h3, h4, h5, h6, r⟩ := F
  obtain ⟨cl, q1, q2⟩ := hp
  have ne : st ≠ x := fun q => by rw [q] at h5; rw [q1] at h5; cases h5; rw [q2] at h6; cases h6
  exact ⟨cf, i, k, f, st, cell, h1, h2, h3, h4, Kp.2.1 _ _ h5 (ninS ne nin0), h6, r⟩
end OwnKit
theorem own_nn (a : Int32) : ¬ (a &&& (2147483647 : Int32)) < 0 := by
  rw [Int32.lt_iff_toInt_lt]
  show ¬ (a &&& 2147483647).toBitVec.toInt < 0
  rw [Int32.toBitVec_and, BitVec.toInt_neg_iff]
  rw [Nat.not_le, BitVec.toNat_and]
  have : a.toBitVec.toNat &&& (2147483647 : Int32).toBitVec.toNat ≤ (2147483647 : Int32).toBitVec.toNat := Nat.and_le_right
  have e : (2147483647 : Int32).toBitVec.toNat = 2147483647 := by decide
  omega
theorem own_nnL (a : Int64) : ¬ (a &&& (9223372036854775807 : Int64)) < 0 := by
  rw [Int64.lt_iff_toInt_lt]
  show ¬ (a &&& 9223372036854775807).toBitVec.toInt < 0
  rw [Int64.toBitVec_and, BitVec.toInt_neg_iff]
  rw [Nat.not_le, BitVec.toNat_and]
  have : a.toBitVec.toNat &&& (9223372036854775807 : Int64).toBitVec.toNat ≤ (9223372036854775807 : Int64).toBitVec.toNat := Nat.and_le_right
  have e : (9223372036854775807 : Int64).toBitVec.toNat = 9223372036854775807 := by decide
  omega
theorem own_modb (a n : Int32) (ha : ¬ a < 0) (hn : 0 < n) : ¬ a % n < 0 ∧ a % n < n := by
  rw [Int32.lt_iff_toInt_lt] at *
  rw [Int32.lt_iff_toInt_lt] at *
  rw [Int32.toInt_mod]
  have z : (0 : Int32).toInt = 0 := rfl
  rw [z] at *
  have h1 := Int.tmod_nonneg n.toInt (Int.not_lt.mp ha)
  have h2 := Int.tmod_lt_of_pos a.toInt hn
  omega
theorem own_nar2 (x : Int32) : nar .char (nar .char x) = nar .char x := Value.int.inj (Jvm.Free.XT.narrow_c x)
theorem own_nrw {c : Int32} (h : nar .char c = c) : narrow .char (.int c) = .int c := congrArg Value.int h
theorem own_fit {c : Int32} (h : nar .char c = c) : fits .char (.int c) = true := by rw [← h]; exact fits_nar_char c
def own_term (c : Int32) : Int32 := if c = 10 then 1 else if c = 13 then 1 else 0
def own_low (c : Int32) : Int32 := if c < 56320 then 0 else if c < 57344 then 1 else 0
def own_high (c : Int32) : Int32 := if c < 55296 then 0 else if c < 56320 then 1 else 0
def own_ends (c q : Int32) : Int32 := if c = 13 then 1 else if q = 13 then 0 else 1
theorem own_pn0 : plainName "gleanwell/Position" = true := by first | (simp [plainName, overriddenIn]; done) | decide +kernel
theorem d1_0 : decode prog_33_method_1_code 0 = .ok (.aload_n 0, 1) := by decide +kernel
theorem d1_1 : decode prog_33_method_1_code 1 = .ok (.invokespecial 1, 3) := by decide +kernel
theorem d1_4 : decode prog_33_method_1_code 4 = .ok (.aload_n 0, 1) := by decide +kernel
theorem d1_5 : decode prog_33_method_1_code 5 = .ok (.lconst 1, 1) := by decide +kernel
theorem d1_6 : decode prog_33_method_1_code 6 = .ok (.putfield 7, 3) := by decide +kernel
theorem d1_9 : decode prog_33_method_1_code 9 = .ok (.aload_n 0, 1) := by decide +kernel
theorem d1_10 : decode prog_33_method_1_code 10 = .ok (.lconst 1, 1) := by decide +kernel
theorem d1_11 : decode prog_33_method_1_code 11 = .ok (.putfield 13, 3) := by decide +kernel
theorem d1_14 : decode prog_33_method_1_code 14 = .ok (.return_, 1) := by decide +kernel
set_option maxRecDepth 65536 in
set_option maxHeartbeats 40000000 in
theorem rm1 (l : Launch) (Z : State) (a0 : Array Value) (hw : ∀ d ∈ tables_1, d.before a0 Z = true) (a : Addr) (u1 u2 : Value) (h0 : Heap) (n0 : Nat) (Z0 : n0 ≤ h0.size) (g_a : n0 ≤ a) (E_a : Exa Z h0 a "gleanwell/Position") (F_ln : Fld Z h0 a "gleanwell/Position" "line" "J" u1) (F_co : Fld Z h0 a "gleanwell/Position" "column" "J" u2) (F_la : Fld Z h0 a "gleanwell/Position" "last" "C" (.int (0 : Int32))) :
    OwnMet l Z (⟨"gleanwell/Position", "<init>", "()V"⟩ : MethodName) prog_33_method_1_code 1 none [] ({ frames := 1, cells := 0, slots := 0, locals := 12 } : Room) [(.ref a)] h0 (fun v h L => v = none ∧ Fr n0 L ∧ Keep h0 h [a] ∧ Exa Z h a "gleanwell/Position" ∧ Fld Z h a "gleanwell/Position" "line" "J" (.long 1) ∧ Fld Z h a "gleanwell/Position" "column" "J" (.long 1) ∧ Fld Z h a "gleanwell/Position" "last" "C" (.int (0 : Int32))) := by
  refine own_body (Ls := #[.val (.ref a)]) (plainFor_of_name own_pn0) (fun m => by first | (simp [entryFrame, mkF, argsToLocals, Value.category]; done) | rfl) (fun p e s m below meth cO T0 hx hby hml hown hnm hret hlk hZ X0 e0 => ?_)
  have hown : s.vm.findClass "gleanwell/Position" = some m.cls := hown
  have N0 := Fr.nil n0
  have K0 := Keep.refl h0 [a]
  refine g_aloadN X0 hx 1 (hb hby d1_0) rfl rfl rfl ?_
  refine g_initO X0 hx 4 hZ hown (own_w hw 7 rfl) (own_w hw 8 rfl) (own_w hw 9 rfl) e0 (by rw [hml]; rfl) (hb hby d1_1) (by decide) 0 (Nat.le_of_eq rfl) (by decide) rfl (fun T1 X1 e1 => ?_)
  refine g_aloadN X1 hx 5 (hb hby d1_4) rfl rfl rfl ?_
  refine g_lconst X1 hx 6 (1 : Int64) (hb hby d1_5) (by decide) rfl ?_
  refine g_putF X1 hx 9 hZ hown (host := "") (Or.inl (own_w hw 10 rfl)) Via.refl e1 F_ln E_a (Or.inl (own_w hw 11 rfl)) (own_w hw 2 rfl) (ty := .long) (by decide) rfl rfl (hb hby d1_6) rfl (fun T2 h2 X2 e2 W2 => ?_)
  have E_a := E_a.wr W2
  have F_ln := F_ln.same W2
  have F_co := F_co.other W2 (Or.inr (slot_ne (Or.inl (own_w hw 13 rfl)) (Or.inl (own_w hw 11 rfl)) (by decide) (t := .long) (t' := .long) (by decide) (by decide)))
  have F_la := F_la.other W2 (Or.inr (slot_ne (Or.inl (own_w hw 28 rfl)) (Or.inl (own_w hw 11 rfl)) (by decide) (t := .char) (t' := .long) (by decide) (by decide)))
  have N2 := Fr.snoc X2 N0 g_a
  have Z2 : n0 ≤ h2.size := by rw [W2.size]; exact Z0
  have K2 := K0.wr W2 (Or.inl (List.mem_of_getElem? (i := 0) rfl))
  refine g_aloadN X2 hx 10 (hb hby d1_9) rfl rfl rfl ?_
  refine g_lconst X2 hx 11 (1 : Int64) (hb hby d1_10) (by decide) rfl ?_
  refine g_putF X2 hx 14 hZ hown (host := "") (Or.inl (own_w hw 12 rfl)) Via.refl e2 F_co E_a (Or.inl (own_w hw 13 rfl)) (own_w hw 2 rfl) (ty := .long) (by decide) rfl rfl (hb hby d1_11) rfl (fun T3 h3 X3 e3 W3 => ?_)
  have E_a := E_a.wr W3
  have F_ln := F_ln.other W3 (Or.inr (slot_ne (Or.inl (own_w hw 11 rfl)) (Or.inl (own_w hw 13 rfl)) (by decide) (t := .long) (t' := .long) (by decide) (by decide)))
  have F_co := F_co.same W3
  have F_la := F_la.other W3 (Or.inr (slot_ne (Or.inl (own_w hw 28 rfl)) (Or.inl (own_w hw 13 rfl)) (by decide) (t := .char) (t' := .long) (by decide) (by decide)))
  have N3 := Fr.snoc X3 N2 g_a
  have Z3 : n0 ≤ h3.size := by rw [W3.size]; exact Z2
  have K3 := K2.wr W3 (Or.inl (List.mem_of_getElem? (i := 0) rfl))
  exact g_retV X3 hx hret hlk (hb hby d1_14) (by decide) (by decide) (by rw [e3]; exact ⟨rfl, N3, K3, E_a, F_ln, F_co, F_la⟩)
theorem d4_0 : decode prog_33_method_4_code 0 = .ok (.iload_n 0, 1) := by decide +kernel
theorem d4_1 : decode prog_33_method_4_code 1 = .ok (.bipush 10, 2) := by decide +kernel
theorem d4_3 : decode prog_33_method_4_code 3 = .ok (.if_icmp .eq 9, 3) := by decide +kernel
theorem d4_12 : decode prog_33_method_4_code 12 = .ok (.iconst 1, 1) := by decide +kernel
theorem d4_13 : decode prog_33_method_4_code 13 = .ok (.goto 4, 3) := by decide +kernel
theorem d4_17 : decode prog_33_method_4_code 17 = .ok (.ireturn, 1) := by decide +kernel
theorem d4_6 : decode prog_33_method_4_code 6 = .ok (.iload_n 0, 1) := by decide +kernel
theorem d4_7 : decode prog_33_method_4_code 7 = .ok (.bipush 13, 2) := by decide +kernel
theorem d4_9 : decode prog_33_method_4_code 9 = .ok (.if_icmp .ne 7, 3) := by decide +kernel
theorem d4_16 : decode prog_33_method_4_code 16 = .ok (.iconst 0, 1) := by decide +kernel
set_option maxRecDepth 65536 in
set_option maxHeartbeats 40000000 in
theorem rm4 (l : Launch) (Z : State) (a0 : Array Value) (hw : ∀ d ∈ tables_1, d.before a0 Z = true) (c : Int32) (h0 : Heap) (n0 : Nat) (Z0 : n0 ≤ h0.size)  :
    OwnMet l Z (⟨"gleanwell/Position", "isTerminator", "(C)Z"⟩ : MethodName) prog_33_method_4_code 1 (some .boolean) [] ({ frames := 0, cells := 0, slots := 0, locals := 0 } : Room) [(.int c)] h0 (fun v h L => v = some (.int (own_term c)) ∧ Fr n0 L ∧ h = h0) := by
  refine own_body (Ls := #[.val (.int c)]) (plainFor_of_name own_pn0) (fun m => by first | (simp [entryFrame, mkF, argsToLocals, Value.category]; done) | rfl) (fun p e s m below meth cO T0 hx hby hml hown hnm hret hlk hZ X0 e0 => ?_)
  have hown : s.vm.findClass "gleanwell/Position" = some m.cls := hown
  have N0 := Fr.nil n0
  refine g_iloadN X0 hx 1 (hb hby d4_0) rfl rfl ?_
  refine g_bipush X0 hx 3 (10 : Int32) (hb hby d4_1) (by decide) rfl ?_
  by_cases hc1 : c = (10 : Int32)
  · refine g_icT X0 hx 12 (hb hby d4_3) (teq hc1).1 (by decide) (by decide) ?_
    refine g_iconst X0 hx 13 (1 : Int32) (hb hby d4_12) (by decide) rfl ?_
    refine g_goto X0 hx 17 (hb hby d4_13) (by decide) (by decide) ?_
    exact g_retZ X0 hx hret hlk rfl (hb hby d4_17) (by decide) (by decide) ⟨by unfold own_term; rw [if_pos hc1], N0, e0⟩
  · refine g_icF X0 hx 6 (hb hby d4_3) (feq hc1).1 rfl ?_
    refine g_iloadN X0 hx 7 (hb hby d4_6) rfl rfl ?_
    refine g_bipush X0 hx 9 (13 : Int32) (hb hby d4_7) (by decide) rfl ?_
    by_cases hc2 : c = (13 : Int32)
    · refine g_icF X0 hx 12 (hb hby d4_9) (teq hc2).2 rfl ?_
      refine g_iconst X0 hx 13 (1 : Int32) (hb hby d4_12) (by decide) rfl ?_
      refine g_goto X0 hx 17 (hb hby d4_13) (by decide) (by decide) ?_
      exact g_retZ X0 hx hret hlk rfl (hb hby d4_17) (by decide) (by decide) ⟨by unfold own_term; rw [if_neg hc1, if_pos hc2], N0, e0⟩
    · refine g_icT X0 hx 16 (hb hby d4_9) (feq hc2).2 (by decide) (by decide) ?_
      refine g_iconst X0 hx 17 (0 : Int32) (hb hby d4_16) (by decide) rfl ?_
      exact g_retZ X0 hx hret hlk rfl (hb hby d4_17) (by decide) (by decide) ⟨by unfold own_term; rw [if_neg hc1, if_neg hc2], N0, e0⟩
theorem own_pn1 : plainName "java/lang/Character" = true := by first | (simp [plainName, overriddenIn]; done) | decide +kernel
theorem d5_0 : decode jdk_89_method_15_code 0 = .ok (.iload_n 0, 1) := by decide +kernel
theorem d5_1 : decode jdk_89_method_15_code 1 = .ok (.ldc 76, 2) := by decide +kernel
theorem d5_3 : decode jdk_89_method_15_code 3 = .ok (.if_icmp .lt 13, 3) := by decide +kernel
theorem d5_16 : decode jdk_89_method_15_code 16 = .ok (.iconst 0, 1) := by decide +kernel
theorem d5_17 : decode jdk_89_method_15_code 17 = .ok (.ireturn, 1) := by decide +kernel
theorem d5_6 : decode jdk_89_method_15_code 6 = .ok (.iload_n 0, 1) := by decide +kernel
theorem d5_7 : decode jdk_89_method_15_code 7 = .ok (.ldc 77, 2) := by decide +kernel
theorem d5_9 : decode jdk_89_method_15_code 9 = .ok (.if_icmp .ge 7, 3) := by decide +kernel
theorem d5_12 : decode jdk_89_method_15_code 12 = .ok (.iconst 1, 1) := by decide +kernel
theorem d5_13 : decode jdk_89_method_15_code 13 = .ok (.goto 4, 3) := by decide +kernel
set_option maxRecDepth 65536 in
set_option maxHeartbeats 40000000 in
theorem rm5 (l : Launch) (Z : State) (a0 : Array Value) (hw : ∀ d ∈ tables_1, d.before a0 Z = true) (c : Int32) (h0 : Heap) (n0 : Nat) (Z0 : n0 ≤ h0.size)  :
    OwnMet l Z (⟨"java/lang/Character", "isLowSurrogate", "(C)Z"⟩ : MethodName) jdk_89_method_15_code 1 (some .boolean) [] ({ frames := 0, cells := 0, slots := 0, locals := 0 } : Room) [(.int c)] h0 (fun v h L => v = some (.int (own_low c)) ∧ Fr n0 L ∧ h = h0) := by
  refine own_body (Ls := #[.val (.int c)]) (plainFor_of_name own_pn1) (fun m => by first | (simp [entryFrame, mkF, argsToLocals, Value.category]; done) | rfl) (fun p e s m below meth cO T0 hx hby hml hown hnm hret hlk hZ X0 e0 => ?_)
  have hown : s.vm.findClass "java/lang/Character" = some m.cls := hown
  have N0 := Fr.nil n0
  refine g_iloadN X0 hx 1 (hb hby d5_0) rfl rfl ?_
  refine g_ldcI X0 hx 3 hZ hown (own_w hw 26 rfl) (hb hby d5_1) rfl ?_
  by_cases hc1 : c < (56320 : Int32)
  · refine g_icT X0 hx 16 (hb hby d5_3) (tlt hc1).1 (by decide) (by decide) ?_
    refine g_iconst X0 hx 17 (0 : Int32) (hb hby d5_16) (by decide) rfl ?_
    exact g_retZ X0 hx hret hlk rfl (hb hby d5_17) (by decide) (by decide) ⟨by unfold own_low; rw [if_pos hc1], N0, e0⟩
  · refine g_icF X0 hx 6 (hb hby d5_3) (flt hc1).1 rfl ?_
    refine g_iloadN X0 hx 7 (hb hby d5_6) rfl rfl ?_
    refine g_ldcI X0 hx 9 hZ hown (own_w hw 57 rfl) (hb hby d5_7) rfl ?_
    by_cases hc2 : c < (57344 : Int32)
    · refine g_icF X0 hx 12 (hb hby d5_9) (tlt hc2).2.1 rfl ?_
      refine g_iconst X0 hx 13 (1 : Int32) (hb hby d5_12) (by decide) rfl ?_
      refine g_goto X0 hx 17 (hb hby d5_13) (by decide) (by decide) ?_
      exact g_retZ X0 hx hret hlk rfl (hb hby d5_17) (by decide) (by decide) ⟨by unfold own_low; rw [if_neg hc1, if_pos hc2], N0, e0⟩
    · refine g_icT X0 hx 16 (hb hby d5_9) (flt hc2).2.1 (by decide) (by decide) ?_
      refine g_iconst X0 hx 17 (0 : Int32) (hb hby d5_16) (by decide) rfl ?_
      exact g_retZ X0 hx hret hlk rfl (hb hby d5_17) (by decide) (by decide) ⟨by unfold own_low; rw [if_neg hc1, if_neg hc2], N0, e0⟩
theorem d12_0 : decode jdk_89_method_14_code 0 = .ok (.iload_n 0, 1) := by decide +kernel
theorem d12_1 : decode jdk_89_method_14_code 1 = .ok (.ldc 75, 2) := by decide +kernel
theorem d12_3 : decode jdk_89_method_14_code 3 = .ok (.if_icmp .lt 13, 3) := by decide +kernel
theorem d12_16 : decode jdk_89_method_14_code 16 = .ok (.iconst 0, 1) := by decide +kernel
theorem d12_17 : decode jdk_89_method_14_code 17 = .ok (.ireturn, 1) := by decide +kernel
theorem d12_6 : decode jdk_89_method_14_code 6 = .ok (.iload_n 0, 1) := by decide +kernel
theorem d12_7 : decode jdk_89_method_14_code 7 = .ok (.ldc 76, 2) := by decide +kernel
theorem d12_9 : decode jdk_89_method_14_code 9 = .ok (.if_icmp .ge 7, 3) := by decide +kernel
theorem d12_12 : decode jdk_89_method_14_code 12 = .ok (.iconst 1, 1) := by decide +kernel
theorem d12_13 : decode jdk_89_method_14_code 13 = .ok (.goto 4, 3) := by decide +kernel
set_option maxRecDepth 65536 in
set_option maxHeartbeats 40000000 in
theorem rm12 (l : Launch) (Z : State) (a0 : Array Value) (hw : ∀ d ∈ tables_1, d.before a0 Z = true) (c : Int32) (h0 : Heap) (n0 : Nat) (Z0 : n0 ≤ h0.size)  :
    OwnMet l Z (⟨"java/lang/Character", "isHighSurrogate", "(C)Z"⟩ : MethodName) jdk_89_method_14_code 1 (some .boolean) [] ({ frames := 0, cells := 0, slots := 0, locals := 0 } : Room) [(.int c)] h0 (fun v h L => v = some (.int (own_high c)) ∧ Fr n0 L ∧ h = h0) := by
  refine own_body (Ls := #[.val (.int c)]) (plainFor_of_name own_pn1) (fun m => by first | (simp [entryFrame, mkF, argsToLocals, Value.category]; done) | rfl) (fun p e s m below meth cO T0 hx hby hml hown hnm hret hlk hZ X0 e0 => ?_)
  have hown : s.vm.findClass "java/lang/Character" = some m.cls := hown
  have N0 := Fr.nil n0
  refine g_iloadN X0 hx 1 (hb hby d12_0) rfl rfl ?_
  refine g_ldcI X0 hx 3 hZ hown (own_w hw 61 rfl) (hb hby d12_1) rfl ?_
  by_cases hc1 : c < (55296 : Int32)
  · refine g_icT X0 hx 16 (hb hby d12_3) (tlt hc1).1 (by decide) (by decide) ?_
    refine g_iconst X0 hx 17 (0 : Int32) (hb hby d12_16) (by decide) rfl ?_
    exact g_retZ X0 hx hret hlk rfl (hb hby d12_17) (by decide) (by decide) ⟨by unfold own_high; rw [if_pos hc1], N0, e0⟩
  · refine g_icF X0 hx 6 (hb hby d12_3) (flt hc1).1 rfl ?_
    refine g_iloadN X0 hx 7 (hb hby d12_6) rfl rfl ?_
    refine g_ldcI X0 hx 9 hZ hown (own_w hw 26 rfl) (hb hby d12_7) rfl ?_
    by_cases hc2 : c < (56320 : Int32)
    · refine g_icF X0 hx 12 (hb hby d12_9) (tlt hc2).2.1 rfl ?_
      refine g_iconst X0 hx 13 (1 : Int32) (hb hby d12_12) (by decide) rfl ?_
      refine g_goto X0 hx 17 (hb hby d12_13) (by decide) (by decide) ?_
      exact g_retZ X0 hx hret hlk rfl (hb hby d12_17) (by decide) (by decide) ⟨by unfold own_high; rw [if_neg hc1, if_pos hc2], N0, e0⟩
    · refine g_icT X0 hx 16 (hb hby d12_9) (flt hc2).2.1 (by decide) (by decide) ?_
      refine g_iconst X0 hx 17 (0 : Int32) (hb hby d12_16) (by decide) rfl ?_
      exact g_retZ X0 hx hret hlk rfl (hb hby d12_17) (by decide) (by decide) ⟨by unfold own_high; rw [if_neg hc1, if_neg hc2], N0, e0⟩
theorem d11_0 : decode prog_33_method_5_code 0 = .ok (.iload_n 0, 1) := by decide +kernel
theorem d11_1 : decode prog_33_method_5_code 1 = .ok (.bipush 13, 2) := by decide +kernel
theorem d11_3 : decode prog_33_method_5_code 3 = .ok (.if_icmp .eq 9, 3) := by decide +kernel
theorem d11_12 : decode prog_33_method_5_code 12 = .ok (.iconst 1, 1) := by decide +kernel
theorem d11_13 : decode prog_33_method_5_code 13 = .ok (.goto 4, 3) := by decide +kernel
theorem d11_17 : decode prog_33_method_5_code 17 = .ok (.ireturn, 1) := by decide +kernel
theorem d11_6 : decode prog_33_method_5_code 6 = .ok (.iload_n 1, 1) := by decide +kernel
theorem d11_7 : decode prog_33_method_5_code 7 = .ok (.bipush 13, 2) := by decide +kernel
theorem d11_9 : decode prog_33_method_5_code 9 = .ok (.if_icmp .eq 7, 3) := by decide +kernel
theorem d11_16 : decode prog_33_method_5_code 16 = .ok (.iconst 0, 1) := by decide +kernel
set_option maxRecDepth 65536 in
set_option maxHeartbeats 40000000 in
theorem rm11 (l : Launch) (Z : State) (a0 : Array Value) (hw : ∀ d ∈ tables_1, d.before a0 Z = true) (c q : Int32) (h0 : Heap) (n0 : Nat) (Z0 : n0 ≤ h0.size)  :
    OwnMet l Z (⟨"gleanwell/Position", "endsLine", "(CC)Z"⟩ : MethodName) prog_33_method_5_code 2 (some .boolean) [] ({ frames := 0, cells := 0, slots := 0, locals := 0 } : Room) [(.int c), (.int q)] h0 (fun v h L => v = some (.int (own_ends c q)) ∧ Fr n0 L ∧ h = h0) := by
  refine own_body (Ls := #[.val (.int c), .val (.int q)]) (plainFor_of_name own_pn0) (fun m => by first | (simp [entryFrame, mkF, argsToLocals, Value.category]; done) | rfl) (fun p e s m below meth cO T0 hx hby hml hown hnm hret hlk hZ X0 e0 => ?_)
  have hown : s.vm.findClass "gleanwell/Position" = some m.cls := hown
  have N0 := Fr.nil n0
  refine g_iloadN X0 hx 1 (hb hby d11_0) rfl rfl ?_
  refine g_bipush X0 hx 3 (13 : Int32) (hb hby d11_1) (by decide) rfl ?_
  by_cases hc1 : c = (13 : Int32)
  · refine g_icT X0 hx 12 (hb hby d11_3) (teq hc1).1 (by decide) (by decide) ?_
    refine g_iconst X0 hx 13 (1 : Int32) (hb hby d11_12) (by decide) rfl ?_
    refine g_goto X0 hx 17 (hb hby d11_13) (by decide) (by decide) ?_
    exact g_retZ X0 hx hret hlk rfl (hb hby d11_17) (by decide) (by decide) ⟨by unfold own_ends; rw [if_pos hc1], N0, e0⟩
  · refine g_icF X0 hx 6 (hb hby d11_3) (feq hc1).1 rfl ?_
    refine g_iloadN X0 hx 7 (hb hby d11_6) rfl rfl ?_
    refine g_bipush X0 hx 9 (13 : Int32) (hb hby d11_7) (by decide) rfl ?_
    by_cases hc2 : q = (13 : Int32)
    · refine g_icT X0 hx 16 (hb hby d11_9) (teq hc2).1 (by decide) (by decide) ?_
      refine g_iconst X0 hx 17 (0 : Int32) (hb hby d11_16) (by decide) rfl ?_
      exact g_retZ X0 hx hret hlk rfl (hb hby d11_17) (by decide) (by decide) ⟨by unfold own_ends; rw [if_neg hc1, if_pos hc2], N0, e0⟩
    · refine g_icF X0 hx 12 (hb hby d11_9) (feq hc2).1 rfl ?_
      refine g_iconst X0 hx 13 (1 : Int32) (hb hby d11_12) (by decide) rfl ?_
      refine g_goto X0 hx 17 (hb hby d11_13) (by decide) (by decide) ?_
      exact g_retZ X0 hx hret hlk rfl (hb hby d11_17) (by decide) (by decide) ⟨by unfold own_ends; rw [if_neg hc1, if_neg hc2], N0, e0⟩
theorem d6_0 : decode prog_33_method_2_code 0 = .ok (.aload_n 0, 1) := by decide +kernel
theorem d6_1 : decode prog_33_method_2_code 1 = .ok (.getfield 7, 3) := by decide +kernel
theorem d6_4 : decode prog_33_method_2_code 4 = .ok (.lreturn, 1) := by decide +kernel
set_option maxRecDepth 65536 in
set_option maxHeartbeats 40000000 in
theorem rm6 (l : Launch) (Z : State) (a0 : Array Value) (hw : ∀ d ∈ tables_1, d.before a0 Z = true) (a : Addr) (z : Int64) (h0 : Heap) (n0 : Nat) (Z0 : n0 ≤ h0.size) (F_a : Fld Z h0 a "gleanwell/Position" "line" "J" (.long z)) :
    OwnMet l Z (⟨"gleanwell/Position", "line", "()J"⟩ : MethodName) prog_33_method_2_code 1 (some .long) [] ({ frames := 0, cells := 0, slots := 0, locals := 0 } : Room) [(.ref a)] h0 (fun v h L => v = some (.long z) ∧ Fr n0 L ∧ h = h0) := by
  refine own_body (Ls := #[.val (.ref a)]) (plainFor_of_name own_pn0) (fun m => by first | (simp [entryFrame, mkF, argsToLocals, Value.category]; done) | rfl) (fun p e s m below meth cO T0 hx hby hml hown hnm hret hlk hZ X0 e0 => ?_)
  have hown : s.vm.findClass "gleanwell/Position" = some m.cls := hown
  have N0 := Fr.nil n0
  refine g_aloadN X0 hx 1 (hb hby d6_0) rfl rfl rfl ?_
  refine g_getF X0 hx 4 hZ hown (host := "") (Or.inl (own_w hw 10 rfl)) Via.refl e0 F_a (hb hby d6_1) rfl (fun T1 X1 e1 => ?_)
  exact g_retJ X1 hx hret hlk (hb hby d6_4) (by decide) (by decide) ⟨rfl, N0, e1⟩
theorem d8_0 : decode prog_33_method_3_code 0 = .ok (.aload_n 0, 1) := by decide +kernel
theorem d8_1 : decode prog_33_method_3_code 1 = .ok (.getfield 13, 3) := by decide +kernel
theorem d8_4 : decode prog_33_method_3_code 4 = .ok (.lreturn, 1) := by decide +kernel
set_option maxRecDepth 65536 in
set_option maxHeartbeats 40000000 in
theorem rm8 (l : Launch) (Z : State) (a0 : Array Value) (hw : ∀ d ∈ tables_1, d.before a0 Z = true) (a : Addr) (z : Int64) (h0 : Heap) (n0 : Nat) (Z0 : n0 ≤ h0.size) (F_a : Fld Z h0 a "gleanwell/Position" "column" "J" (.long z)) :
    OwnMet l Z (⟨"gleanwell/Position", "column", "()J"⟩ : MethodName) prog_33_method_3_code 1 (some .long) [] ({ frames := 0, cells := 0, slots := 0, locals := 0 } : Room) [(.ref a)] h0 (fun v h L => v = some (.long z) ∧ Fr n0 L ∧ h = h0) := by
  refine own_body (Ls := #[.val (.ref a)]) (plainFor_of_name own_pn0) (fun m => by first | (simp [entryFrame, mkF, argsToLocals, Value.category]; done) | rfl) (fun p e s m below meth cO T0 hx hby hml hown hnm hret hlk hZ X0 e0 => ?_)
  have hown : s.vm.findClass "gleanwell/Position" = some m.cls := hown
  have N0 := Fr.nil n0
  refine g_aloadN X0 hx 1 (hb hby d8_0) rfl rfl rfl ?_
  refine g_getF X0 hx 4 hZ hown (host := "") (Or.inl (own_w hw 12 rfl)) Via.refl e0 F_a (hb hby d8_1) rfl (fun T1 X1 e1 => ?_)
  exact g_retJ X1 hx hret hlk (hb hby d8_4) (by decide) (by decide) ⟨rfl, N0, e1⟩
theorem d9_0 : decode prog_33_method_6_code 0 = .ok (.aload_n 0, 1) := by decide +kernel
theorem d9_1 : decode prog_33_method_6_code 1 = .ok (.getfield 16, 3) := by decide +kernel
theorem d9_4 : decode prog_33_method_6_code 4 = .ok (.ireturn, 1) := by decide +kernel
set_option maxRecDepth 65536 in
set_option maxHeartbeats 40000000 in
theorem rm9 (l : Launch) (Z : State) (a0 : Array Value) (hw : ∀ d ∈ tables_1, d.before a0 Z = true) (a : Addr) (z : Int32) (h0 : Heap) (n0 : Nat) (Z0 : n0 ≤ h0.size) (F_a : Fld Z h0 a "gleanwell/Position" "last" "C" (.int z)) (hz : nar .char z = z) :
    OwnMet l Z (⟨"gleanwell/Position", "last", "()C"⟩ : MethodName) prog_33_method_6_code 1 (some .char) [] ({ frames := 0, cells := 0, slots := 0, locals := 0 } : Room) [(.ref a)] h0 (fun v h L => v = some (.int z) ∧ Fr n0 L ∧ h = h0) := by
  refine own_body (Ls := #[.val (.ref a)]) (plainFor_of_name own_pn0) (fun m => by first | (simp [entryFrame, mkF, argsToLocals, Value.category]; done) | rfl) (fun p e s m below meth cO T0 hx hby hml hown hnm hret hlk hZ X0 e0 => ?_)
  have hown : s.vm.findClass "gleanwell/Position" = some m.cls := hown
  have N0 := Fr.nil n0
  refine g_aloadN X0 hx 1 (hb hby d9_0) rfl rfl rfl ?_
  refine g_getF X0 hx 4 hZ hown (host := "") (Or.inl (own_w hw 27 rfl)) Via.refl e0 F_a (hb hby d9_1) rfl (fun T1 X1 e1 => ?_)
  exact g_retC X1 hx hret hlk (own_nrw hz) (hb hby d9_4) (by decide) (by decide) ⟨rfl, N0, e1⟩
theorem d7_0 : decode prog_33_method_7_code 0 = .ok (.aload_n 0, 1) := by decide +kernel
theorem d7_1 : decode prog_33_method_7_code 1 = .ok (.dup, 1) := by decide +kernel
theorem d7_2 : decode prog_33_method_7_code 2 = .ok (.getfield 7, 3) := by decide +kernel
theorem d7_5 : decode prog_33_method_7_code 5 = .ok (.lload_n 1, 1) := by decide +kernel
theorem d7_6 : decode prog_33_method_7_code 6 = .ok (.ladd, 1) := by decide +kernel
theorem d7_7 : decode prog_33_method_7_code 7 = .ok (.putfield 7, 3) := by decide +kernel
theorem d7_10 : decode prog_33_method_7_code 10 = .ok (.aload_n 0, 1) := by decide +kernel
theorem d7_11 : decode prog_33_method_7_code 11 = .ok (.lconst 1, 1) := by decide +kernel
theorem d7_12 : decode prog_33_method_7_code 12 = .ok (.putfield 13, 3) := by decide +kernel
theorem d7_15 : decode prog_33_method_7_code 15 = .ok (.aload_n 0, 1) := by decide +kernel
theorem d7_16 : decode prog_33_method_7_code 16 = .ok (.iload_n 3, 1) := by decide +kernel
theorem d7_17 : decode prog_33_method_7_code 17 = .ok (.putfield 16, 3) := by decide +kernel
theorem d7_20 : decode prog_33_method_7_code 20 = .ok (.return_, 1) := by decide +kernel
set_option maxRecDepth 65536 in
set_option maxHeartbeats 40000000 in
theorem rm7 (l : Launch) (Z : State) (a0 : Array Value) (hw : ∀ d ∈ tables_1, d.before a0 Z = true) (a : Addr) (n ln : Int64) (t : Int32) (u2 u3 : Value) (h0 : Heap) (n0 : Nat) (Z0 : n0 ≤ h0.size) (g_a : n0 ≤ a) (ht : nar .char t = t) (E_a : Exa Z h0 a "gleanwell/Position") (F_ln : Fld Z h0 a "gleanwell/Position" "line" "J" (.long ln)) (F_co : Fld Z h0 a "gleanwell/Position" "column" "J" u2) (F_la : Fld Z h0 a "gleanwell/Position" "last" "C" u3) :
    OwnMet l Z (⟨"gleanwell/Position", "beginLine", "(JC)V"⟩ : MethodName) prog_33_method_7_code 4 none [] ({ frames := 0, cells := 0, slots := 0, locals := 0 } : Room) [(.ref a), (.long n), (.int t)] h0 (fun v h L => v = none ∧ Fr n0 L ∧ Keep h0 h [a] ∧ Exa Z h a "gleanwell/Position" ∧ Fld Z h a "gleanwell/Position" "line" "J" (.long (ln + n)) ∧ Fld Z h a "gleanwell/Position" "column" "J" (.long 1) ∧ Fld Z h a "gleanwell/Position" "last" "C" (.int t)) := by
  refine own_body (Ls := #[.val (.ref a), .val (.long n), .second, .val (.int t)]) (plainFor_of_name own_pn0) (fun m => by first | (simp [entryFrame, mkF, argsToLocals, Value.category]; done) | rfl) (fun p e s m below meth cO T0 hx hby hml hown hnm hret hlk hZ X0 e0 => ?_)
  have hown : s.vm.findClass "gleanwell/Position" = some m.cls := hown
  have N0 := Fr.nil n0
  have K0 := Keep.refl h0 [a]
  refine g_aloadN X0 hx 1 (hb hby d7_0) rfl rfl rfl ?_
  refine g_dup X0 hx 2 (hb hby d7_1) rfl rfl ?_
  refine g_getF X0 hx 5 hZ hown (host := "") (Or.inl (own_w hw 10 rfl)) Via.refl e0 F_ln (hb hby d7_2) rfl (fun T1 X1 e1 => ?_)
  refine g_lloadN X1 hx 6 (hb hby d7_5) rfl rfl ?_
  refine g_ladd X1 hx 7 (ln + n) (hb hby d7_6) rfl rfl ?_
  refine g_putF X1 hx 10 hZ hown (host := "") (Or.inl (own_w hw 10 rfl)) Via.refl e1 F_ln E_a (Or.inl (own_w hw 11 rfl)) (own_w hw 2 rfl) (ty := .long) (by decide) rfl rfl (hb hby d7_7) rfl (fun T2 h2 X2 e2 W2 => ?_)
  have E_a := E_a.wr W2
  have F_ln := F_ln.same W2
  have F_co := F_co.other W2 (Or.inr (slot_ne (Or.inl (own_w hw 13 rfl)) (Or.inl (own_w hw 11 rfl)) (by decide) (t := .long) (t' := .long) (by decide) (by decide)))
  have F_la := F_la.other W2 (Or.inr (slot_ne (Or.inl (own_w hw 28 rfl)) (Or.inl (own_w hw 11 rfl)) (by decide) (t := .char) (t' := .long) (by decide) (by decide)))
  have N2 := Fr.snoc X2 N0 g_a
  have Z2 : n0 ≤ h2.size := by rw [W2.size]; exact Z0
  have K2 := K0.wr W2 (Or.inl (List.mem_of_getElem? (i := 0) rfl))
  refine g_aloadN X2 hx 11 (hb hby d7_10) rfl rfl rfl ?_
  refine g_lconst X2 hx 12 (1 : Int64) (hb hby d7_11) (by decide) rfl ?_
  refine g_putF X2 hx 15 hZ hown (host := "") (Or.inl (own_w hw 12 rfl)) Via.refl e2 F_co E_a (Or.inl (own_w hw 13 rfl)) (own_w hw 2 rfl) (ty := .long) (by decide) rfl rfl (hb hby d7_12) rfl (fun T3 h3 X3 e3 W3 => ?_)
  have E_a := E_a.wr W3
  have F_ln := F_ln.other W3 (Or.inr (slot_ne (Or.inl (own_w hw 11 rfl)) (Or.inl (own_w hw 13 rfl)) (by decide) (t := .long) (t' := .long) (by decide) (by decide)))
  have F_co := F_co.same W3
  have F_la := F_la.other W3 (Or.inr (slot_ne (Or.inl (own_w hw 28 rfl)) (Or.inl (own_w hw 13 rfl)) (by decide) (t := .char) (t' := .long) (by decide) (by decide)))
  have N3 := Fr.snoc X3 N2 g_a
  have Z3 : n0 ≤ h3.size := by rw [W3.size]; exact Z2
  have K3 := K2.wr W3 (Or.inl (List.mem_of_getElem? (i := 0) rfl))
  refine g_aloadN X3 hx 16 (hb hby d7_15) rfl rfl rfl ?_
  refine g_iloadN X3 hx 17 (hb hby d7_16) rfl rfl ?_
  refine g_putF X3 hx 20 hZ hown (host := "") (Or.inl (own_w hw 27 rfl)) Via.refl e3 F_la E_a (Or.inl (own_w hw 28 rfl)) (own_w hw 2 rfl) (ty := .char) (by decide) (own_nrw ht) (own_fit ht) (hb hby d7_17) rfl (fun T4 h4 X4 e4 W4 => ?_)
  have E_a := E_a.wr W4
  have F_ln := F_ln.other W4 (Or.inr (slot_ne (Or.inl (own_w hw 11 rfl)) (Or.inl (own_w hw 28 rfl)) (by decide) (t := .long) (t' := .char) (by decide) (by decide)))
  have F_co := F_co.other W4 (Or.inr (slot_ne (Or.inl (own_w hw 13 rfl)) (Or.inl (own_w hw 28 rfl)) (by decide) (t := .long) (t' := .char) (by decide) (by decide)))
  have F_la := F_la.same W4
  have N4 := Fr.snoc X4 N3 g_a
  have Z4 : n0 ≤ h4.size := by rw [W4.size]; exact Z3
  have K4 := K3.wr W4 (Or.inl (List.mem_of_getElem? (i := 0) rfl))
  exact g_retV X4 hx hret hlk (hb hby d7_20) (by decide) (by decide) (by rw [e4]; exact ⟨rfl, N4, K4, E_a, F_ln, F_co, F_la⟩)
theorem d10_0 : decode prog_33_method_10_code 0 = .ok (.iload_n 3, 1) := by decide +kernel
theorem d10_1 : decode prog_33_method_10_code 1 = .ok (.iload_n 2, 1) := by decide +kernel
theorem d10_2 : decode prog_33_method_10_code 2 = .ok (.if_icmp .le 11, 3) := by decide +kernel
theorem d10_13 : decode prog_33_method_10_code 13 = .ok (.aload_n 0, 1) := by decide +kernel
theorem d10_14 : decode prog_33_method_10_code 14 = .ok (.getfield 16, 3) := by decide +kernel
theorem d10_17 : decode prog_33_method_10_code 17 = .ok (.ireturn, 1) := by decide +kernel
set_option maxRecDepth 65536 in
set_option maxHeartbeats 40000000 in
theorem rm10_1_0 (l : Launch) (Z : State) (a0 : Array Value) (hw : ∀ d ∈ tables_1, d.before a0 Z = true) (a b : Addr) (la c0 : Int32) (kA : ClassId) (h0 : Heap) (n0 : Nat) (Z0 : n0 ≤ h0.size) (F_la : Fld Z h0 a "gleanwell/Position" "last" "C" (.int la)) (V_b : Arv Z h0 b kA .char (1 : Int32) [(.int c0)] (.int (0 : Int32))) (hr : nar .char la = la) :
    OwnMet l Z (⟨"gleanwell/Position", "before", "([CII)C"⟩ : MethodName) prog_33_method_10_code 4 (some .char) [] ({ frames := 0, cells := 0, slots := 0, locals := 0 } : Room) [(.ref a), (.ref b), (.int (0 : Int32)), (.int (0 : Int32))] h0 (fun v h L => v = some (.int la) ∧ Fr n0 L ∧ h = h0) := by
  refine own_body (Ls := #[.val (.ref a), .val (.ref b), .val (.int (0 : Int32)), .val (.int (0 : Int32))]) (plainFor_of_name own_pn0) (fun m => by first | (simp [entryFrame, mkF, argsToLocals, Value.category]; done) | rfl) (fun p e s m below meth cO T0 hx hby hml hown hnm hret hlk hZ X0 e0 => ?_)
  have hown : s.vm.findClass "gleanwell/Position" = some m.cls := hown
  have N0 := Fr.nil n0
  refine g_iloadN X0 hx 1 (hb hby d10_0) rfl rfl ?_
  refine g_iloadN X0 hx 2 (hb hby d10_1) rfl rfl ?_
  refine g_icT X0 hx 13 (hb hby d10_2) (by decide) (by decide) (by decide) ?_
  refine g_aloadN X0 hx 14 (hb hby d10_13) rfl rfl rfl ?_
  refine g_getF X0 hx 17 hZ hown (host := "") (Or.inl (own_w hw 27 rfl)) Via.refl e0 F_la (hb hby d10_14) rfl (fun T1 X1 e1 => ?_)
  exact g_retC X1 hx hret hlk (own_nrw hr) (hb hby d10_17) (by decide) (by decide) ⟨rfl, N0, e1⟩
set_option maxRecDepth 65536 in
set_option maxHeartbeats 40000000 in
theorem rm10_2_0 (l : Launch) (Z : State) (a0 : Array Value) (hw : ∀ d ∈ tables_1, d.before a0 Z = true) (a b : Addr) (la c0 c1 : Int32) (kA : ClassId) (h0 : Heap) (n0 : Nat) (Z0 : n0 ≤ h0.size) (F_la : Fld Z h0 a "gleanwell/Position" "last" "C" (.int la)) (V_b : Arv Z h0 b kA .char (2 : Int32) [(.int c0), (.int c1)] (.int (0 : Int32))) (hr : nar .char la = la) :
    OwnMet l Z (⟨"gleanwell/Position", "before", "([CII)C"⟩ : MethodName) prog_33_method_10_code 4 (some .char) [] ({ frames := 0, cells := 0, slots := 0, locals := 0 } : Room) [(.ref a), (.ref b), (.int (0 : Int32)), (.int (0 : Int32))] h0 (fun v h L => v = some (.int la) ∧ Fr n0 L ∧ h = h0) := by
  refine own_body (Ls := #[.val (.ref a), .val (.ref b), .val (.int (0 : Int32)), .val (.int (0 : Int32))]) (plainFor_of_name own_pn0) (fun m => by first | (simp [entryFrame, mkF, argsToLocals, Value.category]; done) | rfl) (fun p e s m below meth cO T0 hx hby hml hown hnm hret hlk hZ X0 e0 => ?_)
  have hown : s.vm.findClass "gleanwell/Position" = some m.cls := hown
  have N0 := Fr.nil n0
  refine g_iloadN X0 hx 1 (hb hby d10_0) rfl rfl ?_
  refine g_iloadN X0 hx 2 (hb hby d10_1) rfl rfl ?_
  refine g_icT X0 hx 13 (hb hby d10_2) (by decide) (by decide) (by decide) ?_
  refine g_aloadN X0 hx 14 (hb hby d10_13) rfl rfl rfl ?_
  refine g_getF X0 hx 17 hZ hown (host := "") (Or.inl (own_w hw 27 rfl)) Via.refl e0 F_la (hb hby d10_14) rfl (fun T1 X1 e1 => ?_)
  exact g_retC X1 hx hret hlk (own_nrw hr) (hb hby d10_17) (by decide) (by decide) ⟨rfl, N0, e1⟩
theorem d10_5 : decode prog_33_method_10_code 5 = .ok (.aload_n 1, 1) := by decide +kernel
theorem d10_6 : decode prog_33_method_10_code 6 = .ok (.iload_n 3, 1) := by decide +kernel
theorem d10_7 : decode prog_33_method_10_code 7 = .ok (.iconst 1, 1) := by decide +kernel
theorem d10_8 : decode prog_33_method_10_code 8 = .ok (.isub, 1) := by decide +kernel
theorem d10_9 : decode prog_33_method_10_code 9 = .ok (.caload, 1) := by decide +kernel
theorem d10_10 : decode prog_33_method_10_code 10 = .ok (.goto 7, 3) := by decide +kernel
set_option maxRecDepth 65536 in
set_option maxHeartbeats 40000000 in
theorem rm10_2_1 (l : Launch) (Z : State) (a0 : Array Value) (hw : ∀ d ∈ tables_1, d.before a0 Z = true) (a b : Addr) (la c0 c1 : Int32) (kA : ClassId) (h0 : Heap) (n0 : Nat) (Z0 : n0 ≤ h0.size) (F_la : Fld Z h0 a "gleanwell/Position" "last" "C" (.int la)) (V_b : Arv Z h0 b kA .char (2 : Int32) [(.int c0), (.int c1)] (.int (0 : Int32))) (hr : nar .char c0 = c0) :
    OwnMet l Z (⟨"gleanwell/Position", "before", "([CII)C"⟩ : MethodName) prog_33_method_10_code 4 (some .char) [] ({ frames := 0, cells := 0, slots := 0, locals := 0 } : Room) [(.ref a), (.ref b), (.int (0 : Int32)), (.int (1 : Int32))] h0 (fun v h L => v = some (.int c0) ∧ Fr n0 L ∧ h = h0) := by
  refine own_body (Ls := #[.val (.ref a), .val (.ref b), .val (.int (0 : Int32)), .val (.int (1 : Int32))]) (plainFor_of_name own_pn0) (fun m => by first | (simp [entryFrame, mkF, argsToLocals, Value.category]; done) | rfl) (fun p e s m below meth cO T0 hx hby hml hown hnm hret hlk hZ X0 e0 => ?_)
  have hown : s.vm.findClass "gleanwell/Position" = some m.cls := hown
  have N0 := Fr.nil n0
  refine g_iloadN X0 hx 1 (hb hby d10_0) rfl rfl ?_
  refine g_iloadN X0 hx 2 (hb hby d10_1) rfl rfl ?_
  refine g_icF X0 hx 5 (hb hby d10_2) (by decide) rfl ?_
  refine g_aloadN X0 hx 6 (hb hby d10_5) rfl rfl rfl ?_
  refine g_iloadN X0 hx 7 (hb hby d10_6) rfl rfl ?_
  refine g_iconst X0 hx 8 (1 : Int32) (hb hby d10_7) (by decide) rfl ?_
  refine g_isub X0 hx 9 (0 : Int32) (hb hby d10_8) (by decide) rfl ?_
  refine g_caload X0 hx 10 hZ e0 V_b ⟨by decide, by decide⟩ (show _ = (.int c0) from rfl) (hb hby d10_9) rfl ?_
  refine g_goto X0 hx 17 (hb hby d10_10) (by decide) (by decide) ?_
  exact g_retC X0 hx hret hlk (own_nrw hr) (hb hby d10_17) (by decide) (by decide) ⟨rfl, N0, e0⟩
def own_ln (c la : Int32) (ln : Int64) : Int64 := if 13 < c then ln else if own_term c = 0 then ln else if own_ends c la = 0 then ln else ln + 1
def own_co (c la : Int32) (co : Int64) : Int64 := if 13 < c then (if own_low c = 0 then co + 1 - 0 else if own_high la = 0 then co + 1 - 0 else co + 1 - 1) else if own_term c = 0 then (if own_low c = 0 then co + 1 - 0 else if own_high la = 0 then co + 1 - 0 else co + 1 - 1) else 1
theorem d3_0 : decode prog_33_method_9_code 0 = .ok (.iload_n 2, 1) := by decide +kernel
theorem d3_1 : decode prog_33_method_9_code 1 = .ok (.iload_n 3, 1) := by decide +kernel
theorem d3_2 : decode prog_33_method_9_code 2 = .ok (.if_icmp .lt 4, 3) := by decide +kernel
theorem d3_6 : decode prog_33_method_9_code 6 = .ok (.aload_n 0, 1) := by decide +kernel
theorem d3_7 : decode prog_33_method_9_code 7 = .ok (.getfield 7, 3) := by decide +kernel
theorem d3_10 : decode prog_33_method_9_code 10 = .ok (.lstore 4, 2) := by decide +kernel
theorem d3_12 : decode prog_33_method_9_code 12 = .ok (.iload_n 2, 1) := by decide +kernel
theorem d3_13 : decode prog_33_method_9_code 13 = .ok (.istore 6, 2) := by decide +kernel
theorem d3_15 : decode prog_33_method_9_code 15 = .ok (.iconst 0, 1) := by decide +kernel
theorem d3_16 : decode prog_33_method_9_code 16 = .ok (.istore 7, 2) := by decide +kernel
theorem d3_18 : decode prog_33_method_9_code 18 = .ok (.iload_n 2, 1) := by decide +kernel
theorem d3_19 : decode prog_33_method_9_code 19 = .ok (.istore 8, 2) := by decide +kernel
theorem d3_21 : decode prog_33_method_9_code 21 = .ok (.iload 8, 2) := by decide +kernel
theorem d3_23 : decode prog_33_method_9_code 23 = .ok (.iload_n 3, 1) := by decide +kernel
theorem d3_24 : decode prog_33_method_9_code 24 = .ok (.if_icmp .ge 18, 3) := by decide +kernel
theorem d3_27 : decode prog_33_method_9_code 27 = .ok (.aload_n 1, 1) := by decide +kernel
theorem d3_28 : decode prog_33_method_9_code 28 = .ok (.iload 8, 2) := by decide +kernel
theorem d3_30 : decode prog_33_method_9_code 30 = .ok (.caload, 1) := by decide +kernel
theorem d3_31 : decode prog_33_method_9_code 31 = .ok (.bipush 13, 2) := by decide +kernel
theorem d3_33 : decode prog_33_method_9_code 33 = .ok (.if_icmp .le 9, 3) := by decide +kernel
theorem d3_36 : decode prog_33_method_9_code 36 = .ok (.iinc 8 1, 3) := by decide +kernel
theorem d3_39 : decode prog_33_method_9_code 39 = .ok (.goto (-18), 3) := by decide +kernel
theorem d3_42 : decode prog_33_method_9_code 42 = .ok (.iload 8, 2) := by decide +kernel
theorem d3_44 : decode prog_33_method_9_code 44 = .ok (.iload_n 3, 1) := by decide +kernel
theorem d3_45 : decode prog_33_method_9_code 45 = .ok (.if_icmp .ne 6, 3) := by decide +kernel
theorem d3_48 : decode prog_33_method_9_code 48 = .ok (.goto 54, 3) := by decide +kernel
theorem d3_102 : decode prog_33_method_9_code 102 = .ok (.iconst 0, 1) := by decide +kernel
theorem d3_103 : decode prog_33_method_9_code 103 = .ok (.istore 9, 2) := by decide +kernel
theorem d3_105 : decode prog_33_method_9_code 105 = .ok (.iload 6, 2) := by decide +kernel
theorem d3_107 : decode prog_33_method_9_code 107 = .ok (.istore 10, 2) := by decide +kernel
theorem d3_109 : decode prog_33_method_9_code 109 = .ok (.iload 10, 2) := by decide +kernel
theorem d3_111 : decode prog_33_method_9_code 111 = .ok (.iload_n 3, 1) := by decide +kernel
theorem d3_112 : decode prog_33_method_9_code 112 = .ok (.if_icmp .ge 36, 3) := by decide +kernel
theorem d3_115 : decode prog_33_method_9_code 115 = .ok (.aload_n 1, 1) := by decide +kernel
theorem d3_116 : decode prog_33_method_9_code 116 = .ok (.iload 10, 2) := by decide +kernel
theorem d3_118 : decode prog_33_method_9_code 118 = .ok (.caload, 1) := by decide +kernel
theorem d3_119 : decode prog_33_method_9_code 119 = .ok (.invokestatic 33, 3) := by decide +kernel
theorem own_pd0 : parseMethodDescriptor "(C)Z" = some ⟨[.char], some .boolean⟩ := by decide +kernel
theorem d3_122 : decode prog_33_method_9_code 122 = .ok (.ifCond .eq 20, 3) := by decide +kernel
theorem d3_142 : decode prog_33_method_9_code 142 = .ok (.iinc 10 1, 3) := by decide +kernel
theorem d3_145 : decode prog_33_method_9_code 145 = .ok (.goto (-36), 3) := by decide +kernel
theorem d3_148 : decode prog_33_method_9_code 148 = .ok (.aload_n 0, 1) := by decide +kernel
theorem d3_149 : decode prog_33_method_9_code 149 = .ok (.lload 4, 2) := by decide +kernel
theorem d3_151 : decode prog_33_method_9_code 151 = .ok (.putfield 7, 3) := by decide +kernel
theorem d3_154 : decode prog_33_method_9_code 154 = .ok (.aload_n 0, 1) := by decide +kernel
theorem d3_155 : decode prog_33_method_9_code 155 = .ok (.iload 7, 2) := by decide +kernel
theorem d3_157 : decode prog_33_method_9_code 157 = .ok (.ifCond .eq 7, 3) := by decide +kernel
theorem d3_164 : decode prog_33_method_9_code 164 = .ok (.aload_n 0, 1) := by decide +kernel
theorem d3_165 : decode prog_33_method_9_code 165 = .ok (.getfield 13, 3) := by decide +kernel
theorem d3_168 : decode prog_33_method_9_code 168 = .ok (.iload_n 3, 1) := by decide +kernel
theorem d3_169 : decode prog_33_method_9_code 169 = .ok (.iload 6, 2) := by decide +kernel
theorem d3_171 : decode prog_33_method_9_code 171 = .ok (.isub, 1) := by decide +kernel
theorem d3_172 : decode prog_33_method_9_code 172 = .ok (.i2l, 1) := by decide +kernel
theorem d3_173 : decode prog_33_method_9_code 173 = .ok (.ladd, 1) := by decide +kernel
theorem d3_174 : decode prog_33_method_9_code 174 = .ok (.iload 9, 2) := by decide +kernel
theorem d3_176 : decode prog_33_method_9_code 176 = .ok (.i2l, 1) := by decide +kernel
theorem d3_177 : decode prog_33_method_9_code 177 = .ok (.lsub, 1) := by decide +kernel
theorem d3_178 : decode prog_33_method_9_code 178 = .ok (.putfield 13, 3) := by decide +kernel
theorem d3_181 : decode prog_33_method_9_code 181 = .ok (.aload_n 0, 1) := by decide +kernel
theorem d3_182 : decode prog_33_method_9_code 182 = .ok (.aload_n 1, 1) := by decide +kernel
theorem d3_183 : decode prog_33_method_9_code 183 = .ok (.iload_n 3, 1) := by decide +kernel
theorem d3_184 : decode prog_33_method_9_code 184 = .ok (.iconst 1, 1) := by decide +kernel
theorem d3_185 : decode prog_33_method_9_code 185 = .ok (.isub, 1) := by decide +kernel
theorem d3_186 : decode prog_33_method_9_code 186 = .ok (.caload, 1) := by decide +kernel
theorem d3_187 : decode prog_33_method_9_code 187 = .ok (.putfield 16, 3) := by decide +kernel
theorem d3_190 : decode prog_33_method_9_code 190 = .ok (.return_, 1) := by decide +kernel
theorem d3_125 : decode prog_33_method_9_code 125 = .ok (.aload_n 0, 1) := by decide +kernel
theorem d3_126 : decode prog_33_method_9_code 126 = .ok (.aload_n 1, 1) := by decide +kernel
theorem d3_127 : decode prog_33_method_9_code 127 = .ok (.iload_n 2, 1) := by decide +kernel
theorem d3_128 : decode prog_33_method_9_code 128 = .ok (.iload 10, 2) := by decide +kernel
theorem d3_130 : decode prog_33_method_9_code 130 = .ok (.invokevirtual 25, 3) := by decide +kernel
theorem own_pd1 : parseMethodDescriptor "([CII)C" = some ⟨[(.array .char), .int, .int], some .char⟩ := by decide +kernel
theorem d3_133 : decode prog_33_method_9_code 133 = .ok (.invokestatic 38, 3) := by decide +kernel
theorem d3_136 : decode prog_33_method_9_code 136 = .ok (.ifCond .eq 6, 3) := by decide +kernel
theorem d3_139 : decode prog_33_method_9_code 139 = .ok (.iinc 9 1, 3) := by decide +kernel
theorem d3_51 : decode prog_33_method_9_code 51 = .ok (.aload_n 1, 1) := by decide +kernel
theorem d3_52 : decode prog_33_method_9_code 52 = .ok (.iload 8, 2) := by decide +kernel
theorem d3_54 : decode prog_33_method_9_code 54 = .ok (.caload, 1) := by decide +kernel
theorem d3_55 : decode prog_33_method_9_code 55 = .ok (.istore 9, 2) := by decide +kernel
theorem d3_57 : decode prog_33_method_9_code 57 = .ok (.iload 9, 2) := by decide +kernel
theorem d3_59 : decode prog_33_method_9_code 59 = .ok (.invokestatic 21, 3) := by decide +kernel
theorem d3_62 : decode prog_33_method_9_code 62 = .ok (.ifCond .eq 34, 3) := by decide +kernel
theorem d3_96 : decode prog_33_method_9_code 96 = .ok (.iinc 8 1, 3) := by decide +kernel
theorem d3_99 : decode prog_33_method_9_code 99 = .ok (.goto (-78), 3) := by decide +kernel
theorem d3_65 : decode prog_33_method_9_code 65 = .ok (.iload 9, 2) := by decide +kernel
theorem d3_67 : decode prog_33_method_9_code 67 = .ok (.aload_n 0, 1) := by decide +kernel
theorem d3_68 : decode prog_33_method_9_code 68 = .ok (.aload_n 1, 1) := by decide +kernel
theorem d3_69 : decode prog_33_method_9_code 69 = .ok (.iload_n 2, 1) := by decide +kernel
theorem d3_70 : decode prog_33_method_9_code 70 = .ok (.iload 8, 2) := by decide +kernel
theorem d3_72 : decode prog_33_method_9_code 72 = .ok (.invokevirtual 25, 3) := by decide +kernel
theorem d3_75 : decode prog_33_method_9_code 75 = .ok (.invokestatic 29, 3) := by decide +kernel
theorem own_pd2 : parseMethodDescriptor "(CC)Z" = some ⟨[.char, .char], some .boolean⟩ := by decide +kernel
theorem d3_78 : decode prog_33_method_9_code 78 = .ok (.ifCond .eq 9, 3) := by decide +kernel
theorem d3_87 : decode prog_33_method_9_code 87 = .ok (.iload 8, 2) := by decide +kernel
theorem d3_89 : decode prog_33_method_9_code 89 = .ok (.iconst 1, 1) := by decide +kernel
theorem d3_90 : decode prog_33_method_9_code 90 = .ok (.iadd, 1) := by decide +kernel
theorem d3_91 : decode prog_33_method_9_code 91 = .ok (.istore 6, 2) := by decide +kernel
theorem d3_93 : decode prog_33_method_9_code 93 = .ok (.iconst 1, 1) := by decide +kernel
theorem d3_94 : decode prog_33_method_9_code 94 = .ok (.istore 7, 2) := by decide +kernel
theorem d3_160 : decode prog_33_method_9_code 160 = .ok (.lconst 1, 1) := by decide +kernel
theorem d3_161 : decode prog_33_method_9_code 161 = .ok (.goto 7, 3) := by decide +kernel
theorem d3_81 : decode prog_33_method_9_code 81 = .ok (.lload 4, 2) := by decide +kernel
theorem d3_83 : decode prog_33_method_9_code 83 = .ok (.lconst 1, 1) := by decide +kernel
theorem d3_84 : decode prog_33_method_9_code 84 = .ok (.ladd, 1) := by decide +kernel
theorem d3_85 : decode prog_33_method_9_code 85 = .ok (.lstore 4, 2) := by decide +kernel
set_option maxRecDepth 65536 in
set_option maxHeartbeats 40000000 in
theorem rm3_x (l : Launch) (Z : State) (a0 : Array Value) (hw : ∀ d ∈ tables_1, d.before a0 Z = true) (a b : Addr) (ln co : Int64) (la c0 : Int32) (kA : ClassId) (h0 : Heap) (n0 : Nat) (Z0 : n0 ≤ h0.size) (g_a : n0 ≤ a) (E_a : Exa Z h0 a "gleanwell/Position") (F_ln : Fld Z h0 a "gleanwell/Position" "line" "J" (.long ln)) (F_co : Fld Z h0 a "gleanwell/Position" "column" "J" (.long co)) (F_la : Fld Z h0 a "gleanwell/Position" "last" "C" (.int la)) (V_b : Arv Z h0 b kA .char (1 : Int32) [(.int c0)] (.int (0 : Int32))) (hla : nar .char la = la) (hcc0 : nar .char c0 = c0) (ne_a_b : a ≠ b) :
    OwnMet l Z (⟨"gleanwell/Position", "pass", "([CII)V"⟩ : MethodName) prog_33_method_9_code 11 none [] ({ frames := 1, cells := 0, slots := 0, locals := 24 } : Room) [(.ref a), (.ref b), (.int (0 : Int32)), (.int (1 : Int32))] h0 (fun v h L => v = none ∧ Fr n0 L ∧ Keep h0 h [a] ∧ Exa Z h a "gleanwell/Position" ∧ Fld Z h a "gleanwell/Position" "line" "J" (.long (own_ln c0 la ln)) ∧ Fld Z h a "gleanwell/Position" "column" "J" (.long (own_co c0 la co)) ∧ Fld Z h a "gleanwell/Position" "last" "C" (.int c0)) := by
  refine own_body (Ls := #[.val (.ref a), .val (.ref b), .val (.int (0 : Int32)), .val (.int (1 : Int32)), .unset, .unset, .unset, .unset, .unset, .unset, .unset]) (plainFor_of_name own_pn0) (fun m => by first | (simp [entryFrame, mkF, argsToLocals, Value.category]; done) | rfl) (fun p e s m below meth cO T0 hx hby hml hown hnm hret hlk hZ X0 e0 => ?_)
  have hown : s.vm.findClass "gleanwell/Position" = some m.cls := hown
  have N0 := Fr.nil n0
  have K0 := Keep.refl h0 [a]
  refine g_iloadN X0 hx 1 (hb hby d3_0) rfl rfl ?_
  refine g_iloadN X0 hx 2 (hb hby d3_1) rfl rfl ?_
  refine g_icT X0 hx 6 (hb hby d3_2) (by decide) (by decide) (by decide) ?_
  refine g_aloadN X0 hx 7 (hb hby d3_6) rfl rfl rfl ?_
  refine g_getF X0 hx 10 hZ hown (host := "") (Or.inl (own_w hw 10 rfl)) Via.refl e0 F_ln (hb hby d3_7) rfl (fun T1 X1 e1 => ?_)
  refine g_lstore X1 hx 12 #[.val (.ref a), .val (.ref b), .val (.int (0 : Int32)), .val (.int (1 : Int32)), .val (.long ln), .second, .unset, .unset, .unset, .unset, .unset] (hb hby d3_10) rfl rfl ?_
  refine g_iloadN X1 hx 13 (hb hby d3_12) rfl rfl ?_
  refine g_istore X1 hx 15 #[.val (.ref a), .val (.ref b), .val (.int (0 : Int32)), .val (.int (1 : Int32)), .val (.long ln), .second, .val (.int (0 : Int32)), .unset, .unset, .unset, .unset] (hb hby d3_13) rfl rfl ?_
  refine g_iconst X1 hx 16 (0 : Int32) (hb hby d3_15) (by decide) rfl ?_
  refine g_istore X1 hx 18 #[.val (.ref a), .val (.ref b), .val (.int (0 : Int32)), .val (.int (1 : Int32)), .val (.long ln), .second, .val (.int (0 : Int32)), .val (.int (0 : Int32)), .unset, .unset, .unset] (hb hby d3_16) rfl rfl ?_
  refine g_iloadN X1 hx 19 (hb hby d3_18) rfl rfl ?_
  refine g_istore X1 hx 21 #[.val (.ref a), .val (.ref b), .val (.int (0 : Int32)), .val (.int (1 : Int32)), .val (.long ln), .second, .val (.int (0 : Int32)), .val (.int (0 : Int32)), .val (.int (0 : Int32)), .unset, .unset] (hb hby d3_19) rfl rfl ?_
  refine g_iload X1 hx 23 (hb hby d3_21) rfl rfl ?_
  refine g_iloadN X1 hx 24 (hb hby d3_23) rfl rfl ?_
  refine g_icF X1 hx 27 (hb hby d3_24) (by decide) rfl ?_
  refine g_aloadN X1 hx 28 (hb hby d3_27) rfl rfl rfl ?_
  refine g_iload X1 hx 30 (hb hby d3_28) rfl rfl ?_
  refine g_caload X1 hx 31 hZ e1 V_b ⟨by decide, by decide⟩ (show _ = (.int c0) from rfl) (hb hby d3_30) rfl ?_
  refine g_bipush X1 hx 33 (13 : Int32) (hb hby d3_31) (by decide) rfl ?_
  by_cases hc2 : (13 : Int32) < c0
  · refine g_icF X1 hx 36 (hb hby d3_33) (tlt hc2).2.2.2 rfl ?_
    refine g_iinc X1 hx 39 (1 : Int32) #[.val (.ref a), .val (.ref b), .val (.int (0 : Int32)), .val (.int (1 : Int32)), .val (.long ln), .second, .val (.int (0 : Int32)), .val (.int (0 : Int32)), .val (.int (1 : Int32)), .unset, .unset] (hb hby d3_36) rfl (by decide) rfl rfl ?_
    refine g_goto X1 hx 21 (hb hby d3_39) (by decide) (by decide) ?_
    refine g_iload X1 hx 23 (hb hby d3_21) rfl rfl ?_
    refine g_iloadN X1 hx 24 (hb hby d3_23) rfl rfl ?_
    refine g_icT X1 hx 42 (hb hby d3_24) (by decide) (by decide) (by decide) ?_
    refine g_iload X1 hx 44 (hb hby d3_42) rfl rfl ?_
    refine g_iloadN X1 hx 45 (hb hby d3_44) rfl rfl ?_
    refine g_icF X1 hx 48 (hb hby d3_45) (by decide) rfl ?_
    refine g_goto X1 hx 102 (hb hby d3_48) (by decide) (by decide) ?_
    refine g_iconst X1 hx 103 (0 : Int32) (hb hby d3_102) (by decide) rfl ?_
    refine g_istore X1 hx 105 #[.val (.ref a), .val (.ref b), .val (.int (0 : Int32)), .val (.int (1 : Int32)), .val (.long ln), .second, .val (.int (0 : Int32)), .val (.int (0 : Int32)), .val (.int (1 : Int32)), .val (.int (0 : Int32)), .unset] (hb hby d3_103) rfl rfl ?_
    refine g_iload X1 hx 107 (hb hby d3_105) rfl rfl ?_
    refine g_istore X1 hx 109 #[.val (.ref a), .val (.ref b), .val (.int (0 : Int32)), .val (.int (1 : Int32)), .val (.long ln), .second, .val (.int (0 : Int32)), .val (.int (0 : Int32)), .val (.int (1 : Int32)), .val (.int (0 : Int32)), .val (.int (0 : Int32))] (hb hby d3_107) rfl rfl ?_
    refine g_iload X1 hx 111 (hb hby d3_109) rfl rfl ?_
    refine g_iloadN X1 hx 112 (hb hby d3_111) rfl rfl ?_
    refine g_icF X1 hx 115 (hb hby d3_112) (by decide) rfl ?_
    refine g_aloadN X1 hx 116 (hb hby d3_115) rfl rfl rfl ?_
    refine g_iload X1 hx 118 (hb hby d3_116) rfl rfl ?_
    refine g_caload X1 hx 119 hZ e1 V_b ⟨by decide, by decide⟩ (show _ = (.int c0) from rfl) (hb hby d3_118) rfl ?_
    refine g_callS X1 hx 122 hZ hown (own_w hw 22 rfl) (own_w hw 23 rfl) (own_w hw 24 rfl) (own_w hw 25 rfl) (by decide) [(.int c0)] [] (rm5 l Z a0 hw c0 h0 n0 Z0) e1 0 (by decide) (by decide) (by decide) (by decide) (by rw [hml]; rfl) (lenOf own_pd0 rfl) (hb hby d3_119) rfl (Nat.le_of_eq rfl) rfl (fun v3 T3 L3 X3 hQ3 => ?_)
    obtain ⟨rfl, N3q, e3⟩ := hQ3
    have N3 := Fr.app N0 N3q
    show Go p e below _ _ T3 (mkF m 122 #[.val (.ref a), .val (.ref b), .val (.int (0 : Int32)), .val (.int (1 : Int32)), .val (.long ln), .second, .val (.int (0 : Int32)), .val (.int (0 : Int32)), .val (.int (1 : Int32)), .val (.int (0 : Int32)), .val (.int (0 : Int32))] [(.int (own_low c0))])
    by_cases hc4 : (own_low c0) = (0 : Int32)
    · refine g_ifT X3 hx 142 (hb hby d3_122) ((if0 _ _).trans (teq hc4).1) (by decide) (by decide) ?_
      refine g_iinc X3 hx 145 (1 : Int32) #[.val (.ref a), .val (.ref b), .val (.int (0 : Int32)), .val (.int (1 : Int32)), .val (.long ln), .second, .val (.int (0 : Int32)), .val (.int (0 : Int32)), .val (.int (1 : Int32)), .val (.int (0 : Int32)), .val (.int (1 : Int32))] (hb hby d3_142) rfl (by decide) rfl rfl ?_
      refine g_goto X3 hx 109 (hb hby d3_145) (by decide) (by decide) ?_
      refine g_iload X3 hx 111 (hb hby d3_109) rfl rfl ?_
      refine g_iloadN X3 hx 112 (hb hby d3_111) rfl rfl ?_
      refine g_icT X3 hx 148 (hb hby d3_112) (by decide) (by decide) (by decide) ?_
      refine g_aloadN X3 hx 149 (hb hby d3_148) rfl rfl rfl ?_
      refine g_lload X3 hx 151 (hb hby d3_149) rfl rfl ?_
      refine g_putF X3 hx 154 hZ hown (host := "") (Or.inl (own_w hw 10 rfl)) Via.refl e3 F_ln E_a (Or.inl (own_w hw 11 rfl)) (own_w hw 2 rfl) (ty := .long) (by decide) rfl rfl (hb hby d3_151) rfl (fun T5 h5 X5 e5 W5 => ?_)
      have E_a := E_a.wr W5
      have F_ln := F_ln.same W5
      have F_co := F_co.other W5 (Or.inr (slot_ne (Or.inl (own_w hw 13 rfl)) (Or.inl (own_w hw 11 rfl)) (by decide) (t := .long) (t' := .long) (by decide) (by decide)))
      have F_la := F_la.other W5 (Or.inr (slot_ne (Or.inl (own_w hw 28 rfl)) (Or.inl (own_w hw 11 rfl)) (by decide) (t := .char) (t' := .long) (by decide) (by decide)))
      have V_b := V_b.other W5 (Ne.symm ne_a_b)
      have N5 := Fr.snoc X5 N3 g_a
      have Z5 : n0 ≤ h5.size := by rw [W5.size]; exact Z0
      have K5 := K0.wr W5 (Or.inl (List.mem_of_getElem? (i := 0) rfl))
      refine g_aloadN X5 hx 155 (hb hby d3_154) rfl rfl rfl ?_
      refine g_iload X5 hx 157 (hb hby d3_155) rfl rfl ?_
      refine g_ifT X5 hx 164 (hb hby d3_157) (by decide) (by decide) (by decide) ?_
      refine g_aloadN X5 hx 165 (hb hby d3_164) rfl rfl rfl ?_
      refine g_getF X5 hx 168 hZ hown (host := "") (Or.inl (own_w hw 12 rfl)) Via.refl e5 F_co (hb hby d3_165) rfl (fun T6 X6 e6 => ?_)
      refine g_iloadN X6 hx 169 (hb hby d3_168) rfl rfl ?_
      refine g_iload X6 hx 171 (hb hby d3_169) rfl rfl ?_
      refine g_isub X6 hx 172 (1 : Int32) (hb hby d3_171) (by decide) rfl ?_
      refine g_i2l X6 hx 173 (1 : Int64) (hb hby d3_172) (by decide) rfl ?_
      refine g_ladd X6 hx 174 (co + (1 : Int64)) (hb hby d3_173) rfl rfl ?_
      refine g_iload X6 hx 176 (hb hby d3_174) rfl rfl ?_
      refine g_i2l X6 hx 177 (0 : Int64) (hb hby d3_176) (by decide) rfl ?_
      refine g_lsub X6 hx 178 ((co + (1 : Int64)) - (0 : Int64)) (hb hby d3_177) rfl rfl ?_
      refine g_putF X6 hx 181 hZ hown (host := "") (Or.inl (own_w hw 12 rfl)) Via.refl e6 F_co E_a (Or.inl (own_w hw 13 rfl)) (own_w hw 2 rfl) (ty := .long) (by decide) rfl rfl (hb hby d3_178) rfl (fun T7 h7 X7 e7 W7 => ?_)
      have E_a := E_a.wr W7
      have F_ln := F_ln.other W7 (Or.inr (slot_ne (Or.inl (own_w hw 11 rfl)) (Or.inl (own_w hw 13 rfl)) (by decide) (t := .long) (t' := .long) (by decide) (by decide)))
      have F_co := F_co.same W7
      have F_la := F_la.other W7 (Or.inr (slot_ne (Or.inl (own_w hw 28 rfl)) (Or.inl (own_w hw 13 rfl)) (by decide) (t := .char) (t' := .long) (by decide) (by decide)))
      have V_b := V_b.other W7 (Ne.symm ne_a_b)
      have N7 := Fr.snoc X7 N5 g_a
      have Z7 : n0 ≤ h7.size := by rw [W7.size]; exact Z5
      have K7 := K5.wr W7 (Or.inl (List.mem_of_getElem? (i := 0) rfl))
      refine g_aloadN X7 hx 182 (hb hby d3_181) rfl rfl rfl ?_
      refine g_aloadN X7 hx 183 (hb hby d3_182) rfl rfl rfl ?_
      refine g_iloadN X7 hx 184 (hb hby d3_183) rfl rfl ?_
      refine g_iconst X7 hx 185 (1 : Int32) (hb hby d3_184) (by decide) rfl ?_
      refine g_isub X7 hx 186 (0 : Int32) (hb hby d3_185) (by decide) rfl ?_
      refine g_caload X7 hx 187 hZ e7 V_b ⟨by decide, by decide⟩ (show _ = (.int c0) from rfl) (hb hby d3_186) rfl ?_
      refine g_putF X7 hx 190 hZ hown (host := "") (Or.inl (own_w hw 27 rfl)) Via.refl e7 F_la E_a (Or.inl (own_w hw 28 rfl)) (own_w hw 2 rfl) (ty := .char) (by decide) (own_nrw hcc0) (own_fit hcc0) (hb hby d3_187) rfl (fun T8 h8 X8 e8 W8 => ?_)
      have E_a := E_a.wr W8
      have F_ln := F_ln.other W8 (Or.inr (slot_ne (Or.inl (own_w hw 11 rfl)) (Or.inl (own_w hw 28 rfl)) (by decide) (t := .long) (t' := .char) (by decide) (by decide)))
      have F_co := F_co.other W8 (Or.inr (slot_ne (Or.inl (own_w hw 13 rfl)) (Or.inl (own_w hw 28 rfl)) (by decide) (t := .long) (t' := .char) (by decide) (by decide)))
      have F_la := F_la.same W8
      have V_b := V_b.other W8 (Ne.symm ne_a_b)
      have N8 := Fr.snoc X8 N7 g_a
      have Z8 : n0 ≤ h8.size := by rw [W8.size]; exact Z7
      have K8 := K7.wr W8 (Or.inl (List.mem_of_getElem? (i := 0) rfl))
      have hv1 : own_ln c0 la ln = ln := by unfold own_ln; rw [if_pos hc2]
      have hv2 : own_co c0 la co = ((co + (1 : Int64)) - (0 : Int64)) := by unfold own_co; rw [if_pos hc2, if_pos hc4]
      exact g_retV X8 hx hret hlk (hb hby d3_190) (by decide) (by decide) (by rw [e8, hv1, hv2]; exact ⟨rfl, N8, K8, E_a, F_ln, F_co, F_la⟩)
    · refine g_ifF X3 hx 125 (hb hby d3_122) ((if0 _ _).trans (feq hc4).1) rfl ?_
      refine g_aloadN X3 hx 126 (hb hby d3_125) rfl rfl rfl ?_
      refine g_aloadN X3 hx 127 (hb hby d3_126) rfl rfl rfl ?_
      refine g_iloadN X3 hx 128 (hb hby d3_127) rfl rfl ?_
      refine g_iload X3 hx 130 (hb hby d3_128) rfl rfl ?_
      refine g_callP X3 hx 133 hZ hown (own_w hw 49 rfl) (own_w hw 50 rfl) (own_w hw 51 rfl) (own_w hw 17 rfl) rfl (own_w hw 3 rfl) (own_w hw 52 rfl) (by decide) a E_a [(.ref b), (.int (0 : Int32)), (.int (0 : Int32))] [] (rm10_1_0 l Z a0 hw a b la c0 kA h0 n0 Z0 F_la V_b hla) e3 0 (by decide) (by decide) (by decide) (by decide) (by rw [hml]; rfl) (lenOf own_pd1 rfl) (hb hby d3_130) rfl (Nat.le_of_eq rfl) rfl (fun v9 T9 L9 X9 hQ9 => ?_)
      obtain ⟨rfl, N9q, e9⟩ := hQ9
      have N9 := Fr.app N3 N9q
      show Go p e below _ _ T9 (mkF m 133 #[.val (.ref a), .val (.ref b), .val (.int (0 : Int32)), .val (.int (1 : Int32)), .val (.long ln), .second, .val (.int (0 : Int32)), .val (.int (0 : Int32)), .val (.int (1 : Int32)), .val (.int (0 : Int32)), .val (.int (0 : Int32))] [(.int la)])
      refine g_callS X9 hx 136 hZ hown (own_w hw 58 rfl) (own_w hw 59 rfl) (own_w hw 24 rfl) (own_w hw 60 rfl) (by decide) [(.int la)] [] (rm12 l Z a0 hw la h0 n0 Z0) e9 0 (by decide) (by decide) (by decide) (by decide) (by rw [hml]; rfl) (lenOf own_pd0 rfl) (hb hby d3_133) rfl (Nat.le_of_eq rfl) rfl (fun v10 T10 L10 X10 hQ10 => ?_)
      obtain ⟨rfl, N10q, e10⟩ := hQ10
      have N10 := Fr.app N9 N10q
      show Go p e below _ _ T10 (mkF m 136 #[.val (.ref a), .val (.ref b), .val (.int (0 : Int32)), .val (.int (1 : Int32)), .val (.long ln), .second, .val (.int (0 : Int32)), .val (.int (0 : Int32)), .val (.int (1 : Int32)), .val (.int (0 : Int32)), .val (.int (0 : Int32))] [(.int (own_high la))])
      by_cases hc11 : (own_high la) = (0 : Int32)
      · refine g_ifT X10 hx 142 (hb hby d3_136) ((if0 _ _).trans (teq hc11).1) (by decide) (by decide) ?_
        refine g_iinc X10 hx 145 (1 : Int32) #[.val (.ref a), .val (.ref b), .val (.int (0 : Int32)), .val (.int (1 : Int32)), .val (.long ln), .second, .val (.int (0 : Int32)), .val (.int (0 : Int32)), .val (.int (1 : Int32)), .val (.int (0 : Int32)), .val (.int (1 : Int32))] (hb hby d3_142) rfl (by decide) rfl rfl ?_
        refine g_goto X10 hx 109 (hb hby d3_145) (by decide) (by decide) ?_
        refine g_iload X10 hx 111 (hb hby d3_109) rfl rfl ?_
        refine g_iloadN X10 hx 112 (hb hby d3_111) rfl rfl ?_
        refine g_icT X10 hx 148 (hb hby d3_112) (by decide) (by decide) (by decide) ?_
        refine g_aloadN X10 hx 149 (hb hby d3_148) rfl rfl rfl ?_
        refine g_lload X10 hx 151 (hb hby d3_149) rfl rfl ?_
        refine g_putF X10 hx 154 hZ hown (host := "") (Or.inl (own_w hw 10 rfl)) Via.refl e10 F_ln E_a (Or.inl (own_w hw 11 rfl)) (own_w hw 2 rfl) (ty := .long) (by decide) rfl rfl (hb hby d3_151) rfl (fun T12 h12 X12 e12 W12 => ?_)
        have E_a := E_a.wr W12
        have F_ln := F_ln.same W12
        have F_co := F_co.other W12 (Or.inr (slot_ne (Or.inl (own_w hw 13 rfl)) (Or.inl (own_w hw 11 rfl)) (by decide) (t := .long) (t' := .long) (by decide) (by decide)))
        have F_la := F_la.other W12 (Or.inr (slot_ne (Or.inl (own_w hw 28 rfl)) (Or.inl (own_w hw 11 rfl)) (by decide) (t := .char) (t' := .long) (by decide) (by decide)))
        have V_b := V_b.other W12 (Ne.symm ne_a_b)
        have N12 := Fr.snoc X12 N10 g_a
        have Z12 : n0 ≤ h12.size := by rw [W12.size]; exact Z0
        have K12 := K0.wr W12 (Or.inl (List.mem_of_getElem? (i := 0) rfl))
        refine g_aloadN X12 hx 155 (hb hby d3_154) rfl rfl rfl ?_
        refine g_iload X12 hx 157 (hb hby d3_155) rfl rfl ?_
        refine g_ifT X12 hx 164 (hb hby d3_157) (by decide) (by decide) (by decide) ?_
        refine g_aloadN X12 hx 165 (hb hby d3_164) rfl rfl rfl ?_
        refine g_getF X12 hx 168 hZ hown (host := "") (Or.inl (own_w hw 12 rfl)) Via.refl e12 F_co (hb hby d3_165) rfl (fun T13 X13 e13 => ?_)
        refine g_iloadN X13 hx 169 (hb hby d3_168) rfl rfl ?_
        refine g_iload X13 hx 171 (hb hby d3_169) rfl rfl ?_
        refine g_isub X13 hx 172 (1 : Int32) (hb hby d3_171) (by decide) rfl ?_
        refine g_i2l X13 hx 173 (1 : Int64) (hb hby d3_172) (by decide) rfl ?_
        refine g_ladd X13 hx 174 (co + (1 : Int64)) (hb hby d3_173) rfl rfl ?_
        refine g_iload X13 hx 176 (hb hby d3_174) rfl rfl ?_
        refine g_i2l X13 hx 177 (0 : Int64) (hb hby d3_176) (by decide) rfl ?_
        refine g_lsub X13 hx 178 ((co + (1 : Int64)) - (0 : Int64)) (hb hby d3_177) rfl rfl ?_
        refine g_putF X13 hx 181 hZ hown (host := "") (Or.inl (own_w hw 12 rfl)) Via.refl e13 F_co E_a (Or.inl (own_w hw 13 rfl)) (own_w hw 2 rfl) (ty := .long) (by decide) rfl rfl (hb hby d3_178) rfl (fun T14 h14 X14 e14 W14 => ?_)
        have E_a := E_a.wr W14
        have F_ln := F_ln.other W14 (Or.inr (slot_ne (Or.inl (own_w hw 11 rfl)) (Or.inl (own_w hw 13 rfl)) (by decide) (t := .long) (t' := .long) (by decide) (by decide)))
        have F_co := F_co.same W14
        have F_la := F_la.other W14 (Or.inr (slot_ne (Or.inl (own_w hw 28 rfl)) (Or.inl (own_w hw 13 rfl)) (by decide) (t := .char) (t' := .long) (by decide) (by decide)))
        have V_b := V_b.other W14 (Ne.symm ne_a_b)
        have N14 := Fr.snoc X14 N12 g_a
        have Z14 : n0 ≤ h14.size := by rw [W14.size]; exact Z12
        have K14 := K12.wr W14 (Or.inl (List.mem_of_getElem? (i := 0) rfl))
        refine g_aloadN X14 hx 182 (hb hby d3_181) rfl rfl rfl ?_
        refine g_aloadN X14 hx 183 (hb hby d3_182) rfl rfl rfl ?_
        refine g_iloadN X14 hx 184 (hb hby d3_183) rfl rfl ?_
        refine g_iconst X14 hx 185 (1 : Int32) (hb hby d3_184) (by decide) rfl ?_
        refine g_isub X14 hx 186 (0 : Int32) (hb hby d3_185) (by decide) rfl ?_
        refine g_caload X14 hx 187 hZ e14 V_b ⟨by decide, by decide⟩ (show _ = (.int c0) from rfl) (hb hby d3_186) rfl ?_
        refine g_putF X14 hx 190 hZ hown (host := "") (Or.inl (own_w hw 27 rfl)) Via.refl e14 F_la E_a (Or.inl (own_w hw 28 rfl)) (own_w hw 2 rfl) (ty := .char) (by decide) (own_nrw hcc0) (own_fit hcc0) (hb hby d3_187) rfl (fun T15 h15 X15 e15 W15 => ?_)
        have E_a := E_a.wr W15
        have F_ln := F_ln.other W15 (Or.inr (slot_ne (Or.inl (own_w hw 11 rfl)) (Or.inl (own_w hw 28 rfl)) (by decide) (t := .long) (t' := .char) (by decide) (by decide)))
        have F_co := F_co.other W15 (Or.inr (slot_ne (Or.inl (own_w hw 13 rfl)) (Or.inl (own_w hw 28 rfl)) (by decide) (t := .long) (t' := .char) (by decide) (by decide)))
        have F_la := F_la.same W15
        have V_b := V_b.other W15 (Ne.symm ne_a_b)
        have N15 := Fr.snoc X15 N14 g_a
        have Z15 : n0 ≤ h15.size := by rw [W15.size]; exact Z14
        have K15 := K14.wr W15 (Or.inl (List.mem_of_getElem? (i := 0) rfl))
        have hv1 : own_ln c0 la ln = ln := by unfold own_ln; rw [if_pos hc2]
        have hv2 : own_co c0 la co = ((co + (1 : Int64)) - (0 : Int64)) := by unfold own_co; rw [if_pos hc2, if_neg hc4, if_pos hc11]
        exact g_retV X15 hx hret hlk (hb hby d3_190) (by decide) (by decide) (by rw [e15, hv1, hv2]; exact ⟨rfl, N15, K15, E_a, F_ln, F_co, F_la⟩)
      · refine g_ifF X10 hx 139 (hb hby d3_136) ((if0 _ _).trans (feq hc11).1) rfl ?_
        refine g_iinc X10 hx 142 (1 : Int32) #[.val (.ref a), .val (.ref b), .val (.int (0 : Int32)), .val (.int (1 : Int32)), .val (.long ln), .second, .val (.int (0 : Int32)), .val (.int (0 : Int32)), .val (.int (1 : Int32)), .val (.int (1 : Int32)), .val (.int (0 : Int32))] (hb hby d3_139) rfl (by decide) rfl rfl ?_
        refine g_iinc X10 hx 145 (1 : Int32) #[.val (.ref a), .val (.ref b), .val (.int (0 : Int32)), .val (.int (1 : Int32)), .val (.long ln), .second, .val (.int (0 : Int32)), .val (.int (0 : Int32)), .val (.int (1 : Int32)), .val (.int (1 : Int32)), .val (.int (1 : Int32))] (hb hby d3_142) rfl (by decide) rfl rfl ?_
        refine g_goto X10 hx 109 (hb hby d3_145) (by decide) (by decide) ?_
        refine g_iload X10 hx 111 (hb hby d3_109) rfl rfl ?_
        refine g_iloadN X10 hx 112 (hb hby d3_111) rfl rfl ?_
        refine g_icT X10 hx 148 (hb hby d3_112) (by decide) (by decide) (by decide) ?_
        refine g_aloadN X10 hx 149 (hb hby d3_148) rfl rfl rfl ?_
        refine g_lload X10 hx 151 (hb hby d3_149) rfl rfl ?_
        refine g_putF X10 hx 154 hZ hown (host := "") (Or.inl (own_w hw 10 rfl)) Via.refl e10 F_ln E_a (Or.inl (own_w hw 11 rfl)) (own_w hw 2 rfl) (ty := .long) (by decide) rfl rfl (hb hby d3_151) rfl (fun T16 h16 X16 e16 W16 => ?_)
        have E_a := E_a.wr W16
        have F_ln := F_ln.same W16
        have F_co := F_co.other W16 (Or.inr (slot_ne (Or.inl (own_w hw 13 rfl)) (Or.inl (own_w hw 11 rfl)) (by decide) (t := .long) (t' := .long) (by decide) (by decide)))
        have F_la := F_la.other W16 (Or.inr (slot_ne (Or.inl (own_w hw 28 rfl)) (Or.inl (own_w hw 11 rfl)) (by decide) (t := .char) (t' := .long) (by decide) (by decide)))
        have V_b := V_b.other W16 (Ne.symm ne_a_b)
        have N16 := Fr.snoc X16 N10 g_a
        have Z16 : n0 ≤ h16.size := by rw [W16.size]; exact Z0
        have K16 := K0.wr W16 (Or.inl (List.mem_of_getElem? (i := 0) rfl))
        refine g_aloadN X16 hx 155 (hb hby d3_154) rfl rfl rfl ?_
        refine g_iload X16 hx 157 (hb hby d3_155) rfl rfl ?_
        refine g_ifT X16 hx 164 (hb hby d3_157) (by decide) (by decide) (by decide) ?_
        refine g_aloadN X16 hx 165 (hb hby d3_164) rfl rfl rfl ?_
        refine g_getF X16 hx 168 hZ hown (host := "") (Or.inl (own_w hw 12 rfl)) Via.refl e16 F_co (hb hby d3_165) rfl (fun T17 X17 e17 => ?_)
        refine g_iloadN X17 hx 169 (hb hby d3_168) rfl rfl ?_
        refine g_iload X17 hx 171 (hb hby d3_169) rfl rfl ?_
        refine g_isub X17 hx 172 (1 : Int32) (hb hby d3_171) (by decide) rfl ?_
        refine g_i2l X17 hx 173 (1 : Int64) (hb hby d3_172) (by decide) rfl ?_
        refine g_ladd X17 hx 174 (co + (1 : Int64)) (hb hby d3_173) rfl rfl ?_
        refine g_iload X17 hx 176 (hb hby d3_174) rfl rfl ?_
        refine g_i2l X17 hx 177 (1 : Int64) (hb hby d3_176) (by decide) rfl ?_
        refine g_lsub X17 hx 178 ((co + (1 : Int64)) - (1 : Int64)) (hb hby d3_177) rfl rfl ?_
        refine g_putF X17 hx 181 hZ hown (host := "") (Or.inl (own_w hw 12 rfl)) Via.refl e17 F_co E_a (Or.inl (own_w hw 13 rfl)) (own_w hw 2 rfl) (ty := .long) (by decide) rfl rfl (hb hby d3_178) rfl (fun T18 h18 X18 e18 W18 => ?_)
        have E_a := E_a.wr W18
        have F_ln := F_ln.other W18 (Or.inr (slot_ne (Or.inl (own_w hw 11 rfl)) (Or.inl (own_w hw 13 rfl)) (by decide) (t := .long) (t' := .long) (by decide) (by decide)))
        have F_co := F_co.same W18
        have F_la := F_la.other W18 (Or.inr (slot_ne (Or.inl (own_w hw 28 rfl)) (Or.inl (own_w hw 13 rfl)) (by decide) (t := .char) (t' := .long) (by decide) (by decide)))
        have V_b := V_b.other W18 (Ne.symm ne_a_b)
        have N18 := Fr.snoc X18 N16 g_a
        have Z18 : n0 ≤ h18.size := by rw [W18.size]; exact Z16
        have K18 := K16.wr W18 (Or.inl (List.mem_of_getElem? (i := 0) rfl))
        refine g_aloadN X18 hx 182 (hb hby d3_181) rfl rfl rfl ?_
        refine g_aloadN X18 hx 183 (hb hby d3_182) rfl rfl rfl ?_
        refine g_iloadN X18 hx 184 (hb hby d3_183) rfl rfl ?_
        refine g_iconst X18 hx 185 (1 : Int32) (hb hby d3_184) (by decide) rfl ?_
        refine g_isub X18 hx 186 (0 : Int32) (hb hby d3_185) (by decide) rfl ?_
        refine g_caload X18 hx 187 hZ e18 V_b ⟨by decide, by decide⟩ (show _ = (.int c0) from rfl) (hb hby d3_186) rfl ?_
        refine g_putF X18 hx 190 hZ hown (host := "") (Or.inl (own_w hw 27 rfl)) Via.refl e18 F_la E_a (Or.inl (own_w hw 28 rfl)) (own_w hw 2 rfl) (ty := .char) (by decide) (own_nrw hcc0) (own_fit hcc0) (hb hby d3_187) rfl (fun T19 h19 X19 e19 W19 => ?_)
        have E_a := E_a.wr W19
        have F_ln := F_ln.other W19 (Or.inr (slot_ne (Or.inl (own_w hw 11 rfl)) (Or.inl (own_w hw 28 rfl)) (by decide) (t := .long) (t' := .char) (by decide) (by decide)))
        have F_co := F_co.other W19 (Or.inr (slot_ne (Or.inl (own_w hw 13 rfl)) (Or.inl (own_w hw 28 rfl)) (by decide) (t := .long) (t' := .char) (by decide) (by decide)))
        have F_la := F_la.same W19
        have V_b := V_b.other W19 (Ne.symm ne_a_b)
        have N19 := Fr.snoc X19 N18 g_a
        have Z19 : n0 ≤ h19.size := by rw [W19.size]; exact Z18
        have K19 := K18.wr W19 (Or.inl (List.mem_of_getElem? (i := 0) rfl))
        have hv1 : own_ln c0 la ln = ln := by unfold own_ln; rw [if_pos hc2]
        have hv2 : own_co c0 la co = ((co + (1 : Int64)) - (1 : Int64)) := by unfold own_co; rw [if_pos hc2, if_neg hc4, if_neg hc11]
        exact g_retV X19 hx hret hlk (hb hby d3_190) (by decide) (by decide) (by rw [e19, hv1, hv2]; exact ⟨rfl, N19, K19, E_a, F_ln, F_co, F_la⟩)
  · refine g_icT X1 hx 42 (hb hby d3_33) (flt hc2).2.2.2 (by decide) (by decide) ?_
    refine g_iload X1 hx 44 (hb hby d3_42) rfl rfl ?_
    refine g_iloadN X1 hx 45 (hb hby d3_44) rfl rfl ?_
    refine g_icT X1 hx 51 (hb hby d3_45) (by decide) (by decide) (by decide) ?_
    refine g_aloadN X1 hx 52 (hb hby d3_51) rfl rfl rfl ?_
    refine g_iload X1 hx 54 (hb hby d3_52) rfl rfl ?_
    refine g_caload X1 hx 55 hZ e1 V_b ⟨by decide, by decide⟩ (show _ = (.int c0) from rfl) (hb hby d3_54) rfl ?_
    refine g_istore X1 hx 57 #[.val (.ref a), .val (.ref b), .val (.int (0 : Int32)), .val (.int (1 : Int32)), .val (.long ln), .second, .val (.int (0 : Int32)), .val (.int (0 : Int32)), .val (.int (0 : Int32)), .val (.int c0), .unset] (hb hby d3_55) rfl rfl ?_
    refine g_iload X1 hx 59 (hb hby d3_57) rfl rfl ?_
    refine g_callS X1 hx 62 hZ hown (own_w hw 19 rfl) (own_w hw 20 rfl) (own_w hw 3 rfl) (own_w hw 21 rfl) (by decide) [(.int c0)] [] (rm4 l Z a0 hw c0 h0 n0 Z0) e1 0 (by decide) (by decide) (by decide) (by decide) (by rw [hml]; rfl) (lenOf own_pd0 rfl) (hb hby d3_59) rfl (Nat.le_of_eq rfl) rfl (fun v20 T20 L20 X20 hQ20 => ?_)
    obtain ⟨rfl, N20q, e20⟩ := hQ20
    have N20 := Fr.app N0 N20q
    show Go p e below _ _ T20 (mkF m 62 #[.val (.ref a), .val (.ref b), .val (.int (0 : Int32)), .val (.int (1 : Int32)), .val (.long ln), .second, .val (.int (0 : Int32)), .val (.int (0 : Int32)), .val (.int (0 : Int32)), .val (.int c0), .unset] [(.int (own_term c0))])
    by_cases hc21 : (own_term c0) = (0 : Int32)
    · refine g_ifT X20 hx 96 (hb hby d3_62) ((if0 _ _).trans (teq hc21).1) (by decide) (by decide) ?_
      refine g_iinc X20 hx 99 (1 : Int32) #[.val (.ref a), .val (.ref b), .val (.int (0 : Int32)), .val (.int (1 : Int32)), .val (.long ln), .second, .val (.int (0 : Int32)), .val (.int (0 : Int32)), .val (.int (1 : Int32)), .val (.int c0), .unset] (hb hby d3_96) rfl (by decide) rfl rfl ?_
      refine g_goto X20 hx 21 (hb hby d3_99) (by decide) (by decide) ?_
      refine g_iload X20 hx 23 (hb hby d3_21) rfl rfl ?_
      refine g_iloadN X20 hx 24 (hb hby d3_23) rfl rfl ?_
      refine g_icT X20 hx 42 (hb hby d3_24) (by decide) (by decide) (by decide) ?_
      refine g_iload X20 hx 44 (hb hby d3_42) rfl rfl ?_
      refine g_iloadN X20 hx 45 (hb hby d3_44) rfl rfl ?_
      refine g_icF X20 hx 48 (hb hby d3_45) (by decide) rfl ?_
      refine g_goto X20 hx 102 (hb hby d3_48) (by decide) (by decide) ?_
      refine g_iconst X20 hx 103 (0 : Int32) (hb hby d3_102) (by decide) rfl ?_
      refine g_istore X20 hx 105 #[.val (.ref a), .val (.ref b), .val (.int (0 : Int32)), .val (.int (1 : Int32)), .val (.long ln), .second, .val (.int (0 : Int32)), .val (.int (0 : Int32)), .val (.int (1 : Int32)), .val (.int (0 : Int32)), .unset] (hb hby d3_103) rfl rfl ?_
      refine g_iload X20 hx 107 (hb hby d3_105) rfl rfl ?_
      refine g_istore X20 hx 109 #[.val (.ref a), .val (.ref b), .val (.int (0 : Int32)), .val (.int (1 : Int32)), .val (.long ln), .second, .val (.int (0 : Int32)), .val (.int (0 : Int32)), .val (.int (1 : Int32)), .val (.int (0 : Int32)), .val (.int (0 : Int32))] (hb hby d3_107) rfl rfl ?_
      refine g_iload X20 hx 111 (hb hby d3_109) rfl rfl ?_
      refine g_iloadN X20 hx 112 (hb hby d3_111) rfl rfl ?_
      refine g_icF X20 hx 115 (hb hby d3_112) (by decide) rfl ?_
      refine g_aloadN X20 hx 116 (hb hby d3_115) rfl rfl rfl ?_
      refine g_iload X20 hx 118 (hb hby d3_116) rfl rfl ?_
      refine g_caload X20 hx 119 hZ e20 V_b ⟨by decide, by decide⟩ (show _ = (.int c0) from rfl) (hb hby d3_118) rfl ?_
      refine g_callS X20 hx 122 hZ hown (own_w hw 22 rfl) (own_w hw 23 rfl) (own_w hw 24 rfl) (own_w hw 25 rfl) (by decide) [(.int c0)] [] (rm5 l Z a0 hw c0 h0 n0 Z0) e20 0 (by decide) (by decide) (by decide) (by decide) (by rw [hml]; rfl) (lenOf own_pd0 rfl) (hb hby d3_119) rfl (Nat.le_of_eq rfl) rfl (fun v22 T22 L22 X22 hQ22 => ?_)
      obtain ⟨rfl, N22q, e22⟩ := hQ22
      have N22 := Fr.app N20 N22q
      show Go p e below _ _ T22 (mkF m 122 #[.val (.ref a), .val (.ref b), .val (.int (0 : Int32)), .val (.int (1 : Int32)), .val (.long ln), .second, .val (.int (0 : Int32)), .val (.int (0 : Int32)), .val (.int (1 : Int32)), .val (.int (0 : Int32)), .val (.int (0 : Int32))] [(.int (own_low c0))])
      by_cases hc23 : (own_low c0) = (0 : Int32)
      · refine g_ifT X22 hx 142 (hb hby d3_122) ((if0 _ _).trans (teq hc23).1) (by decide) (by decide) ?_
        refine g_iinc X22 hx 145 (1 : Int32) #[.val (.ref a), .val (.ref b), .val (.int (0 : Int32)), .val (.int (1 : Int32)), .val (.long ln), .second, .val (.int (0 : Int32)), .val (.int (0 : Int32)), .val (.int (1 : Int32)), .val (.int (0 : Int32)), .val (.int (1 : Int32))] (hb hby d3_142) rfl (by decide) rfl rfl ?_
        refine g_goto X22 hx 109 (hb hby d3_145) (by decide) (by decide) ?_
        refine g_iload X22 hx 111 (hb hby d3_109) rfl rfl ?_
        refine g_iloadN X22 hx 112 (hb hby d3_111) rfl rfl ?_
        refine g_icT X22 hx 148 (hb hby d3_112) (by decide) (by decide) (by decide) ?_
        refine g_aloadN X22 hx 149 (hb hby d3_148) rfl rfl rfl ?_
        refine g_lload X22 hx 151 (hb hby d3_149) rfl rfl ?_
        refine g_putF X22 hx 154 hZ hown (host := "") (Or.inl (own_w hw 10 rfl)) Via.refl e22 F_ln E_a (Or.inl (own_w hw 11 rfl)) (own_w hw 2 rfl) (ty := .long) (by decide) rfl rfl (hb hby d3_151) rfl (fun T24 h24 X24 e24 W24 => ?_)
        have E_a := E_a.wr W24
        have F_ln := F_ln.same W24
        have F_co := F_co.other W24 (Or.inr (slot_ne (Or.inl (own_w hw 13 rfl)) (Or.inl (own_w hw 11 rfl)) (by decide) (t := .long) (t' := .long) (by decide) (by decide)))
        have F_la := F_la.other W24 (Or.inr (slot_ne (Or.inl (own_w hw 28 rfl)) (Or.inl (own_w hw 11 rfl)) (by decide) (t := .char) (t' := .long) (by decide) (by decide)))
        have V_b := V_b.other W24 (Ne.symm ne_a_b)
        have N24 := Fr.snoc X24 N22 g_a
        have Z24 : n0 ≤ h24.size := by rw [W24.size]; exact Z0
        have K24 := K0.wr W24 (Or.inl (List.mem_of_getElem? (i := 0) rfl))
        refine g_aloadN X24 hx 155 (hb hby d3_154) rfl rfl rfl ?_
        refine g_iload X24 hx 157 (hb hby d3_155) rfl rfl ?_
        refine g_ifT X24 hx 164 (hb hby d3_157) (by decide) (by decide) (by decide) ?_
        refine g_aloadN X24 hx 165 (hb hby d3_164) rfl rfl rfl ?_
        refine g_getF X24 hx 168 hZ hown (host := "") (Or.inl (own_w hw 12 rfl)) Via.refl e24 F_co (hb hby d3_165) rfl (fun T25 X25 e25 => ?_)
        refine g_iloadN X25 hx 169 (hb hby d3_168) rfl rfl ?_
        refine g_iload X25 hx 171 (hb hby d3_169) rfl rfl ?_
        refine g_isub X25 hx 172 (1 : Int32) (hb hby d3_171) (by decide) rfl ?_
        refine g_i2l X25 hx 173 (1 : Int64) (hb hby d3_172) (by decide) rfl ?_
        refine g_ladd X25 hx 174 (co + (1 : Int64)) (hb hby d3_173) rfl rfl ?_
        refine g_iload X25 hx 176 (hb hby d3_174) rfl rfl ?_
        refine g_i2l X25 hx 177 (0 : Int64) (hb hby d3_176) (by decide) rfl ?_
        refine g_lsub X25 hx 178 ((co + (1 : Int64)) - (0 : Int64)) (hb hby d3_177) rfl rfl ?_
        refine g_putF X25 hx 181 hZ hown (host := "") (Or.inl (own_w hw 12 rfl)) Via.refl e25 F_co E_a (Or.inl (own_w hw 13 rfl)) (own_w hw 2 rfl) (ty := .long) (by decide) rfl rfl (hb hby d3_178) rfl (fun T26 h26 X26 e26 W26 => ?_)
        have E_a := E_a.wr W26
        have F_ln := F_ln.other W26 (Or.inr (slot_ne (Or.inl (own_w hw 11 rfl)) (Or.inl (own_w hw 13 rfl)) (by decide) (t := .long) (t' := .long) (by decide) (by decide)))
        have F_co := F_co.same W26
        have F_la := F_la.other W26 (Or.inr (slot_ne (Or.inl (own_w hw 28 rfl)) (Or.inl (own_w hw 13 rfl)) (by decide) (t := .char) (t' := .long) (by decide) (by decide)))
        have V_b := V_b.other W26 (Ne.symm ne_a_b)
        have N26 := Fr.snoc X26 N24 g_a
        have Z26 : n0 ≤ h26.size := by rw [W26.size]; exact Z24
        have K26 := K24.wr W26 (Or.inl (List.mem_of_getElem? (i := 0) rfl))
        refine g_aloadN X26 hx 182 (hb hby d3_181) rfl rfl rfl ?_
        refine g_aloadN X26 hx 183 (hb hby d3_182) rfl rfl rfl ?_
        refine g_iloadN X26 hx 184 (hb hby d3_183) rfl rfl ?_
        refine g_iconst X26 hx 185 (1 : Int32) (hb hby d3_184) (by decide) rfl ?_
        refine g_isub X26 hx 186 (0 : Int32) (hb hby d3_185) (by decide) rfl ?_
        refine g_caload X26 hx 187 hZ e26 V_b ⟨by decide, by decide⟩ (show _ = (.int c0) from rfl) (hb hby d3_186) rfl ?_
        refine g_putF X26 hx 190 hZ hown (host := "") (Or.inl (own_w hw 27 rfl)) Via.refl e26 F_la E_a (Or.inl (own_w hw 28 rfl)) (own_w hw 2 rfl) (ty := .char) (by decide) (own_nrw hcc0) (own_fit hcc0) (hb hby d3_187) rfl (fun T27 h27 X27 e27 W27 => ?_)
        have E_a := E_a.wr W27
        have F_ln := F_ln.other W27 (Or.inr (slot_ne (Or.inl (own_w hw 11 rfl)) (Or.inl (own_w hw 28 rfl)) (by decide) (t := .long) (t' := .char) (by decide) (by decide)))
        have F_co := F_co.other W27 (Or.inr (slot_ne (Or.inl (own_w hw 13 rfl)) (Or.inl (own_w hw 28 rfl)) (by decide) (t := .long) (t' := .char) (by decide) (by decide)))
        have F_la := F_la.same W27
        have V_b := V_b.other W27 (Ne.symm ne_a_b)
        have N27 := Fr.snoc X27 N26 g_a
        have Z27 : n0 ≤ h27.size := by rw [W27.size]; exact Z26
        have K27 := K26.wr W27 (Or.inl (List.mem_of_getElem? (i := 0) rfl))
        have hv1 : own_ln c0 la ln = ln := by unfold own_ln; rw [if_neg hc2, if_pos hc21]
        have hv2 : own_co c0 la co = ((co + (1 : Int64)) - (0 : Int64)) := by unfold own_co; rw [if_neg hc2, if_pos hc21, if_pos hc23]
        exact g_retV X27 hx hret hlk (hb hby d3_190) (by decide) (by decide) (by rw [e27, hv1, hv2]; exact ⟨rfl, N27, K27, E_a, F_ln, F_co, F_la⟩)
      · refine g_ifF X22 hx 125 (hb hby d3_122) ((if0 _ _).trans (feq hc23).1) rfl ?_
        refine g_aloadN X22 hx 126 (hb hby d3_125) rfl rfl rfl ?_
        refine g_aloadN X22 hx 127 (hb hby d3_126) rfl rfl rfl ?_
        refine g_iloadN X22 hx 128 (hb hby d3_127) rfl rfl ?_
        refine g_iload X22 hx 130 (hb hby d3_128) rfl rfl ?_
        refine g_callP X22 hx 133 hZ hown (own_w hw 49 rfl) (own_w hw 50 rfl) (own_w hw 51 rfl) (own_w hw 17 rfl) rfl (own_w hw 3 rfl) (own_w hw 52 rfl) (by decide) a E_a [(.ref b), (.int (0 : Int32)), (.int (0 : Int32))] [] (rm10_1_0 l Z a0 hw a b la c0 kA h0 n0 Z0 F_la V_b hla) e22 0 (by decide) (by decide) (by decide) (by decide) (by rw [hml]; rfl) (lenOf own_pd1 rfl) (hb hby d3_130) rfl (Nat.le_of_eq rfl) rfl (fun v28 T28 L28 X28 hQ28 => ?_)
        obtain ⟨rfl, N28q, e28⟩ := hQ28
        have N28 := Fr.app N22 N28q
        show Go p e below _ _ T28 (mkF m 133 #[.val (.ref a), .val (.ref b), .val (.int (0 : Int32)), .val (.int (1 : Int32)), .val (.long ln), .second, .val (.int (0 : Int32)), .val (.int (0 : Int32)), .val (.int (1 : Int32)), .val (.int (0 : Int32)), .val (.int (0 : Int32))] [(.int la)])
        refine g_callS X28 hx 136 hZ hown (own_w hw 58 rfl) (own_w hw 59 rfl) (own_w hw 24 rfl) (own_w hw 60 rfl) (by decide) [(.int la)] [] (rm12 l Z a0 hw la h0 n0 Z0) e28 0 (by decide) (by decide) (by decide) (by decide) (by rw [hml]; rfl) (lenOf own_pd0 rfl) (hb hby d3_133) rfl (Nat.le_of_eq rfl) rfl (fun v29 T29 L29 X29 hQ29 => ?_)
        obtain ⟨rfl, N29q, e29⟩ := hQ29
        have N29 := Fr.app N28 N29q
        show Go p e below _ _ T29 (mkF m 136 #[.val (.ref a), .val (.ref b), .val (.int (0 : Int32)), .val (.int (1 : Int32)), .val (.long ln), .second, .val (.int (0 : Int32)), .val (.int (0 : Int32)), .val (.int (1 : Int32)), .val (.int (0 : Int32)), .val (.int (0 : Int32))] [(.int (own_high la))])
        by_cases hc30 : (own_high la) = (0 : Int32)
        · refine g_ifT X29 hx 142 (hb hby d3_136) ((if0 _ _).trans (teq hc30).1) (by decide) (by decide) ?_
          refine g_iinc X29 hx 145 (1 : Int32) #[.val (.ref a), .val (.ref b), .val (.int (0 : Int32)), .val (.int (1 : Int32)), .val (.long ln), .second, .val (.int (0 : Int32)), .val (.int (0 : Int32)), .val (.int (1 : Int32)), .val (.int (0 : Int32)), .val (.int (1 : Int32))] (hb hby d3_142) rfl (by decide) rfl rfl ?_
          refine g_goto X29 hx 109 (hb hby d3_145) (by decide) (by decide) ?_
          refine g_iload X29 hx 111 (hb hby d3_109) rfl rfl ?_
          refine g_iloadN X29 hx 112 (hb hby d3_111) rfl rfl ?_
          refine g_icT X29 hx 148 (hb hby d3_112) (by decide) (by decide) (by decide) ?_
          refine g_aloadN X29 hx 149 (hb hby d3_148) rfl rfl rfl ?_
          refine g_lload X29 hx 151 (hb hby d3_149) rfl rfl ?_
          refine g_putF X29 hx 154 hZ hown (host := "") (Or.inl (own_w hw 10 rfl)) Via.refl e29 F_ln E_a (Or.inl (own_w hw 11 rfl)) (own_w hw 2 rfl) (ty := .long) (by decide) rfl rfl (hb hby d3_151) rfl (fun T31 h31 X31 e31 W31 => ?_)
          have E_a := E_a.wr W31
          have F_ln := F_ln.same W31
          have F_co := F_co.other W31 (Or.inr (slot_ne (Or.inl (own_w hw 13 rfl)) (Or.inl (own_w hw 11 rfl)) (by decide) (t := .long) (t' := .long) (by decide) (by decide)))
          have F_la := F_la.other W31 (Or.inr (slot_ne (Or.inl (own_w hw 28 rfl)) (Or.inl (own_w hw 11 rfl)) (by decide) (t := .char) (t' := .long) (by decide) (by decide)))
          have V_b := V_b.other W31 (Ne.symm ne_a_b)
          have N31 := Fr.snoc X31 N29 g_a
          have Z31 : n0 ≤ h31.size := by rw [W31.size]; exact Z0
          have K31 := K0.wr W31 (Or.inl (List.mem_of_getElem? (i := 0) rfl))
          refine g_aloadN X31 hx 155 (hb hby d3_154) rfl rfl rfl ?_
          refine g_iload X31 hx 157 (hb hby d3_155) rfl rfl ?_
          refine g_ifT X31 hx 164 (hb hby d3_157) (by decide) (by decide) (by decide) ?_
          refine g_aloadN X31 hx 165 (hb hby d3_164) rfl rfl rfl ?_
          refine g_getF X31 hx 168 hZ hown (host := "") (Or.inl (own_w hw 12 rfl)) Via.refl e31 F_co (hb hby d3_165) rfl (fun T32 X32 e32 => ?_)
          refine g_iloadN X32 hx 169 (hb hby d3_168) rfl rfl ?_
          refine g_iload X32 hx 171 (hb hby d3_169) rfl rfl ?_
          refine g_isub X32 hx 172 (1 : Int32) (hb hby d3_171) (by decide) rfl ?_
          refine g_i2l X32 hx 173 (1 : Int64) (hb hby d3_172) (by decide) rfl ?_
          refine g_ladd X32 hx 174 (co + (1 : Int64)) (hb hby d3_173) rfl rfl ?_
          refine g_iload X32 hx 176 (hb hby d3_174) rfl rfl ?_
          refine g_i2l X32 hx 177 (0 : Int64) (hb hby d3_176) (by decide) rfl ?_
          refine g_lsub X32 hx 178 ((co + (1 : Int64)) - (0 : Int64)) (hb hby d3_177) rfl rfl ?_
          refine g_putF X32 hx 181 hZ hown (host := "") (Or.inl (own_w hw 12 rfl)) Via.refl e32 F_co E_a (Or.inl (own_w hw 13 rfl)) (own_w hw 2 rfl) (ty := .long) (by decide) rfl rfl (hb hby d3_178) rfl (fun T33 h33 X33 e33 W33 => ?_)
          have E_a := E_a.wr W33
          have F_ln := F_ln.other W33 (Or.inr (slot_ne (Or.inl (own_w hw 11 rfl)) (Or.inl (own_w hw 13 rfl)) (by decide) (t := .long) (t' := .long) (by decide) (by decide)))
          have F_co := F_co.same W33
          have F_la := F_la.other W33 (Or.inr (slot_ne (Or.inl (own_w hw 28 rfl)) (Or.inl (own_w hw 13 rfl)) (by decide) (t := .char) (t' := .long) (by decide) (by decide)))
          have V_b := V_b.other W33 (Ne.symm ne_a_b)
          have N33 := Fr.snoc X33 N31 g_a
          have Z33 : n0 ≤ h33.size := by rw [W33.size]; exact Z31
          have K33 := K31.wr W33 (Or.inl (List.mem_of_getElem? (i := 0) rfl))
          refine g_aloadN X33 hx 182 (hb hby d3_181) rfl rfl rfl ?_
          refine g_aloadN X33 hx 183 (hb hby d3_182) rfl rfl rfl ?_
          refine g_iloadN X33 hx 184 (hb hby d3_183) rfl rfl ?_
          refine g_iconst X33 hx 185 (1 : Int32) (hb hby d3_184) (by decide) rfl ?_
          refine g_isub X33 hx 186 (0 : Int32) (hb hby d3_185) (by decide) rfl ?_
          refine g_caload X33 hx 187 hZ e33 V_b ⟨by decide, by decide⟩ (show _ = (.int c0) from rfl) (hb hby d3_186) rfl ?_
          refine g_putF X33 hx 190 hZ hown (host := "") (Or.inl (own_w hw 27 rfl)) Via.refl e33 F_la E_a (Or.inl (own_w hw 28 rfl)) (own_w hw 2 rfl) (ty := .char) (by decide) (own_nrw hcc0) (own_fit hcc0) (hb hby d3_187) rfl (fun T34 h34 X34 e34 W34 => ?_)
          have E_a := E_a.wr W34
          have F_ln := F_ln.other W34 (Or.inr (slot_ne (Or.inl (own_w hw 11 rfl)) (Or.inl (own_w hw 28 rfl)) (by decide) (t := .long) (t' := .char) (by decide) (by decide)))
          have F_co := F_co.other W34 (Or.inr (slot_ne (Or.inl (own_w hw 13 rfl)) (Or.inl (own_w hw 28 rfl)) (by decide) (t := .long) (t' := .char) (by decide) (by decide)))
          have F_la := F_la.same W34
          have V_b := V_b.other W34 (Ne.symm ne_a_b)
          have N34 := Fr.snoc X34 N33 g_a
          have Z34 : n0 ≤ h34.size := by rw [W34.size]; exact Z33
          have K34 := K33.wr W34 (Or.inl (List.mem_of_getElem? (i := 0) rfl))
          have hv1 : own_ln c0 la ln = ln := by unfold own_ln; rw [if_neg hc2, if_pos hc21]
          have hv2 : own_co c0 la co = ((co + (1 : Int64)) - (0 : Int64)) := by unfold own_co; rw [if_neg hc2, if_pos hc21, if_neg hc23, if_pos hc30]
          exact g_retV X34 hx hret hlk (hb hby d3_190) (by decide) (by decide) (by rw [e34, hv1, hv2]; exact ⟨rfl, N34, K34, E_a, F_ln, F_co, F_la⟩)
        · refine g_ifF X29 hx 139 (hb hby d3_136) ((if0 _ _).trans (feq hc30).1) rfl ?_
          refine g_iinc X29 hx 142 (1 : Int32) #[.val (.ref a), .val (.ref b), .val (.int (0 : Int32)), .val (.int (1 : Int32)), .val (.long ln), .second, .val (.int (0 : Int32)), .val (.int (0 : Int32)), .val (.int (1 : Int32)), .val (.int (1 : Int32)), .val (.int (0 : Int32))] (hb hby d3_139) rfl (by decide) rfl rfl ?_
          refine g_iinc X29 hx 145 (1 : Int32) #[.val (.ref a), .val (.ref b), .val (.int (0 : Int32)), .val (.int (1 : Int32)), .val (.long ln), .second, .val (.int (0 : Int32)), .val (.int (0 : Int32)), .val (.int (1 : Int32)), .val (.int (1 : Int32)), .val (.int (1 : Int32))] (hb hby d3_142) rfl (by decide) rfl rfl ?_
          refine g_goto X29 hx 109 (hb hby d3_145) (by decide) (by decide) ?_
          refine g_iload X29 hx 111 (hb hby d3_109) rfl rfl ?_
          refine g_iloadN X29 hx 112 (hb hby d3_111) rfl rfl ?_
          refine g_icT X29 hx 148 (hb hby d3_112) (by decide) (by decide) (by decide) ?_
          refine g_aloadN X29 hx 149 (hb hby d3_148) rfl rfl rfl ?_
          refine g_lload X29 hx 151 (hb hby d3_149) rfl rfl ?_
          refine g_putF X29 hx 154 hZ hown (host := "") (Or.inl (own_w hw 10 rfl)) Via.refl e29 F_ln E_a (Or.inl (own_w hw 11 rfl)) (own_w hw 2 rfl) (ty := .long) (by decide) rfl rfl (hb hby d3_151) rfl (fun T35 h35 X35 e35 W35 => ?_)
          have E_a := E_a.wr W35
          have F_ln := F_ln.same W35
          have F_co := F_co.other W35 (Or.inr (slot_ne (Or.inl (own_w hw 13 rfl)) (Or.inl (own_w hw 11 rfl)) (by decide) (t := .long) (t' := .long) (by decide) (by decide)))
          have F_la := F_la.other W35 (Or.inr (slot_ne (Or.inl (own_w hw 28 rfl)) (Or.inl (own_w hw 11 rfl)) (by decide) (t := .char) (t' := .long) (by decide) (by decide)))
          have V_b := V_b.other W35 (Ne.symm ne_a_b)
          have N35 := Fr.snoc X35 N29 g_a
          have Z35 : n0 ≤ h35.size := by rw [W35.size]; exact Z0
          have K35 := K0.wr W35 (Or.inl (List.mem_of_getElem? (i := 0) rfl))
          refine g_aloadN X35 hx 155 (hb hby d3_154) rfl rfl rfl ?_
          refine g_iload X35 hx 157 (hb hby d3_155) rfl rfl ?_
          refine g_ifT X35 hx 164 (hb hby d3_157) (by decide) (by decide) (by decide) ?_
          refine g_aloadN X35 hx 165 (hb hby d3_164) rfl rfl rfl ?_
          refine g_getF X35 hx 168 hZ hown (host := "") (Or.inl (own_w hw 12 rfl)) Via.refl e35 F_co (hb hby d3_165) rfl (fun T36 X36 e36 => ?_)
          refine g_iloadN X36 hx 169 (hb hby d3_168) rfl rfl ?_
          refine g_iload X36 hx 171 (hb hby d3_169) rfl rfl ?_
          refine g_isub X36 hx 172 (1 : Int32) (hb hby d3_171) (by decide) rfl ?_
          refine g_i2l X36 hx 173 (1 : Int64) (hb hby d3_172) (by decide) rfl ?_
          refine g_ladd X36 hx 174 (co + (1 : Int64)) (hb hby d3_173) rfl rfl ?_
          refine g_iload X36 hx 176 (hb hby d3_174) rfl rfl ?_
          refine g_i2l X36 hx 177 (1 : Int64) (hb hby d3_176) (by decide) rfl ?_
          refine g_lsub X36 hx 178 ((co + (1 : Int64)) - (1 : Int64)) (hb hby d3_177) rfl rfl ?_
          refine g_putF X36 hx 181 hZ hown (host := "") (Or.inl (own_w hw 12 rfl)) Via.refl e36 F_co E_a (Or.inl (own_w hw 13 rfl)) (own_w hw 2 rfl) (ty := .long) (by decide) rfl rfl (hb hby d3_178) rfl (fun T37 h37 X37 e37 W37 => ?_)
          have E_a := E_a.wr W37
          have F_ln := F_ln.other W37 (Or.inr (slot_ne (Or.inl (own_w hw 11 rfl)) (Or.inl (own_w hw 13 rfl)) (by decide) (t := .long) (t' := .long) (by decide) (by decide)))
          have F_co := F_co.same W37
          have F_la := F_la.other W37 (Or.inr (slot_ne (Or.inl (own_w hw 28 rfl)) (Or.inl (own_w hw 13 rfl)) (by decide) (t := .char) (t' := .long) (by decide) (by decide)))
          have V_b := V_b.other W37 (Ne.symm ne_a_b)
          have N37 := Fr.snoc X37 N35 g_a
          have Z37 : n0 ≤ h37.size := by rw [W37.size]; exact Z35
          have K37 := K35.wr W37 (Or.inl (List.mem_of_getElem? (i := 0) rfl))
          refine g_aloadN X37 hx 182 (hb hby d3_181) rfl rfl rfl ?_
          refine g_aloadN X37 hx 183 (hb hby d3_182) rfl rfl rfl ?_
          refine g_iloadN X37 hx 184 (hb hby d3_183) rfl rfl ?_
          refine g_iconst X37 hx 185 (1 : Int32) (hb hby d3_184) (by decide) rfl ?_
          refine g_isub X37 hx 186 (0 : Int32) (hb hby d3_185) (by decide) rfl ?_
          refine g_caload X37 hx 187 hZ e37 V_b ⟨by decide, by decide⟩ (show _ = (.int c0) from rfl) (hb hby d3_186) rfl ?_
          refine g_putF X37 hx 190 hZ hown (host := "") (Or.inl (own_w hw 27 rfl)) Via.refl e37 F_la E_a (Or.inl (own_w hw 28 rfl)) (own_w hw 2 rfl) (ty := .char) (by decide) (own_nrw hcc0) (own_fit hcc0) (hb hby d3_187) rfl (fun T38 h38 X38 e38 W38 => ?_)
          have E_a := E_a.wr W38
          have F_ln := F_ln.other W38 (Or.inr (slot_ne (Or.inl (own_w hw 11 rfl)) (Or.inl (own_w hw 28 rfl)) (by decide) (t := .long) (t' := .char) (by decide) (by decide)))
          have F_co := F_co.other W38 (Or.inr (slot_ne (Or.inl (own_w hw 13 rfl)) (Or.inl (own_w hw 28 rfl)) (by decide) (t := .long) (t' := .char) (by decide) (by decide)))
          have F_la := F_la.same W38
          have V_b := V_b.other W38 (Ne.symm ne_a_b)
          have N38 := Fr.snoc X38 N37 g_a
          have Z38 : n0 ≤ h38.size := by rw [W38.size]; exact Z37
          have K38 := K37.wr W38 (Or.inl (List.mem_of_getElem? (i := 0) rfl))
          have hv1 : own_ln c0 la ln = ln := by unfold own_ln; rw [if_neg hc2, if_pos hc21]
          have hv2 : own_co c0 la co = ((co + (1 : Int64)) - (1 : Int64)) := by unfold own_co; rw [if_neg hc2, if_pos hc21, if_neg hc23, if_neg hc30]
          exact g_retV X38 hx hret hlk (hb hby d3_190) (by decide) (by decide) (by rw [e38, hv1, hv2]; exact ⟨rfl, N38, K38, E_a, F_ln, F_co, F_la⟩)
    · refine g_ifF X20 hx 65 (hb hby d3_62) ((if0 _ _).trans (feq hc21).1) rfl ?_
      refine g_iload X20 hx 67 (hb hby d3_65) rfl rfl ?_
      refine g_aloadN X20 hx 68 (hb hby d3_67) rfl rfl rfl ?_
      refine g_aloadN X20 hx 69 (hb hby d3_68) rfl rfl rfl ?_
      refine g_iloadN X20 hx 70 (hb hby d3_69) rfl rfl ?_
      refine g_iload X20 hx 72 (hb hby d3_70) rfl rfl ?_
      refine g_callP X20 hx 75 hZ hown (own_w hw 49 rfl) (own_w hw 50 rfl) (own_w hw 51 rfl) (own_w hw 17 rfl) rfl (own_w hw 3 rfl) (own_w hw 52 rfl) (by decide) a E_a [(.ref b), (.int (0 : Int32)), (.int (0 : Int32))] [(.int c0)] (rm10_1_0 l Z a0 hw a b la c0 kA h0 n0 Z0 F_la V_b hla) e20 1 (by decide) (by decide) (by decide) (by decide) (by rw [hml]; rfl) (lenOf own_pd1 rfl) (hb hby d3_72) rfl (Nat.le_of_eq rfl) rfl (fun v39 T39 L39 X39 hQ39 => ?_)
      obtain ⟨rfl, N39q, e39⟩ := hQ39
      have N39 := Fr.app N20 N39q
      show Go p e below _ _ T39 (mkF m 75 #[.val (.ref a), .val (.ref b), .val (.int (0 : Int32)), .val (.int (1 : Int32)), .val (.long ln), .second, .val (.int (0 : Int32)), .val (.int (0 : Int32)), .val (.int (0 : Int32)), .val (.int c0), .unset] [(.int la), (.int c0)])
      refine g_callS X39 hx 78 hZ hown (own_w hw 53 rfl) (own_w hw 54 rfl) (own_w hw 3 rfl) (own_w hw 55 rfl) (by decide) [(.int c0), (.int la)] [] (rm11 l Z a0 hw c0 la h0 n0 Z0) e39 0 (by decide) (by decide) (by decide) (by decide) (by rw [hml]; rfl) (lenOf own_pd2 rfl) (hb hby d3_75) rfl (Nat.le_of_eq rfl) rfl (fun v40 T40 L40 X40 hQ40 => ?_)
      obtain ⟨rfl, N40q, e40⟩ := hQ40
      have N40 := Fr.app N39 N40q
      show Go p e below _ _ T40 (mkF m 78 #[.val (.ref a), .val (.ref b), .val (.int (0 : Int32)), .val (.int (1 : Int32)), .val (.long ln), .second, .val (.int (0 : Int32)), .val (.int (0 : Int32)), .val (.int (0 : Int32)), .val (.int c0), .unset] [(.int (own_ends c0 la))])
      by_cases hc41 : (own_ends c0 la) = (0 : Int32)
      · refine g_ifT X40 hx 87 (hb hby d3_78) ((if0 _ _).trans (teq hc41).1) (by decide) (by decide) ?_
        refine g_iload X40 hx 89 (hb hby d3_87) rfl rfl ?_
        refine g_iconst X40 hx 90 (1 : Int32) (hb hby d3_89) (by decide) rfl ?_
        refine g_iadd X40 hx 91 (1 : Int32) (hb hby d3_90) (by decide) rfl ?_
        refine g_istore X40 hx 93 #[.val (.ref a), .val (.ref b), .val (.int (0 : Int32)), .val (.int (1 : Int32)), .val (.long ln), .second, .val (.int (1 : Int32)), .val (.int (0 : Int32)), .val (.int (0 : Int32)), .val (.int c0), .unset] (hb hby d3_91) rfl rfl ?_
        refine g_iconst X40 hx 94 (1 : Int32) (hb hby d3_93) (by decide) rfl ?_
        refine g_istore X40 hx 96 #[.val (.ref a), .val (.ref b), .val (.int (0 : Int32)), .val (.int (1 : Int32)), .val (.long ln), .second, .val (.int (1 : Int32)), .val (.int (1 : Int32)), .val (.int (0 : Int32)), .val (.int c0), .unset] (hb hby d3_94) rfl rfl ?_
        refine g_iinc X40 hx 99 (1 : Int32) #[.val (.ref a), .val (.ref b), .val (.int (0 : Int32)), .val (.int (1 : Int32)), .val (.long ln), .second, .val (.int (1 : Int32)), .val (.int (1 : Int32)), .val (.int (1 : Int32)), .val (.int c0), .unset] (hb hby d3_96) rfl (by decide) rfl rfl ?_
        refine g_goto X40 hx 21 (hb hby d3_99) (by decide) (by decide) ?_
        refine g_iload X40 hx 23 (hb hby d3_21) rfl rfl ?_
        refine g_iloadN X40 hx 24 (hb hby d3_23) rfl rfl ?_
        refine g_icT X40 hx 42 (hb hby d3_24) (by decide) (by decide) (by decide) ?_
        refine g_iload X40 hx 44 (hb hby d3_42) rfl rfl ?_
        refine g_iloadN X40 hx 45 (hb hby d3_44) rfl rfl ?_
        refine g_icF X40 hx 48 (hb hby d3_45) (by decide) rfl ?_
        refine g_goto X40 hx 102 (hb hby d3_48) (by decide) (by decide) ?_
        refine g_iconst X40 hx 103 (0 : Int32) (hb hby d3_102) (by decide) rfl ?_
        refine g_istore X40 hx 105 #[.val (.ref a), .val (.ref b), .val (.int (0 : Int32)), .val (.int (1 : Int32)), .val (.long ln), .second, .val (.int (1 : Int32)), .val (.int (1 : Int32)), .val (.int (1 : Int32)), .val (.int (0 : Int32)), .unset] (hb hby d3_103) rfl rfl ?_
        refine g_iload X40 hx 107 (hb hby d3_105) rfl rfl ?_
        refine g_istore X40 hx 109 #[.val (.ref a), .val (.ref b), .val (.int (0 : Int32)), .val (.int (1 : Int32)), .val (.long ln), .second, .val (.int (1 : Int32)), .val (.int (1 : Int32)), .val (.int (1 : Int32)), .val (.int (0 : Int32)), .val (.int (1 : Int32))] (hb hby d3_107) rfl rfl ?_
        refine g_iload X40 hx 111 (hb hby d3_109) rfl rfl ?_
        refine g_iloadN X40 hx 112 (hb hby d3_111) rfl rfl ?_
        refine g_icT X40 hx 148 (hb hby d3_112) (by decide) (by decide) (by decide) ?_
        refine g_aloadN X40 hx 149 (hb hby d3_148) rfl rfl rfl ?_
        refine g_lload X40 hx 151 (hb hby d3_149) rfl rfl ?_
        refine g_putF X40 hx 154 hZ hown (host := "") (Or.inl (own_w hw 10 rfl)) Via.refl e40 F_ln E_a (Or.inl (own_w hw 11 rfl)) (own_w hw 2 rfl) (ty := .long) (by decide) rfl rfl (hb hby d3_151) rfl (fun T42 h42 X42 e42 W42 => ?_)
        have E_a := E_a.wr W42
        have F_ln := F_ln.same W42
        have F_co := F_co.other W42 (Or.inr (slot_ne (Or.inl (own_w hw 13 rfl)) (Or.inl (own_w hw 11 rfl)) (by decide) (t := .long) (t' := .long) (by decide) (by decide)))
        have F_la := F_la.other W42 (Or.inr (slot_ne (Or.inl (own_w hw 28 rfl)) (Or.inl (own_w hw 11 rfl)) (by decide) (t := .char) (t' := .long) (by decide) (by decide)))
        have V_b := V_b.other W42 (Ne.symm ne_a_b)
        have N42 := Fr.snoc X42 N40 g_a
        have Z42 : n0 ≤ h42.size := by rw [W42.size]; exact Z0
        have K42 := K0.wr W42 (Or.inl (List.mem_of_getElem? (i := 0) rfl))
        refine g_aloadN X42 hx 155 (hb hby d3_154) rfl rfl rfl ?_
        refine g_iload X42 hx 157 (hb hby d3_155) rfl rfl ?_
        refine g_ifF X42 hx 160 (hb hby d3_157) (by decide) rfl ?_
        refine g_lconst X42 hx 161 (1 : Int64) (hb hby d3_160) (by decide) rfl ?_
        refine g_goto X42 hx 168 (hb hby d3_161) (by decide) (by decide) ?_
        refine g_iloadN X42 hx 169 (hb hby d3_168) rfl rfl ?_
        refine g_iload X42 hx 171 (hb hby d3_169) rfl rfl ?_
        refine g_isub X42 hx 172 (0 : Int32) (hb hby d3_171) (by decide) rfl ?_
        refine g_i2l X42 hx 173 (0 : Int64) (hb hby d3_172) (by decide) rfl ?_
        refine g_ladd X42 hx 174 (1 : Int64) (hb hby d3_173) (by decide) rfl ?_
        refine g_iload X42 hx 176 (hb hby d3_174) rfl rfl ?_
        refine g_i2l X42 hx 177 (0 : Int64) (hb hby d3_176) (by decide) rfl ?_
        refine g_lsub X42 hx 178 (1 : Int64) (hb hby d3_177) (by decide) rfl ?_
        refine g_putF X42 hx 181 hZ hown (host := "") (Or.inl (own_w hw 12 rfl)) Via.refl e42 F_co E_a (Or.inl (own_w hw 13 rfl)) (own_w hw 2 rfl) (ty := .long) (by decide) rfl rfl (hb hby d3_178) rfl (fun T43 h43 X43 e43 W43 => ?_)
        have E_a := E_a.wr W43
        have F_ln := F_ln.other W43 (Or.inr (slot_ne (Or.inl (own_w hw 11 rfl)) (Or.inl (own_w hw 13 rfl)) (by decide) (t := .long) (t' := .long) (by decide) (by decide)))
        have F_co := F_co.same W43
        have F_la := F_la.other W43 (Or.inr (slot_ne (Or.inl (own_w hw 28 rfl)) (Or.inl (own_w hw 13 rfl)) (by decide) (t := .char) (t' := .long) (by decide) (by decide)))
        have V_b := V_b.other W43 (Ne.symm ne_a_b)
        have N43 := Fr.snoc X43 N42 g_a
        have Z43 : n0 ≤ h43.size := by rw [W43.size]; exact Z42
        have K43 := K42.wr W43 (Or.inl (List.mem_of_getElem? (i := 0) rfl))
        refine g_aloadN X43 hx 182 (hb hby d3_181) rfl rfl rfl ?_
        refine g_aloadN X43 hx 183 (hb hby d3_182) rfl rfl rfl ?_
        refine g_iloadN X43 hx 184 (hb hby d3_183) rfl rfl ?_
        refine g_iconst X43 hx 185 (1 : Int32) (hb hby d3_184) (by decide) rfl ?_
        refine g_isub X43 hx 186 (0 : Int32) (hb hby d3_185) (by decide) rfl ?_
        refine g_caload X43 hx 187 hZ e43 V_b ⟨by decide, by decide⟩ (show _ = (.int c0) from rfl) (hb hby d3_186) rfl ?_
        refine g_putF X43 hx 190 hZ hown (host := "") (Or.inl (own_w hw 27 rfl)) Via.refl e43 F_la E_a (Or.inl (own_w hw 28 rfl)) (own_w hw 2 rfl) (ty := .char) (by decide) (own_nrw hcc0) (own_fit hcc0) (hb hby d3_187) rfl (fun T44 h44 X44 e44 W44 => ?_)
        have E_a := E_a.wr W44
        have F_ln := F_ln.other W44 (Or.inr (slot_ne (Or.inl (own_w hw 11 rfl)) (Or.inl (own_w hw 28 rfl)) (by decide) (t := .long) (t' := .char) (by decide) (by decide)))
        have F_co := F_co.other W44 (Or.inr (slot_ne (Or.inl (own_w hw 13 rfl)) (Or.inl (own_w hw 28 rfl)) (by decide) (t := .long) (t' := .char) (by decide) (by decide)))
        have F_la := F_la.same W44
        have V_b := V_b.other W44 (Ne.symm ne_a_b)
        have N44 := Fr.snoc X44 N43 g_a
        have Z44 : n0 ≤ h44.size := by rw [W44.size]; exact Z43
        have K44 := K43.wr W44 (Or.inl (List.mem_of_getElem? (i := 0) rfl))
        have hv1 : own_ln c0 la ln = ln := by unfold own_ln; rw [if_neg hc2, if_neg hc21, if_pos hc41]
        have hv2 : own_co c0 la co = (1 : Int64) := by unfold own_co; rw [if_neg hc2, if_neg hc21]
        exact g_retV X44 hx hret hlk (hb hby d3_190) (by decide) (by decide) (by rw [e44, hv1, hv2]; exact ⟨rfl, N44, K44, E_a, F_ln, F_co, F_la⟩)
      · refine g_ifF X40 hx 81 (hb hby d3_78) ((if0 _ _).trans (feq hc41).1) rfl ?_
        refine g_lload X40 hx 83 (hb hby d3_81) rfl rfl ?_
        refine g_lconst X40 hx 84 (1 : Int64) (hb hby d3_83) (by decide) rfl ?_
        refine g_ladd X40 hx 85 (ln + (1 : Int64)) (hb hby d3_84) rfl rfl ?_
        refine g_lstore X40 hx 87 #[.val (.ref a), .val (.ref b), .val (.int (0 : Int32)), .val (.int (1 : Int32)), .val (.long (ln + (1 : Int64))), .second, .val (.int (0 : Int32)), .val (.int (0 : Int32)), .val (.int (0 : Int32)), .val (.int c0), .unset] (hb hby d3_85) rfl rfl ?_
        refine g_iload X40 hx 89 (hb hby d3_87) rfl rfl ?_
        refine g_iconst X40 hx 90 (1 : Int32) (hb hby d3_89) (by decide) rfl ?_
        refine g_iadd X40 hx 91 (1 : Int32) (hb hby d3_90) (by decide) rfl ?_
        refine g_istore X40 hx 93 #[.val (.ref a), .val (.ref b), .val (.int (0 : Int32)), .val (.int (1 : Int32)), .val (.long (ln + (1 : Int64))), .second, .val (.int (1 : Int32)), .val (.int (0 : Int32)), .val (.int (0 : Int32)), .val (.int c0), .unset] (hb hby d3_91) rfl rfl ?_
        refine g_iconst X40 hx 94 (1 : Int32) (hb hby d3_93) (by decide) rfl ?_
        refine g_istore X40 hx 96 #[.val (.ref a), .val (.ref b), .val (.int (0 : Int32)), .val (.int (1 : Int32)), .val (.long (ln + (1 : Int64))), .second, .val (.int (1 : Int32)), .val (.int (1 : Int32)), .val (.int (0 : Int32)), .val (.int c0), .unset] (hb hby d3_94) rfl rfl ?_
        refine g_iinc X40 hx 99 (1 : Int32) #[.val (.ref a), .val (.ref b), .val (.int (0 : Int32)), .val (.int (1 : Int32)), .val (.long (ln + (1 : Int64))), .second, .val (.int (1 : Int32)), .val (.int (1 : Int32)), .val (.int (1 : Int32)), .val (.int c0), .unset] (hb hby d3_96) rfl (by decide) rfl rfl ?_
        refine g_goto X40 hx 21 (hb hby d3_99) (by decide) (by decide) ?_
        refine g_iload X40 hx 23 (hb hby d3_21) rfl rfl ?_
        refine g_iloadN X40 hx 24 (hb hby d3_23) rfl rfl ?_
        refine g_icT X40 hx 42 (hb hby d3_24) (by decide) (by decide) (by decide) ?_
        refine g_iload X40 hx 44 (hb hby d3_42) rfl rfl ?_
        refine g_iloadN X40 hx 45 (hb hby d3_44) rfl rfl ?_
        refine g_icF X40 hx 48 (hb hby d3_45) (by decide) rfl ?_
        refine g_goto X40 hx 102 (hb hby d3_48) (by decide) (by decide) ?_
        refine g_iconst X40 hx 103 (0 : Int32) (hb hby d3_102) (by decide) rfl ?_
        refine g_istore X40 hx 105 #[.val (.ref a), .val (.ref b), .val (.int (0 : Int32)), .val (.int (1 : Int32)), .val (.long (ln + (1 : Int64))), .second, .val (.int (1 : Int32)), .val (.int (1 : Int32)), .val (.int (1 : Int32)), .val (.int (0 : Int32)), .unset] (hb hby d3_103) rfl rfl ?_
        refine g_iload X40 hx 107 (hb hby d3_105) rfl rfl ?_
        refine g_istore X40 hx 109 #[.val (.ref a), .val (.ref b), .val (.int (0 : Int32)), .val (.int (1 : Int32)), .val (.long (ln + (1 : Int64))), .second, .val (.int (1 : Int32)), .val (.int (1 : Int32)), .val (.int (1 : Int32)), .val (.int (0 : Int32)), .val (.int (1 : Int32))] (hb hby d3_107) rfl rfl ?_
        refine g_iload X40 hx 111 (hb hby d3_109) rfl rfl ?_
        refine g_iloadN X40 hx 112 (hb hby d3_111) rfl rfl ?_
        refine g_icT X40 hx 148 (hb hby d3_112) (by decide) (by decide) (by decide) ?_
        refine g_aloadN X40 hx 149 (hb hby d3_148) rfl rfl rfl ?_
        refine g_lload X40 hx 151 (hb hby d3_149) rfl rfl ?_
        refine g_putF X40 hx 154 hZ hown (host := "") (Or.inl (own_w hw 10 rfl)) Via.refl e40 F_ln E_a (Or.inl (own_w hw 11 rfl)) (own_w hw 2 rfl) (ty := .long) (by decide) rfl rfl (hb hby d3_151) rfl (fun T45 h45 X45 e45 W45 => ?_)
        have E_a := E_a.wr W45
        have F_ln := F_ln.same W45
        have F_co := F_co.other W45 (Or.inr (slot_ne (Or.inl (own_w hw 13 rfl)) (Or.inl (own_w hw 11 rfl)) (by decide) (t := .long) (t' := .long) (by decide) (by decide)))
        have F_la := F_la.other W45 (Or.inr (slot_ne (Or.inl (own_w hw 28 rfl)) (Or.inl (own_w hw 11 rfl)) (by decide) (t := .char) (t' := .long) (by decide) (by decide)))
        have V_b := V_b.other W45 (Ne.symm ne_a_b)
        have N45 := Fr.snoc X45 N40 g_a
        have Z45 : n0 ≤ h45.size := by rw [W45.size]; exact Z0
        have K45 := K0.wr W45 (Or.inl (List.mem_of_getElem? (i := 0) rfl))
        refine g_aloadN X45 hx 155 (hb hby d3_154) rfl rfl rfl ?_
        refine g_iload X45 hx 157 (hb hby d3_155) rfl rfl ?_
        refine g_ifF X45 hx 160 (hb hby d3_157) (by decide) rfl ?_
        refine g_lconst X45 hx 161 (1 : Int64) (hb hby d3_160) (by decide) rfl ?_
        refine g_goto X45 hx 168 (hb hby d3_161) (by decide) (by decide) ?_
        refine g_iloadN X45 hx 169 (hb hby d3_168) rfl rfl ?_
        refine g_iload X45 hx 171 (hb hby d3_169) rfl rfl ?_
        refine g_isub X45 hx 172 (0 : Int32) (hb hby d3_171) (by decide) rfl ?_
        refine g_i2l X45 hx 173 (0 : Int64) (hb hby d3_172) (by decide) rfl ?_
        refine g_ladd X45 hx 174 (1 : Int64) (hb hby d3_173) (by decide) rfl ?_
        refine g_iload X45 hx 176 (hb hby d3_174) rfl rfl ?_
        refine g_i2l X45 hx 177 (0 : Int64) (hb hby d3_176) (by decide) rfl ?_
        refine g_lsub X45 hx 178 (1 : Int64) (hb hby d3_177) (by decide) rfl ?_
        refine g_putF X45 hx 181 hZ hown (host := "") (Or.inl (own_w hw 12 rfl)) Via.refl e45 F_co E_a (Or.inl (own_w hw 13 rfl)) (own_w hw 2 rfl) (ty := .long) (by decide) rfl rfl (hb hby d3_178) rfl (fun T46 h46 X46 e46 W46 => ?_)
        have E_a := E_a.wr W46
        have F_ln := F_ln.other W46 (Or.inr (slot_ne (Or.inl (own_w hw 11 rfl)) (Or.inl (own_w hw 13 rfl)) (by decide) (t := .long) (t' := .long) (by decide) (by decide)))
        have F_co := F_co.same W46
        have F_la := F_la.other W46 (Or.inr (slot_ne (Or.inl (own_w hw 28 rfl)) (Or.inl (own_w hw 13 rfl)) (by decide) (t := .char) (t' := .long) (by decide) (by decide)))
        have V_b := V_b.other W46 (Ne.symm ne_a_b)
        have N46 := Fr.snoc X46 N45 g_a
        have Z46 : n0 ≤ h46.size := by rw [W46.size]; exact Z45
        have K46 := K45.wr W46 (Or.inl (List.mem_of_getElem? (i := 0) rfl))
        refine g_aloadN X46 hx 182 (hb hby d3_181) rfl rfl rfl ?_
        refine g_aloadN X46 hx 183 (hb hby d3_182) rfl rfl rfl ?_
        refine g_iloadN X46 hx 184 (hb hby d3_183) rfl rfl ?_
        refine g_iconst X46 hx 185 (1 : Int32) (hb hby d3_184) (by decide) rfl ?_
        refine g_isub X46 hx 186 (0 : Int32) (hb hby d3_185) (by decide) rfl ?_
        refine g_caload X46 hx 187 hZ e46 V_b ⟨by decide, by decide⟩ (show _ = (.int c0) from rfl) (hb hby d3_186) rfl ?_
        refine g_putF X46 hx 190 hZ hown (host := "") (Or.inl (own_w hw 27 rfl)) Via.refl e46 F_la E_a (Or.inl (own_w hw 28 rfl)) (own_w hw 2 rfl) (ty := .char) (by decide) (own_nrw hcc0) (own_fit hcc0) (hb hby d3_187) rfl (fun T47 h47 X47 e47 W47 => ?_)
        have E_a := E_a.wr W47
        have F_ln := F_ln.other W47 (Or.inr (slot_ne (Or.inl (own_w hw 11 rfl)) (Or.inl (own_w hw 28 rfl)) (by decide) (t := .long) (t' := .char) (by decide) (by decide)))
        have F_co := F_co.other W47 (Or.inr (slot_ne (Or.inl (own_w hw 13 rfl)) (Or.inl (own_w hw 28 rfl)) (by decide) (t := .long) (t' := .char) (by decide) (by decide)))
        have F_la := F_la.same W47
        have V_b := V_b.other W47 (Ne.symm ne_a_b)
        have N47 := Fr.snoc X47 N46 g_a
        have Z47 : n0 ≤ h47.size := by rw [W47.size]; exact Z46
        have K47 := K46.wr W47 (Or.inl (List.mem_of_getElem? (i := 0) rfl))
        have hv1 : own_ln c0 la ln = (ln + (1 : Int64)) := by unfold own_ln; rw [if_neg hc2, if_neg hc21, if_neg hc41]
        have hv2 : own_co c0 la co = (1 : Int64) := by unfold own_co; rw [if_neg hc2, if_neg hc21]
        exact g_retV X47 hx hret hlk (hb hby d3_190) (by decide) (by decide) (by rw [e47, hv1, hv2]; exact ⟨rfl, N47, K47, E_a, F_ln, F_co, F_la⟩)
theorem d3_5 : decode prog_33_method_9_code 5 = .ok (.return_, 1) := by decide +kernel
set_option maxRecDepth 65536 in
set_option maxHeartbeats 40000000 in
theorem rm3_0 (l : Launch) (Z : State) (a0 : Array Value) (hw : ∀ d ∈ tables_1, d.before a0 Z = true) (a b : Addr) (ln co : Int64) (la c0 c1 : Int32) (kA : ClassId) (h0 : Heap) (n0 : Nat) (Z0 : n0 ≤ h0.size) (g_a : n0 ≤ a) (E_a : Exa Z h0 a "gleanwell/Position") (F_ln : Fld Z h0 a "gleanwell/Position" "line" "J" (.long ln)) (F_co : Fld Z h0 a "gleanwell/Position" "column" "J" (.long co)) (F_la : Fld Z h0 a "gleanwell/Position" "last" "C" (.int la)) (V_b : Arv Z h0 b kA .char (2 : Int32) [(.int c0), (.int c1)] (.int (0 : Int32))) (hla : nar .char la = la) (hcc0 : nar .char c0 = c0) (hcc1 : nar .char c1 = c1) (ne_a_b : a ≠ b) :
    OwnMet l Z (⟨"gleanwell/Position", "pass", "([CII)V"⟩ : MethodName) prog_33_method_9_code 11 none [] ({ frames := 1, cells := 0, slots := 0, locals := 24 } : Room) [(.ref a), (.ref b), (.int (0 : Int32)), (.int (0 : Int32))] h0 (fun v h L => v = none ∧ Fr n0 L ∧ Keep h0 h [a] ∧ ∃ (ln' co' : Int64) (la' : Int32), nar .char la' = la' ∧ Exa Z h a "gleanwell/Position" ∧ Fld Z h a "gleanwell/Position" "line" "J" (.long ln') ∧ Fld Z h a "gleanwell/Position" "column" "J" (.long co') ∧ Fld Z h a "gleanwell/Position" "last" "C" (.int la')) := by
  refine own_body (Ls := #[.val (.ref a), .val (.ref b), .val (.int (0 : Int32)), .val (.int (0 : Int32)), .unset, .unset, .unset, .unset, .unset, .unset, .unset]) (plainFor_of_name own_pn0) (fun m => by first | (simp [entryFrame, mkF, argsToLocals, Value.category]; done) | rfl) (fun p e s m below meth cO T0 hx hby hml hown hnm hret hlk hZ X0 e0 => ?_)
  have hown : s.vm.findClass "gleanwell/Position" = some m.cls := hown
  have N0 := Fr.nil n0
  have K0 := Keep.refl h0 [a]
  refine g_iloadN X0 hx 1 (hb hby d3_0) rfl rfl ?_
  refine g_iloadN X0 hx 2 (hb hby d3_1) rfl rfl ?_
  refine g_icF X0 hx 5 (hb hby d3_2) (by decide) rfl ?_
  exact g_retV X0 hx hret hlk (hb hby d3_5) (by decide) (by decide) (by rw [e0]; exact ⟨rfl, N0, K0, ln, co, la, hla, E_a, F_ln, F_co, F_la⟩)
set_option maxRecDepth 65536 in
set_option maxHeartbeats 40000000 in
theorem rm3_1 (l : Launch) (Z : State) (a0 : Array Value) (hw : ∀ d ∈ tables_1, d.before a0 Z = true) (a b : Addr) (ln co : Int64) (la c0 c1 : Int32) (kA : ClassId) (h0 : Heap) (n0 : Nat) (Z0 : n0 ≤ h0.size) (g_a : n0 ≤ a) (E_a : Exa Z h0 a "gleanwell/Position") (F_ln : Fld Z h0 a "gleanwell/Position" "line" "J" (.long ln)) (F_co : Fld Z h0 a "gleanwell/Position" "column" "J" (.long co)) (F_la : Fld Z h0 a "gleanwell/Position" "last" "C" (.int la)) (V_b : Arv Z h0 b kA .char (2 : Int32) [(.int c0), (.int c1)] (.int (0 : Int32))) (hla : nar .char la = la) (hcc0 : nar .char c0 = c0) (hcc1 : nar .char c1 = c1) (ne_a_b : a ≠ b) :
    OwnMet l Z (⟨"gleanwell/Position", "pass", "([CII)V"⟩ : MethodName) prog_33_method_9_code 11 none [] ({ frames := 1, cells := 0, slots := 0, locals := 24 } : Room) [(.ref a), (.ref b), (.int (0 : Int32)), (.int (1 : Int32))] h0 (fun v h L => v = none ∧ Fr n0 L ∧ Keep h0 h [a] ∧ ∃ (ln' co' : Int64) (la' : Int32), nar .char la' = la' ∧ Exa Z h a "gleanwell/Position" ∧ Fld Z h a "gleanwell/Position" "line" "J" (.long ln') ∧ Fld Z h a "gleanwell/Position" "column" "J" (.long co') ∧ Fld Z h a "gleanwell/Position" "last" "C" (.int la')) := by
  refine own_body (Ls := #[.val (.ref a), .val (.ref b), .val (.int (0 : Int32)), .val (.int (1 : Int32)), .unset, .unset, .unset, .unset, .unset, .unset, .unset]) (plainFor_of_name own_pn0) (fun m => by first | (simp [entryFrame, mkF, argsToLocals, Value.category]; done) | rfl) (fun p e s m below meth cO T0 hx hby hml hown hnm hret hlk hZ X0 e0 => ?_)
  have hown : s.vm.findClass "gleanwell/Position" = some m.cls := hown
  have N0 := Fr.nil n0
  have K0 := Keep.refl h0 [a]
  refine g_iloadN X0 hx 1 (hb hby d3_0) rfl rfl ?_
  refine g_iloadN X0 hx 2 (hb hby d3_1) rfl rfl ?_
  refine g_icT X0 hx 6 (hb hby d3_2) (by decide) (by decide) (by decide) ?_
  refine g_aloadN X0 hx 7 (hb hby d3_6) rfl rfl rfl ?_
  refine g_getF X0 hx 10 hZ hown (host := "") (Or.inl (own_w hw 10 rfl)) Via.refl e0 F_ln (hb hby d3_7) rfl (fun T1 X1 e1 => ?_)
  refine g_lstore X1 hx 12 #[.val (.ref a), .val (.ref b), .val (.int (0 : Int32)), .val (.int (1 : Int32)), .val (.long ln), .second, .unset, .unset, .unset, .unset, .unset] (hb hby d3_10) rfl rfl ?_
  refine g_iloadN X1 hx 13 (hb hby d3_12) rfl rfl ?_
  refine g_istore X1 hx 15 #[.val (.ref a), .val (.ref b), .val (.int (0 : Int32)), .val (.int (1 : Int32)), .val (.long ln), .second, .val (.int (0 : Int32)), .unset, .unset, .unset, .unset] (hb hby d3_13) rfl rfl ?_
  refine g_iconst X1 hx 16 (0 : Int32) (hb hby d3_15) (by decide) rfl ?_
  refine g_istore X1 hx 18 #[.val (.ref a), .val (.ref b), .val (.int (0 : Int32)), .val (.int (1 : Int32)), .val (.long ln), .second, .val (.int (0 : Int32)), .val (.int (0 : Int32)), .unset, .unset, .unset] (hb hby d3_16) rfl rfl ?_
  refine g_iloadN X1 hx 19 (hb hby d3_18) rfl rfl ?_
  refine g_istore X1 hx 21 #[.val (.ref a), .val (.ref b), .val (.int (0 : Int32)), .val (.int (1 : Int32)), .val (.long ln), .second, .val (.int (0 : Int32)), .val (.int (0 : Int32)), .val (.int (0 : Int32)), .unset, .unset] (hb hby d3_19) rfl rfl ?_
  refine g_iload X1 hx 23 (hb hby d3_21) rfl rfl ?_
  refine g_iloadN X1 hx 24 (hb hby d3_23) rfl rfl ?_
  refine g_icF X1 hx 27 (hb hby d3_24) (by decide) rfl ?_
  refine g_aloadN X1 hx 28 (hb hby d3_27) rfl rfl rfl ?_
  refine g_iload X1 hx 30 (hb hby d3_28) rfl rfl ?_
  refine g_caload X1 hx 31 hZ e1 V_b ⟨by decide, by decide⟩ (show _ = (.int c0) from rfl) (hb hby d3_30) rfl ?_
  refine g_bipush X1 hx 33 (13 : Int32) (hb hby d3_31) (by decide) rfl ?_
  by_cases hc2 : (13 : Int32) < c0
  · refine g_icF X1 hx 36 (hb hby d3_33) (tlt hc2).2.2.2 rfl ?_
    refine g_iinc X1 hx 39 (1 : Int32) #[.val (.ref a), .val (.ref b), .val (.int (0 : Int32)), .val (.int (1 : Int32)), .val (.long ln), .second, .val (.int (0 : Int32)), .val (.int (0 : Int32)), .val (.int (1 : Int32)), .unset, .unset] (hb hby d3_36) rfl (by decide) rfl rfl ?_
    refine g_goto X1 hx 21 (hb hby d3_39) (by decide) (by decide) ?_
    refine g_iload X1 hx 23 (hb hby d3_21) rfl rfl ?_
    refine g_iloadN X1 hx 24 (hb hby d3_23) rfl rfl ?_
    refine g_icT X1 hx 42 (hb hby d3_24) (by decide) (by decide) (by decide) ?_
    refine g_iload X1 hx 44 (hb hby d3_42) rfl rfl ?_
    refine g_iloadN X1 hx 45 (hb hby d3_44) rfl rfl ?_
    refine g_icF X1 hx 48 (hb hby d3_45) (by decide) rfl ?_
    refine g_goto X1 hx 102 (hb hby d3_48) (by decide) (by decide) ?_
    refine g_iconst X1 hx 103 (0 : Int32) (hb hby d3_102) (by decide) rfl ?_
    refine g_istore X1 hx 105 #[.val (.ref a), .val (.ref b), .val (.int (0 : Int32)), .val (.int (1 : Int32)), .val (.long ln), .second, .val (.int (0 : Int32)), .val (.int (0 : Int32)), .val (.int (1 : Int32)), .val (.int (0 : Int32)), .unset] (hb hby d3_103) rfl rfl ?_
    refine g_iload X1 hx 107 (hb hby d3_105) rfl rfl ?_
    refine g_istore X1 hx 109 #[.val (.ref a), .val (.ref b), .val (.int (0 : Int32)), .val (.int (1 : Int32)), .val (.long ln), .second, .val (.int (0 : Int32)), .val (.int (0 : Int32)), .val (.int (1 : Int32)), .val (.int (0 : Int32)), .val (.int (0 : Int32))] (hb hby d3_107) rfl rfl ?_
    refine g_iload X1 hx 111 (hb hby d3_109) rfl rfl ?_
    refine g_iloadN X1 hx 112 (hb hby d3_111) rfl rfl ?_
    refine g_icF X1 hx 115 (hb hby d3_112) (by decide) rfl ?_
    refine g_aloadN X1 hx 116 (hb hby d3_115) rfl rfl rfl ?_
    refine g_iload X1 hx 118 (hb hby d3_116) rfl rfl ?_
    refine g_caload X1 hx 119 hZ e1 V_b ⟨by decide, by decide⟩ (show _ = (.int c0) from rfl) (hb hby d3_118) rfl ?_
    refine g_callS X1 hx 122 hZ hown (own_w hw 22 rfl) (own_w hw 23 rfl) (own_w hw 24 rfl) (own_w hw 25 rfl) (by decide) [(.int c0)] [] (rm5 l Z a0 hw c0 h0 n0 Z0) e1 0 (by decide) (by decide) (by decide) (by decide) (by rw [hml]; rfl) (lenOf own_pd0 rfl) (hb hby d3_119) rfl (Nat.le_of_eq rfl) rfl (fun v3 T3 L3 X3 hQ3 => ?_)
    obtain ⟨rfl, N3q, e3⟩ := hQ3
    have N3 := Fr.app N0 N3q
    show Go p e below _ _ T3 (mkF m 122 #[.val (.ref a), .val (.ref b), .val (.int (0 : Int32)), .val (.int (1 : Int32)), .val (.long ln), .second, .val (.int (0 : Int32)), .val (.int (0 : Int32)), .val (.int (1 : Int32)), .val (.int (0 : Int32)), .val (.int (0 : Int32))] [(.int (own_low c0))])
    by_cases hc4 : (own_low c0) = (0 : Int32)
    · refine g_ifT X3 hx 142 (hb hby d3_122) ((if0 _ _).trans (teq hc4).1) (by decide) (by decide) ?_
      refine g_iinc X3 hx 145 (1 : Int32) #[.val (.ref a), .val (.ref b), .val (.int (0 : Int32)), .val (.int (1 : Int32)), .val (.long ln), .second, .val (.int (0 : Int32)), .val (.int (0 : Int32)), .val (.int (1 : Int32)), .val (.int (0 : Int32)), .val (.int (1 : Int32))] (hb hby d3_142) rfl (by decide) rfl rfl ?_
      refine g_goto X3 hx 109 (hb hby d3_145) (by decide) (by decide) ?_
      refine g_iload X3 hx 111 (hb hby d3_109) rfl rfl ?_
      refine g_iloadN X3 hx 112 (hb hby d3_111) rfl rfl ?_
      refine g_icT X3 hx 148 (hb hby d3_112) (by decide) (by decide) (by decide) ?_
      refine g_aloadN X3 hx 149 (hb hby d3_148) rfl rfl rfl ?_
      refine g_lload X3 hx 151 (hb hby d3_149) rfl rfl ?_
      refine g_putF X3 hx 154 hZ hown (host := "") (Or.inl (own_w hw 10 rfl)) Via.refl e3 F_ln E_a (Or.inl (own_w hw 11 rfl)) (own_w hw 2 rfl) (ty := .long) (by decide) rfl rfl (hb hby d3_151) rfl (fun T5 h5 X5 e5 W5 => ?_)
      have E_a := E_a.wr W5
      have F_ln := F_ln.same W5
      have F_co := F_co.other W5 (Or.inr (slot_ne (Or.inl (own_w hw 13 rfl)) (Or.inl (own_w hw 11 rfl)) (by decide) (t := .long) (t' := .long) (by decide) (by decide)))
      have F_la := F_la.other W5 (Or.inr (slot_ne (Or.inl (own_w hw 28 rfl)) (Or.inl (own_w hw 11 rfl)) (by decide) (t := .char) (t' := .long) (by decide) (by decide)))
      have V_b := V_b.other W5 (Ne.symm ne_a_b)
      have N5 := Fr.snoc X5 N3 g_a
      have Z5 : n0 ≤ h5.size := by rw [W5.size]; exact Z0
      have K5 := K0.wr W5 (Or.inl (List.mem_of_getElem? (i := 0) rfl))
      refine g_aloadN X5 hx 155 (hb hby d3_154) rfl rfl rfl ?_
      refine g_iload X5 hx 157 (hb hby d3_155) rfl rfl ?_
      refine g_ifT X5 hx 164 (hb hby d3_157) (by decide) (by decide) (by decide) ?_
      refine g_aloadN X5 hx 165 (hb hby d3_164) rfl rfl rfl ?_
      refine g_getF X5 hx 168 hZ hown (host := "") (Or.inl (own_w hw 12 rfl)) Via.refl e5 F_co (hb hby d3_165) rfl (fun T6 X6 e6 => ?_)
      refine g_iloadN X6 hx 169 (hb hby d3_168) rfl rfl ?_
      refine g_iload X6 hx 171 (hb hby d3_169) rfl rfl ?_
      refine g_isub X6 hx 172 (1 : Int32) (hb hby d3_171) (by decide) rfl ?_
      refine g_i2l X6 hx 173 (1 : Int64) (hb hby d3_172) (by decide) rfl ?_
      refine g_ladd X6 hx 174 (co + (1 : Int64)) (hb hby d3_173) rfl rfl ?_
      refine g_iload X6 hx 176 (hb hby d3_174) rfl rfl ?_
      refine g_i2l X6 hx 177 (0 : Int64) (hb hby d3_176) (by decide) rfl ?_
      refine g_lsub X6 hx 178 ((co + (1 : Int64)) - (0 : Int64)) (hb hby d3_177) rfl rfl ?_
      refine g_putF X6 hx 181 hZ hown (host := "") (Or.inl (own_w hw 12 rfl)) Via.refl e6 F_co E_a (Or.inl (own_w hw 13 rfl)) (own_w hw 2 rfl) (ty := .long) (by decide) rfl rfl (hb hby d3_178) rfl (fun T7 h7 X7 e7 W7 => ?_)
      have E_a := E_a.wr W7
      have F_ln := F_ln.other W7 (Or.inr (slot_ne (Or.inl (own_w hw 11 rfl)) (Or.inl (own_w hw 13 rfl)) (by decide) (t := .long) (t' := .long) (by decide) (by decide)))
      have F_co := F_co.same W7
      have F_la := F_la.other W7 (Or.inr (slot_ne (Or.inl (own_w hw 28 rfl)) (Or.inl (own_w hw 13 rfl)) (by decide) (t := .char) (t' := .long) (by decide) (by decide)))
      have V_b := V_b.other W7 (Ne.symm ne_a_b)
      have N7 := Fr.snoc X7 N5 g_a
      have Z7 : n0 ≤ h7.size := by rw [W7.size]; exact Z5
      have K7 := K5.wr W7 (Or.inl (List.mem_of_getElem? (i := 0) rfl))
      refine g_aloadN X7 hx 182 (hb hby d3_181) rfl rfl rfl ?_
      refine g_aloadN X7 hx 183 (hb hby d3_182) rfl rfl rfl ?_
      refine g_iloadN X7 hx 184 (hb hby d3_183) rfl rfl ?_
      refine g_iconst X7 hx 185 (1 : Int32) (hb hby d3_184) (by decide) rfl ?_
      refine g_isub X7 hx 186 (0 : Int32) (hb hby d3_185) (by decide) rfl ?_
      refine g_caload X7 hx 187 hZ e7 V_b ⟨by decide, by decide⟩ (show _ = (.int c0) from rfl) (hb hby d3_186) rfl ?_
      refine g_putF X7 hx 190 hZ hown (host := "") (Or.inl (own_w hw 27 rfl)) Via.refl e7 F_la E_a (Or.inl (own_w hw 28 rfl)) (own_w hw 2 rfl) (ty := .char) (by decide) (own_nrw hcc0) (own_fit hcc0) (hb hby d3_187) rfl (fun T8 h8 X8 e8 W8 => ?_)
      have E_a := E_a.wr W8
      have F_ln := F_ln.other W8 (Or.inr (slot_ne (Or.inl (own_w hw 11 rfl)) (Or.inl (own_w hw 28 rfl)) (by decide) (t := .long) (t' := .char) (by decide) (by decide)))
      have F_co := F_co.other W8 (Or.inr (slot_ne (Or.inl (own_w hw 13 rfl)) (Or.inl (own_w hw 28 rfl)) (by decide) (t := .long) (t' := .char) (by decide) (by decide)))
      have F_la := F_la.same W8
      have V_b := V_b.other W8 (Ne.symm ne_a_b)
      have N8 := Fr.snoc X8 N7 g_a
      have Z8 : n0 ≤ h8.size := by rw [W8.size]; exact Z7
      have K8 := K7.wr W8 (Or.inl (List.mem_of_getElem? (i := 0) rfl))
      exact g_retV X8 hx hret hlk (hb hby d3_190) (by decide) (by decide) (by rw [e8]; exact ⟨rfl, N8, K8, _, _, _, hcc0, E_a, F_ln, F_co, F_la⟩)
    · refine g_ifF X3 hx 125 (hb hby d3_122) ((if0 _ _).trans (feq hc4).1) rfl ?_
      refine g_aloadN X3 hx 126 (hb hby d3_125) rfl rfl rfl ?_
      refine g_aloadN X3 hx 127 (hb hby d3_126) rfl rfl rfl ?_
      refine g_iloadN X3 hx 128 (hb hby d3_127) rfl rfl ?_
      refine g_iload X3 hx 130 (hb hby d3_128) rfl rfl ?_
      refine g_callP X3 hx 133 hZ hown (own_w hw 49 rfl) (own_w hw 50 rfl) (own_w hw 51 rfl) (own_w hw 17 rfl) rfl (own_w hw 3 rfl) (own_w hw 52 rfl) (by decide) a E_a [(.ref b), (.int (0 : Int32)), (.int (0 : Int32))] [] (rm10_2_0 l Z a0 hw a b la c0 c1 kA h0 n0 Z0 F_la V_b hla) e3 0 (by decide) (by decide) (by decide) (by decide) (by rw [hml]; rfl) (lenOf own_pd1 rfl) (hb hby d3_130) rfl (Nat.le_of_eq rfl) rfl (fun v9 T9 L9 X9 hQ9 => ?_)
      obtain ⟨rfl, N9q, e9⟩ := hQ9
      have N9 := Fr.app N3 N9q
      show Go p e below _ _ T9 (mkF m 133 #[.val (.ref a), .val (.ref b), .val (.int (0 : Int32)), .val (.int (1 : Int32)), .val (.long ln), .second, .val (.int (0 : Int32)), .val (.int (0 : Int32)), .val (.int (1 : Int32)), .val (.int (0 : Int32)), .val (.int (0 : Int32))] [(.int la)])
      refine g_callS X9 hx 136 hZ hown (own_w hw 58 rfl) (own_w hw 59 rfl) (own_w hw 24 rfl) (own_w hw 60 rfl) (by decide) [(.int la)] [] (rm12 l Z a0 hw la h0 n0 Z0) e9 0 (by decide) (by decide) (by decide) (by decide) (by rw [hml]; rfl) (lenOf own_pd0 rfl) (hb hby d3_133) rfl (Nat.le_of_eq rfl) rfl (fun v10 T10 L10 X10 hQ10 => ?_)
      obtain ⟨rfl, N10q, e10⟩ := hQ10
      have N10 := Fr.app N9 N10q
      show Go p e below _ _ T10 (mkF m 136 #[.val (.ref a), .val (.ref b), .val (.int (0 : Int32)), .val (.int (1 : Int32)), .val (.long ln), .second, .val (.int (0 : Int32)), .val (.int (0 : Int32)), .val (.int (1 : Int32)), .val (.int (0 : Int32)), .val (.int (0 : Int32))] [(.int (own_high la))])
      by_cases hc11 : (own_high la) = (0 : Int32)
      · refine g_ifT X10 hx 142 (hb hby d3_136) ((if0 _ _).trans (teq hc11).1) (by decide) (by decide) ?_
        refine g_iinc X10 hx 145 (1 : Int32) #[.val (.ref a), .val (.ref b), .val (.int (0 : Int32)), .val (.int (1 : Int32)), .val (.long ln), .second, .val (.int (0 : Int32)), .val (.int (0 : Int32)), .val (.int (1 : Int32)), .val (.int (0 : Int32)), .val (.int (1 : Int32))] (hb hby d3_142) rfl (by decide) rfl rfl ?_
        refine g_goto X10 hx 109 (hb hby d3_145) (by decide) (by decide) ?_
        refine g_iload X10 hx 111 (hb hby d3_109) rfl rfl ?_
        refine g_iloadN X10 hx 112 (hb hby d3_111) rfl rfl ?_
        refine g_icT X10 hx 148 (hb hby d3_112) (by decide) (by decide) (by decide) ?_
        refine g_aloadN X10 hx 149 (hb hby d3_148) rfl rfl rfl ?_
        refine g_lload X10 hx 151 (hb hby d3_149) rfl rfl ?_
        refine g_putF X10 hx 154 hZ hown (host := "") (Or.inl (own_w hw 10 rfl)) Via.refl e10 F_ln E_a (Or.inl (own_w hw 11 rfl)) (own_w hw 2 rfl) (ty := .long) (by decide) rfl rfl (hb hby d3_151) rfl (fun T12 h12 X12 e12 W12 => ?_)
        have E_a := E_a.wr W12
        have F_ln := F_ln.same W12
        have F_co := F_co.other W12 (Or.inr (slot_ne (Or.inl (own_w hw 13 rfl)) (Or.inl (own_w hw 11 rfl)) (by decide) (t := .long) (t' := .long) (by decide) (by decide)))
        have F_la := F_la.other W12 (Or.inr (slot_ne (Or.inl (own_w hw 28 rfl)) (Or.inl (own_w hw 11 rfl)) (by decide) (t := .char) (t' := .long) (by decide) (by decide)))
        have V_b := V_b.other W12 (Ne.symm ne_a_b)
        have N12 := Fr.snoc X12 N10 g_a
        have Z12 : n0 ≤ h12.size := by rw [W12.size]; exact Z0
        have K12 := K0.wr W12 (Or.inl (List.mem_of_getElem? (i := 0) rfl))
        refine g_aloadN X12 hx 155 (hb hby d3_154) rfl rfl rfl ?_
        refine g_iload X12 hx 157 (hb hby d3_155) rfl rfl ?_
        refine g_ifT X12 hx 164 (hb hby d3_157) (by decide) (by decide) (by decide) ?_
        refine g_aloadN X12 hx 165 (hb hby d3_164) rfl rfl rfl ?_
        refine g_getF X12 hx 168 hZ hown (host := "") (Or.inl (own_w hw 12 rfl)) Via.refl e12 F_co (hb hby d3_165) rfl (fun T13 X13 e13 => ?_)
        refine g_iloadN X13 hx 169 (hb hby d3_168) rfl rfl ?_
        refine g_iload X13 hx 171 (hb hby d3_169) rfl rfl ?_
        refine g_isub X13 hx 172 (1 : Int32) (hb hby d3_171) (by decide) rfl ?_
        refine g_i2l X13 hx 173 (1 : Int64) (hb hby d3_172) (by decide) rfl ?_
        refine g_ladd X13 hx 174 (co + (1 : Int64)) (hb hby d3_173) rfl rfl ?_
        refine g_iload X13 hx 176 (hb hby d3_174) rfl rfl ?_
        refine g_i2l X13 hx 177 (0 : Int64) (hb hby d3_176) (by decide) rfl ?_
        refine g_lsub X13 hx 178 ((co + (1 : Int64)) - (0 : Int64)) (hb hby d3_177) rfl rfl ?_
        refine g_putF X13 hx 181 hZ hown (host := "") (Or.inl (own_w hw 12 rfl)) Via.refl e13 F_co E_a (Or.inl (own_w hw 13 rfl)) (own_w hw 2 rfl) (ty := .long) (by decide) rfl rfl (hb hby d3_178) rfl (fun T14 h14 X14 e14 W14 => ?_)
        have E_a := E_a.wr W14
        have F_ln := F_ln.other W14 (Or.inr (slot_ne (Or.inl (own_w hw 11 rfl)) (Or.inl (own_w hw 13 rfl)) (by decide) (t := .long) (t' := .long) (by decide) (by decide)))
        have F_co := F_co.same W14
        have F_la := F_la.other W14 (Or.inr (slot_ne (Or.inl (own_w hw 28 rfl)) (Or.inl (own_w hw 13 rfl)) (by decide) (t := .char) (t' := .long) (by decide) (by decide)))
        have V_b := V_b.other W14 (Ne.symm ne_a_b)
        have N14 := Fr.snoc X14 N12 g_a
        have Z14 : n0 ≤ h14.size := by rw [W14.size]; exact Z12
        have K14 := K12.wr W14 (Or.inl (List.mem_of_getElem? (i := 0) rfl))
        refine g_aloadN X14 hx 182 (hb hby d3_181) rfl rfl rfl ?_
        refine g_aloadN X14 hx 183 (hb hby d3_182) rfl rfl rfl ?_
        refine g_iloadN X14 hx 184 (hb hby d3_183) rfl rfl ?_
        refine g_iconst X14 hx 185 (1 : Int32) (hb hby d3_184) (by decide) rfl ?_
        refine g_isub X14 hx 186 (0 : Int32) (hb hby d3_185) (by decide) rfl ?_
        refine g_caload X14 hx 187 hZ e14 V_b ⟨by decide, by decide⟩ (show _ = (.int c0) from rfl) (hb hby d3_186) rfl ?_
        refine g_putF X14 hx 190 hZ hown (host := "") (Or.inl (own_w hw 27 rfl)) Via.refl e14 F_la E_a (Or.inl (own_w hw 28 rfl)) (own_w hw 2 rfl) (ty := .char) (by decide) (own_nrw hcc0) (own_fit hcc0) (hb hby d3_187) rfl (fun T15 h15 X15 e15 W15 => ?_)
        have E_a := E_a.wr W15
        have F_ln := F_ln.other W15 (Or.inr (slot_ne (Or.inl (own_w hw 11 rfl)) (Or.inl (own_w hw 28 rfl)) (by decide) (t := .long) (t' := .char) (by decide) (by decide)))
        have F_co := F_co.other W15 (Or.inr (slot_ne (Or.inl (own_w hw 13 rfl)) (Or.inl (own_w hw 28 rfl)) (by decide) (t := .long) (t' := .char) (by decide) (by decide)))
        have F_la := F_la.same W15
        have V_b := V_b.other W15 (Ne.symm ne_a_b)
        have N15 := Fr.snoc X15 N14 g_a
        have Z15 : n0 ≤ h15.size := by rw [W15.size]; exact Z14
        have K15 := K14.wr W15 (Or.inl (List.mem_of_getElem? (i := 0) rfl))
        exact g_retV X15 hx hret hlk (hb hby d3_190) (by decide) (by decide) (by rw [e15]; exact ⟨rfl, N15, K15, _, _, _, hcc0, E_a, F_ln, F_co, F_la⟩)
      · refine g_ifF X10 hx 139 (hb hby d3_136) ((if0 _ _).trans (feq hc11).1) rfl ?_
        refine g_iinc X10 hx 142 (1 : Int32) #[.val (.ref a), .val (.ref b), .val (.int (0 : Int32)), .val (.int (1 : Int32)), .val (.long ln), .second, .val (.int (0 : Int32)), .val (.int (0 : Int32)), .val (.int (1 : Int32)), .val (.int (1 : Int32)), .val (.int (0 : Int32))] (hb hby d3_139) rfl (by decide) rfl rfl ?_
        refine g_iinc X10 hx 145 (1 : Int32) #[.val (.ref a), .val (.ref b), .val (.int (0 : Int32)), .val (.int (1 : Int32)), .val (.long ln), .second, .val (.int (0 : Int32)), .val (.int (0 : Int32)), .val (.int (1 : Int32)), .val (.int (1 : Int32)), .val (.int (1 : Int32))] (hb hby d3_142) rfl (by decide) rfl rfl ?_
        refine g_goto X10 hx 109 (hb hby d3_145) (by decide) (by decide) ?_
        refine g_iload X10 hx 111 (hb hby d3_109) rfl rfl ?_
        refine g_iloadN X10 hx 112 (hb hby d3_111) rfl rfl ?_
        refine g_icT X10 hx 148 (hb hby d3_112) (by decide) (by decide) (by decide) ?_
        refine g_aloadN X10 hx 149 (hb hby d3_148) rfl rfl rfl ?_
        refine g_lload X10 hx 151 (hb hby d3_149) rfl rfl ?_
        refine g_putF X10 hx 154 hZ hown (host := "") (Or.inl (own_w hw 10 rfl)) Via.refl e10 F_ln E_a (Or.inl (own_w hw 11 rfl)) (own_w hw 2 rfl) (ty := .long) (by decide) rfl rfl (hb hby d3_151) rfl (fun T16 h16 X16 e16 W16 => ?_)
        have E_a := E_a.wr W16
        have F_ln := F_ln.same W16
        have F_co := F_co.other W16 (Or.inr (slot_ne (Or.inl (own_w hw 13 rfl)) (Or.inl (own_w hw 11 rfl)) (by decide) (t := .long) (t' := .long) (by decide) (by decide)))
        have F_la := F_la.other W16 (Or.inr (slot_ne (Or.inl (own_w hw 28 rfl)) (Or.inl (own_w hw 11 rfl)) (by decide) (t := .char) (t' := .long) (by decide) (by decide)))
        have V_b := V_b.other W16 (Ne.symm ne_a_b)
        have N16 := Fr.snoc X16 N10 g_a
        have Z16 : n0 ≤ h16.size := by rw [W16.size]; exact Z0
        have K16 := K0.wr W16 (Or.inl (List.mem_of_getElem? (i := 0) rfl))
        refine g_aloadN X16 hx 155 (hb hby d3_154) rfl rfl rfl ?_
        refine g_iload X16 hx 157 (hb hby d3_155) rfl rfl ?_
        refine g_ifT X16 hx 164 (hb hby d3_157) (by decide) (by decide) (by decide) ?_
        refine g_aloadN X16 hx 165 (hb hby d3_164) rfl rfl rfl ?_
        refine g_getF X16 hx 168 hZ hown (host := "") (Or.inl (own_w hw 12 rfl)) Via.refl e16 F_co (hb hby d3_165) rfl (fun T17 X17 e17 => ?_)
        refine g_iloadN X17 hx 169 (hb hby d3_168) rfl rfl ?_
        refine g_iload X17 hx 171 (hb hby d3_169) rfl rfl ?_
        refine g_isub X17 hx 172 (1 : Int32) (hb hby d3_171) (by decide) rfl ?_
        refine g_i2l X17 hx 173 (1 : Int64) (hb hby d3_172) (by decide) rfl ?_
        refine g_ladd X17 hx 174 (co + (1 : Int64)) (hb hby d3_173) rfl rfl ?_
        refine g_iload X17 hx 176 (hb hby d3_174) rfl rfl ?_
        refine g_i2l X17 hx 177 (1 : Int64) (hb hby d3_176) (by decide) rfl ?_
        refine g_lsub X17 hx 178 ((co + (1 : Int64)) - (1 : Int64)) (hb hby d3_177) rfl rfl ?_
        refine g_putF X17 hx 181 hZ hown (host := "") (Or.inl (own_w hw 12 rfl)) Via.refl e17 F_co E_a (Or.inl (own_w hw 13 rfl)) (own_w hw 2 rfl) (ty := .long) (by decide) rfl rfl (hb hby d3_178) rfl (fun T18 h18 X18 e18 W18 => ?_)
        have E_a := E_a.wr W18
        have F_ln := F_ln.other W18 (Or.inr (slot_ne (Or.inl (own_w hw 11 rfl)) (Or.inl (own_w hw 13 rfl)) (by decide) (t := .long) (t' := .long) (by decide) (by decide)))
        have F_co := F_co.same W18
        have F_la := F_la.other W18 (Or.inr (slot_ne (Or.inl (own_w hw 28 rfl)) (Or.inl (own_w hw 13 rfl)) (by decide) (t := .char) (t' := .long) (by decide) (by decide)))
        have V_b := V_b.other W18 (Ne.symm ne_a_b)
        have N18 := Fr.snoc X18 N16 g_a
        have Z18 : n0 ≤ h18.size := by rw [W18.size]; exact Z16
        have K18 := K16.wr W18 (Or.inl (List.mem_of_getElem? (i := 0) rfl))
        refine g_aloadN X18 hx 182 (hb hby d3_181) rfl rfl rfl ?_
        refine g_aloadN X18 hx 183 (hb hby d3_182) rfl rfl rfl ?_
        refine g_iloadN X18 hx 184 (hb hby d3_183) rfl rfl ?_
        refine g_iconst X18 hx 185 (1 : Int32) (hb hby d3_184) (by decide) rfl ?_
        refine g_isub X18 hx 186 (0 : Int32) (hb hby d3_185) (by decide) rfl ?_
        refine g_caload X18 hx 187 hZ e18 V_b ⟨by decide, by decide⟩ (show _ = (.int c0) from rfl) (hb hby d3_186) rfl ?_
        refine g_putF X18 hx 190 hZ hown (host := "") (Or.inl (own_w hw 27 rfl)) Via.refl e18 F_la E_a (Or.inl (own_w hw 28 rfl)) (own_w hw 2 rfl) (ty := .char) (by decide) (own_nrw hcc0) (own_fit hcc0) (hb hby d3_187) rfl (fun T19 h19 X19 e19 W19 => ?_)
        have E_a := E_a.wr W19
        have F_ln := F_ln.other W19 (Or.inr (slot_ne (Or.inl (own_w hw 11 rfl)) (Or.inl (own_w hw 28 rfl)) (by decide) (t := .long) (t' := .char) (by decide) (by decide)))
        have F_co := F_co.other W19 (Or.inr (slot_ne (Or.inl (own_w hw 13 rfl)) (Or.inl (own_w hw 28 rfl)) (by decide) (t := .long) (t' := .char) (by decide) (by decide)))
        have F_la := F_la.same W19
        have V_b := V_b.other W19 (Ne.symm ne_a_b)
        have N19 := Fr.snoc X19 N18 g_a
        have Z19 : n0 ≤ h19.size := by rw [W19.size]; exact Z18
        have K19 := K18.wr W19 (Or.inl (List.mem_of_getElem? (i := 0) rfl))
        exact g_retV X19 hx hret hlk (hb hby d3_190) (by decide) (by decide) (by rw [e19]; exact ⟨rfl, N19, K19, _, _, _, hcc0, E_a, F_ln, F_co, F_la⟩)
  · refine g_icT X1 hx 42 (hb hby d3_33) (flt hc2).2.2.2 (by decide) (by decide) ?_
    refine g_iload X1 hx 44 (hb hby d3_42) rfl rfl ?_
    refine g_iloadN X1 hx 45 (hb hby d3_44) rfl rfl ?_
    refine g_icT X1 hx 51 (hb hby d3_45) (by decide) (by decide) (by decide) ?_
    refine g_aloadN X1 hx 52 (hb hby d3_51) rfl rfl rfl ?_
    refine g_iload X1 hx 54 (hb hby d3_52) rfl rfl ?_
    refine g_caload X1 hx 55 hZ e1 V_b ⟨by decide, by decide⟩ (show _ = (.int c0) from rfl) (hb hby d3_54) rfl ?_
    refine g_istore X1 hx 57 #[.val (.ref a), .val (.ref b), .val (.int (0 : Int32)), .val (.int (1 : Int32)), .val (.long ln), .second, .val (.int (0 : Int32)), .val (.int (0 : Int32)), .val (.int (0 : Int32)), .val (.int c0), .unset] (hb hby d3_55) rfl rfl ?_
    refine g_iload X1 hx 59 (hb hby d3_57) rfl rfl ?_
    refine g_callS X1 hx 62 hZ hown (own_w hw 19 rfl) (own_w hw 20 rfl) (own_w hw 3 rfl) (own_w hw 21 rfl) (by decide) [(.int c0)] [] (rm4 l Z a0 hw c0 h0 n0 Z0) e1 0 (by decide) (by decide) (by decide) (by decide) (by rw [hml]; rfl) (lenOf own_pd0 rfl) (hb hby d3_59) rfl (Nat.le_of_eq rfl) rfl (fun v20 T20 L20 X20 hQ20 => ?_)
    obtain ⟨rfl, N20q, e20⟩ := hQ20
    have N20 := Fr.app N0 N20q
    show Go p e below _ _ T20 (mkF m 62 #[.val (.ref a), .val (.ref b), .val (.int (0 : Int32)), .val (.int (1 : Int32)), .val (.long ln), .second, .val (.int (0 : Int32)), .val (.int (0 : Int32)), .val (.int (0 : Int32)), .val (.int c0), .unset] [(.int (own_term c0))])
    by_cases hc21 : (own_term c0) = (0 : Int32)
    · refine g_ifT X20 hx 96 (hb hby d3_62) ((if0 _ _).trans (teq hc21).1) (by decide) (by decide) ?_
      refine g_iinc X20 hx 99 (1 : Int32) #[.val (.ref a), .val (.ref b), .val (.int (0 : Int32)), .val (.int (1 : Int32)), .val (.long ln), .second, .val (.int (0 : Int32)), .val (.int (0 : Int32)), .val (.int (1 : Int32)), .val (.int c0), .unset] (hb hby d3_96) rfl (by decide) rfl rfl ?_
      refine g_goto X20 hx 21 (hb hby d3_99) (by decide) (by decide) ?_
      refine g_iload X20 hx 23 (hb hby d3_21) rfl rfl ?_
      refine g_iloadN X20 hx 24 (hb hby d3_23) rfl rfl ?_
      refine g_icT X20 hx 42 (hb hby d3_24) (by decide) (by decide) (by decide) ?_
      refine g_iload X20 hx 44 (hb hby d3_42) rfl rfl ?_
      refine g_iloadN X20 hx 45 (hb hby d3_44) rfl rfl ?_
      refine g_icF X20 hx 48 (hb hby d3_45) (by decide) rfl ?_
      refine g_goto X20 hx 102 (hb hby d3_48) (by decide) (by decide) ?_
      refine g_iconst X20 hx 103 (0 : Int32) (hb hby d3_102) (by decide) rfl ?_
      refine g_istore X20 hx 105 #[.val (.ref a), .val (.ref b), .val (.int (0 : Int32)), .val (.int (1 : Int32)), .val (.long ln), .second, .val (.int (0 : Int32)), .val (.int (0 : Int32)), .val (.int (1 : Int32)), .val (.int (0 : Int32)), .unset] (hb hby d3_103) rfl rfl ?_
      refine g_iload X20 hx 107 (hb hby d3_105) rfl rfl ?_
      refine g_istore X20 hx 109 #[.val (.ref a), .val (.ref b), .val (.int (0 : Int32)), .val (.int (1 : Int32)), .val (.long ln), .second, .val (.int (0 : Int32)), .val (.int (0 : Int32)), .val (.int (1 : Int32)), .val (.int (0 : Int32)), .val (.int (0 : Int32))] (hb hby d3_107) rfl rfl ?_
      refine g_iload X20 hx 111 (hb hby d3_109) rfl rfl ?_
      refine g_iloadN X20 hx 112 (hb hby d3_111) rfl rfl ?_
      refine g_icF X20 hx 115 (hb hby d3_112) (by decide) rfl ?_
      refine g_aloadN X20 hx 116 (hb hby d3_115) rfl rfl rfl ?_
      refine g_iload X20 hx 118 (hb hby d3_116) rfl rfl ?_
      refine g_caload X20 hx 119 hZ e20 V_b ⟨by decide, by decide⟩ (show _ = (.int c0) from rfl) (hb hby d3_118) rfl ?_
      refine g_callS X20 hx 122 hZ hown (own_w hw 22 rfl) (own_w hw 23 rfl) (own_w hw 24 rfl) (own_w hw 25 rfl) (by decide) [(.int c0)] [] (rm5 l Z a0 hw c0 h0 n0 Z0) e20 0 (by decide) (by decide) (by decide) (by decide) (by rw [hml]; rfl) (lenOf own_pd0 rfl) (hb hby d3_119) rfl (Nat.le_of_eq rfl) rfl (fun v22 T22 L22 X22 hQ22 => ?_)
      obtain ⟨rfl, N22q, e22⟩ := hQ22
      have N22 := Fr.app N20 N22q
      show Go p e below _ _ T22 (mkF m 122 #[.val (.ref a), .val (.ref b), .val (.int (0 : Int32)), .val (.int (1 : Int32)), .val (.long ln), .second, .val (.int (0 : Int32)), .val (.int (0 : Int32)), .val (.int (1 : Int32)), .val (.int (0 : Int32)), .val (.int (0 : Int32))] [(.int (own_low c0))])
      by_cases hc23 : (own_low c0) = (0 : Int32)
      · refine g_ifT X22 hx 142 (hb hby d3_122) ((if0 _ _).trans (teq hc23).1) (by decide) (by decide) ?_
        refine g_iinc X22 hx 145 (1 : Int32) #[.val (.ref a), .val (.ref b), .val (.int (0 : Int32)), .val (.int (1 : Int32)), .val (.long ln), .second, .val (.int (0 : Int32)), .val (.int (0 : Int32)), .val (.int (1 : Int32)), .val (.int (0 : Int32)), .val (.int (1 : Int32))] (hb hby d3_142) rfl (by decide) rfl rfl ?_
        refine g_goto X22 hx 109 (hb hby d3_145) (by decide) (by decide) ?_
        refine g_iload X22 hx 111 (hb hby d3_109) rfl rfl ?_
        refine g_iloadN X22 hx 112 (hb hby d3_111) rfl rfl ?_
        refine g_icT X22 hx 148 (hb hby d3_112) (by decide) (by decide) (by decide) ?_
        refine g_aloadN X22 hx 149 (hb hby d3_148) rfl rfl rfl ?_
        refine g_lload X22 hx 151 (hb hby d3_149) rfl rfl ?_
        refine g_putF X22 hx 154 hZ hown (host := "") (Or.inl (own_w hw 10 rfl)) Via.refl e22 F_ln E_a (Or.inl (own_w hw 11 rfl)) (own_w hw 2 rfl) (ty := .long) (by decide) rfl rfl (hb hby d3_151) rfl (fun T24 h24 X24 e24 W24 => ?_)
        have E_a := E_a.wr W24
        have F_ln := F_ln.same W24
        have F_co := F_co.other W24 (Or.inr (slot_ne (Or.inl (own_w hw 13 rfl)) (Or.inl (own_w hw 11 rfl)) (by decide) (t := .long) (t' := .long) (by decide) (by decide)))
        have F_la := F_la.other W24 (Or.inr (slot_ne (Or.inl (own_w hw 28 rfl)) (Or.inl (own_w hw 11 rfl)) (by decide) (t := .char) (t' := .long) (by decide) (by decide)))
        have V_b := V_b.other W24 (Ne.symm ne_a_b)
        have N24 := Fr.snoc X24 N22 g_a
        have Z24 : n0 ≤ h24.size := by rw [W24.size]; exact Z0
        have K24 := K0.wr W24 (Or.inl (List.mem_of_getElem? (i := 0) rfl))
        refine g_aloadN X24 hx 155 (hb hby d3_154) rfl rfl rfl ?_
        refine g_iload X24 hx 157 (hb hby d3_155) rfl rfl ?_
        refine g_ifT X24 hx 164 (hb hby d3_157) (by decide) (by decide) (by decide) ?_
        refine g_aloadN X24 hx 165 (hb hby d3_164) rfl rfl rfl ?_
        refine g_getF X24 hx 168 hZ hown (host := "") (Or.inl (own_w hw 12 rfl)) Via.refl e24 F_co (hb hby d3_165) rfl (fun T25 X25 e25 => ?_)
        refine g_iloadN X25 hx 169 (hb hby d3_168) rfl rfl ?_
        refine g_iload X25 hx 171 (hb hby d3_169) rfl rfl ?_
        refine g_isub X25 hx 172 (1 : Int32) (hb hby d3_171) (by decide) rfl ?_
        refine g_i2l X25 hx 173 (1 : Int64) (hb hby d3_172) (by decide) rfl ?_
        refine g_ladd X25 hx 174 (co + (1 : Int64)) (hb hby d3_173) rfl rfl ?_
        refine g_iload X25 hx 176 (hb hby d3_174) rfl rfl ?_
        refine g_i2l X25 hx 177 (0 : Int64) (hb hby d3_176) (by decide) rfl ?_
        refine g_lsub X25 hx 178 ((co + (1 : Int64)) - (0 : Int64)) (hb hby d3_177) rfl rfl ?_
        refine g_putF X25 hx 181 hZ hown (host := "") (Or.inl (own_w hw 12 rfl)) Via.refl e25 F_co E_a (Or.inl (own_w hw 13 rfl)) (own_w hw 2 rfl) (ty := .long) (by decide) rfl rfl (hb hby d3_178) rfl (fun T26 h26 X26 e26 W26 => ?_)
        have E_a := E_a.wr W26
        have F_ln := F_ln.other W26 (Or.inr (slot_ne (Or.inl (own_w hw 11 rfl)) (Or.inl (own_w hw 13 rfl)) (by decide) (t := .long) (t' := .long) (by decide) (by decide)))
        have F_co := F_co.same W26
        have F_la := F_la.other W26 (Or.inr (slot_ne (Or.inl (own_w hw 28 rfl)) (Or.inl (own_w hw 13 rfl)) (by decide) (t := .char) (t' := .long) (by decide) (by decide)))
        have V_b := V_b.other W26 (Ne.symm ne_a_b)
        have N26 := Fr.snoc X26 N24 g_a
        have Z26 : n0 ≤ h26.size := by rw [W26.size]; exact Z24
        have K26 := K24.wr W26 (Or.inl (List.mem_of_getElem? (i := 0) rfl))
        refine g_aloadN X26 hx 182 (hb hby d3_181) rfl rfl rfl ?_
        refine g_aloadN X26 hx 183 (hb hby d3_182) rfl rfl rfl ?_
        refine g_iloadN X26 hx 184 (hb hby d3_183) rfl rfl ?_
        refine g_iconst X26 hx 185 (1 : Int32) (hb hby d3_184) (by decide) rfl ?_
        refine g_isub X26 hx 186 (0 : Int32) (hb hby d3_185) (by decide) rfl ?_
        refine g_caload X26 hx 187 hZ e26 V_b ⟨by decide, by decide⟩ (show _ = (.int c0) from rfl) (hb hby d3_186) rfl ?_
        refine g_putF X26 hx 190 hZ hown (host := "") (Or.inl (own_w hw 27 rfl)) Via.refl e26 F_la E_a (Or.inl (own_w hw 28 rfl)) (own_w hw 2 rfl) (ty := .char) (by decide) (own_nrw hcc0) (own_fit hcc0) (hb hby d3_187) rfl (fun T27 h27 X27 e27 W27 => ?_)
        have E_a := E_a.wr W27
        have F_ln := F_ln.other W27 (Or.inr (slot_ne (Or.inl (own_w hw 11 rfl)) (Or.inl (own_w hw 28 rfl)) (by decide) (t := .long) (t' := .char) (by decide) (by decide)))
        have F_co := F_co.other W27 (Or.inr (slot_ne (Or.inl (own_w hw 13 rfl)) (Or.inl (own_w hw 28 rfl)) (by decide) (t := .long) (t' := .char) (by decide) (by decide)))
        have F_la := F_la.same W27
        have V_b := V_b.other W27 (Ne.symm ne_a_b)
        have N27 := Fr.snoc X27 N26 g_a
        have Z27 : n0 ≤ h27.size := by rw [W27.size]; exact Z26
        have K27 := K26.wr W27 (Or.inl (List.mem_of_getElem? (i := 0) rfl))
        exact g_retV X27 hx hret hlk (hb hby d3_190) (by decide) (by decide) (by rw [e27]; exact ⟨rfl, N27, K27, _, _, _, hcc0, E_a, F_ln, F_co, F_la⟩)
      · refine g_ifF X22 hx 125 (hb hby d3_122) ((if0 _ _).trans (feq hc23).1) rfl ?_
        refine g_aloadN X22 hx 126 (hb hby d3_125) rfl rfl rfl ?_
        refine g_aloadN X22 hx 127 (hb hby d3_126) rfl rfl rfl ?_
        refine g_iloadN X22 hx 128 (hb hby d3_127) rfl rfl ?_
        refine g_iload X22 hx 130 (hb hby d3_128) rfl rfl ?_
        refine g_callP X22 hx 133 hZ hown (own_w hw 49 rfl) (own_w hw 50 rfl) (own_w hw 51 rfl) (own_w hw 17 rfl) rfl (own_w hw 3 rfl) (own_w hw 52 rfl) (by decide) a E_a [(.ref b), (.int (0 : Int32)), (.int (0 : Int32))] [] (rm10_2_0 l Z a0 hw a b la c0 c1 kA h0 n0 Z0 F_la V_b hla) e22 0 (by decide) (by decide) (by decide) (by decide) (by rw [hml]; rfl) (lenOf own_pd1 rfl) (hb hby d3_130) rfl (Nat.le_of_eq rfl) rfl (fun v28 T28 L28 X28 hQ28 => ?_)
        obtain ⟨rfl, N28q, e28⟩ := hQ28
        have N28 := Fr.app N22 N28q
        show Go p e below _ _ T28 (mkF m 133 #[.val (.ref a), .val (.ref b), .val (.int (0 : Int32)), .val (.int (1 : Int32)), .val (.long ln), .second, .val (.int (0 : Int32)), .val (.int (0 : Int32)), .val (.int (1 : Int32)), .val (.int (0 : Int32)), .val (.int (0 : Int32))] [(.int la)])
        refine g_callS X28 hx 136 hZ hown (own_w hw 58 rfl) (own_w hw 59 rfl) (own_w hw 24 rfl) (own_w hw 60 rfl) (by decide) [(.int la)] [] (rm12 l Z a0 hw la h0 n0 Z0) e28 0 (by decide) (by decide) (by decide) (by decide) (by rw [hml]; rfl) (lenOf own_pd0 rfl) (hb hby d3_133) rfl (Nat.le_of_eq rfl) rfl (fun v29 T29 L29 X29 hQ29 => ?_)
        obtain ⟨rfl, N29q, e29⟩ := hQ29
        have N29 := Fr.app N28 N29q
        show Go p e below _ _ T29 (mkF m 136 #[.val (.ref a), .val (.ref b), .val (.int (0 : Int32)), .val (.int (1 : Int32)), .val (.long ln), .second, .val (.int (0 : Int32)), .val (.int (0 : Int32)), .val (.int (1 : Int32)), .val (.int (0 : Int32)), .val (.int (0 : Int32))] [(.int (own_high la))])
        by_cases hc30 : (own_high la) = (0 : Int32)
        · refine g_ifT X29 hx 142 (hb hby d3_136) ((if0 _ _).trans (teq hc30).1) (by decide) (by decide) ?_
          refine g_iinc X29 hx 145 (1 : Int32) #[.val (.ref a), .val (.ref b), .val (.int (0 : Int32)), .val (.int (1 : Int32)), .val (.long ln), .second, .val (.int (0 : Int32)), .val (.int (0 : Int32)), .val (.int (1 : Int32)), .val (.int (0 : Int32)), .val (.int (1 : Int32))] (hb hby d3_142) rfl (by decide) rfl rfl ?_
          refine g_goto X29 hx 109 (hb hby d3_145) (by decide) (by decide) ?_
          refine g_iload X29 hx 111 (hb hby d3_109) rfl rfl ?_
          refine g_iloadN X29 hx 112 (hb hby d3_111) rfl rfl ?_
          refine g_icT X29 hx 148 (hb hby d3_112) (by decide) (by decide) (by decide) ?_
          refine g_aloadN X29 hx 149 (hb hby d3_148) rfl rfl rfl ?_
          refine g_lload X29 hx 151 (hb hby d3_149) rfl rfl ?_
          refine g_putF X29 hx 154 hZ hown (host := "") (Or.inl (own_w hw 10 rfl)) Via.refl e29 F_ln E_a (Or.inl (own_w hw 11 rfl)) (own_w hw 2 rfl) (ty := .long) (by decide) rfl rfl (hb hby d3_151) rfl (fun T31 h31 X31 e31 W31 => ?_)
          have E_a := E_a.wr W31
          have F_ln := F_ln.same W31
          have F_co := F_co.other W31 (Or.inr (slot_ne (Or.inl (own_w hw 13 rfl)) (Or.inl (own_w hw 11 rfl)) (by decide) (t := .long) (t' := .long) (by decide) (by decide)))
          have F_la := F_la.other W31 (Or.inr (slot_ne (Or.inl (own_w hw 28 rfl)) (Or.inl (own_w hw 11 rfl)) (by decide) (t := .char) (t' := .long) (by decide) (by decide)))
          have V_b := V_b.other W31 (Ne.symm ne_a_b)
          have N31 := Fr.snoc X31 N29 g_a
          have Z31 : n0 ≤ h31.size := by rw [W31.size]; exact Z0
          have K31 := K0.wr W31 (Or.inl (List.mem_of_getElem? (i := 0) rfl))
          refine g_aloadN X31 hx 155 (hb hby d3_154) rfl rfl rfl ?_
          refine g_iload X31 hx 157 (hb hby d3_155) rfl rfl ?_
          refine g_ifT X31 hx 164 (hb hby d3_157) (by decide) (by decide) (by decide) ?_
          refine g_aloadN X31 hx 165 (hb hby d3_164) rfl rfl rfl ?_
          refine g_getF X31 hx 168 hZ hown (host := "") (Or.inl (own_w hw 12 rfl)) Via.refl e31 F_co (hb hby d3_165) rfl (fun T32 X32 e32 => ?_)
          refine g_iloadN X32 hx 169 (hb hby d3_168) rfl rfl ?_
          refine g_iload X32 hx 171 (hb hby d3_169) rfl rfl ?_
          refine g_isub X32 hx 172 (1 : Int32) (hb hby d3_171) (by decide) rfl ?_
          refine g_i2l X32 hx 173 (1 : Int64) (hb hby d3_172) (by decide) rfl ?_
          refine g_ladd X32 hx 174 (co + (1 : Int64)) (hb hby d3_173) rfl rfl ?_
          refine g_iload X32 hx 176 (hb hby d3_174) rfl rfl ?_
          refine g_i2l X32 hx 177 (0 : Int64) (hb hby d3_176) (by decide) rfl ?_
          refine g_lsub X32 hx 178 ((co + (1 : Int64)) - (0 : Int64)) (hb hby d3_177) rfl rfl ?_
          refine g_putF X32 hx 181 hZ hown (host := "") (Or.inl (own_w hw 12 rfl)) Via.refl e32 F_co E_a (Or.inl (own_w hw 13 rfl)) (own_w hw 2 rfl) (ty := .long) (by decide) rfl rfl (hb hby d3_178) rfl (fun T33 h33 X33 e33 W33 => ?_)
          have E_a := E_a.wr W33
          have F_ln := F_ln.other W33 (Or.inr (slot_ne (Or.inl (own_w hw 11 rfl)) (Or.inl (own_w hw 13 rfl)) (by decide) (t := .long) (t' := .long) (by decide) (by decide)))
          have F_co := F_co.same W33
          have F_la := F_la.other W33 (Or.inr (slot_ne (Or.inl (own_w hw 28 rfl)) (Or.inl (own_w hw 13 rfl)) (by decide) (t := .char) (t' := .long) (by decide) (by decide)))
          have V_b := V_b.other W33 (Ne.symm ne_a_b)
          have N33 := Fr.snoc X33 N31 g_a
          have Z33 : n0 ≤ h33.size := by rw [W33.size]; exact Z31
          have K33 := K31.wr W33 (Or.inl (List.mem_of_getElem? (i := 0) rfl))
          refine g_aloadN X33 hx 182 (hb hby d3_181) rfl rfl rfl ?_
          refine g_aloadN X33 hx 183 (hb hby d3_182) rfl rfl rfl ?_
          refine g_iloadN X33 hx 184 (hb hby d3_183) rfl rfl ?_
          refine g_iconst X33 hx 185 (1 : Int32) (hb hby d3_184) (by decide) rfl ?_
          refine g_isub X33 hx 186 (0 : Int32) (hb hby d3_185) (by decide) rfl ?_
          refine g_caload X33 hx 187 hZ e33 V_b ⟨by decide, by decide⟩ (show _ = (.int c0) from rfl) (hb hby d3_186) rfl ?_
          refine g_putF X33 hx 190 hZ hown (host := "") (Or.inl (own_w hw 27 rfl)) Via.refl e33 F_la E_a (Or.inl (own_w hw 28 rfl)) (own_w hw 2 rfl) (ty := .char) (by decide) (own_nrw hcc0) (own_fit hcc0) (hb hby d3_187) rfl (fun T34 h34 X34 e34 W34 => ?_)
          have E_a := E_a.wr W34
          have F_ln := F_ln.other W34 (Or.inr (slot_ne (Or.inl (own_w hw 11 rfl)) (Or.inl (own_w hw 28 rfl)) (by decide) (t := .long) (t' := .char) (by decide) (by decide)))
          have F_co := F_co.other W34 (Or.inr (slot_ne (Or.inl (own_w hw 13 rfl)) (Or.inl (own_w hw 28 rfl)) (by decide) (t := .long) (t' := .char) (by decide) (by decide)))
          have F_la := F_la.same W34
          have V_b := V_b.other W34 (Ne.symm ne_a_b)
          have N34 := Fr.snoc X34 N33 g_a
          have Z34 : n0 ≤ h34.size := by rw [W34.size]; exact Z33
          have K34 := K33.wr W34 (Or.inl (List.mem_of_getElem? (i := 0) rfl))
          exact g_retV X34 hx hret hlk (hb hby d3_190) (by decide) (by decide) (by rw [e34]; exact ⟨rfl, N34, K34, _, _, _, hcc0, E_a, F_ln, F_co, F_la⟩)
        · refine g_ifF X29 hx 139 (hb hby d3_136) ((if0 _ _).trans (feq hc30).1) rfl ?_
          refine g_iinc X29 hx 142 (1 : Int32) #[.val (.ref a), .val (.ref b), .val (.int (0 : Int32)), .val (.int (1 : Int32)), .val (.long ln), .second, .val (.int (0 : Int32)), .val (.int (0 : Int32)), .val (.int (1 : Int32)), .val (.int (1 : Int32)), .val (.int (0 : Int32))] (hb hby d3_139) rfl (by decide) rfl rfl ?_
          refine g_iinc X29 hx 145 (1 : Int32) #[.val (.ref a), .val (.ref b), .val (.int (0 : Int32)), .val (.int (1 : Int32)), .val (.long ln), .second, .val (.int (0 : Int32)), .val (.int (0 : Int32)), .val (.int (1 : Int32)), .val (.int (1 : Int32)), .val (.int (1 : Int32))] (hb hby d3_142) rfl (by decide) rfl rfl ?_
          refine g_goto X29 hx 109 (hb hby d3_145) (by decide) (by decide) ?_
          refine g_iload X29 hx 111 (hb hby d3_109) rfl rfl ?_
          refine g_iloadN X29 hx 112 (hb hby d3_111) rfl rfl ?_
          refine g_icT X29 hx 148 (hb hby d3_112) (by decide) (by decide) (by decide) ?_
          refine g_aloadN X29 hx 149 (hb hby d3_148) rfl rfl rfl ?_
          refine g_lload X29 hx 151 (hb hby d3_149) rfl rfl ?_
          refine g_putF X29 hx 154 hZ hown (host := "") (Or.inl (own_w hw 10 rfl)) Via.refl e29 F_ln E_a (Or.inl (own_w hw 11 rfl)) (own_w hw 2 rfl) (ty := .long) (by decide) rfl rfl (hb hby d3_151) rfl (fun T35 h35 X35 e35 W35 => ?_)
          have E_a := E_a.wr W35
          have F_ln := F_ln.same W35
          have F_co := F_co.other W35 (Or.inr (slot_ne (Or.inl (own_w hw 13 rfl)) (Or.inl (own_w hw 11 rfl)) (by decide) (t := .long) (t' := .long) (by decide) (by decide)))
          have F_la := F_la.other W35 (Or.inr (slot_ne (Or.inl (own_w hw 28 rfl)) (Or.inl (own_w hw 11 rfl)) (by decide) (t := .char) (t' := .long) (by decide) (by decide)))
          have V_b := V_b.other W35 (Ne.symm ne_a_b)
          have N35 := Fr.snoc X35 N29 g_a
          have Z35 : n0 ≤ h35.size := by rw [W35.size]; exact Z0
          have K35 := K0.wr W35 (Or.inl (List.mem_of_getElem? (i := 0) rfl))
          refine g_aloadN X35 hx 155 (hb hby d3_154) rfl rfl rfl ?_
          refine g_iload X35 hx 157 (hb hby d3_155) rfl rfl ?_
          refine g_ifT X35 hx 164 (hb hby d3_157) (by decide) (by decide) (by decide) ?_
          refine g_aloadN X35 hx 165 (hb hby d3_164) rfl rfl rfl ?_
          refine g_getF X35 hx 168 hZ hown (host := "") (Or.inl (own_w hw 12 rfl)) Via.refl e35 F_co (hb hby d3_165) rfl (fun T36 X36 e36 => ?_)
          refine g_iloadN X36 hx 169 (hb hby d3_168) rfl rfl ?_
          refine g_iload X36 hx 171 (hb hby d3_169) rfl rfl ?_
          refine g_isub X36 hx 172 (1 : Int32) (hb hby d3_171) (by decide) rfl ?_
          refine g_i2l X36 hx 173 (1 : Int64) (hb hby d3_172) (by decide) rfl ?_
          refine g_ladd X36 hx 174 (co + (1 : Int64)) (hb hby d3_173) rfl rfl ?_
          refine g_iload X36 hx 176 (hb hby d3_174) rfl rfl ?_
          refine g_i2l X36 hx 177 (1 : Int64) (hb hby d3_176) (by decide) rfl ?_
          refine g_lsub X36 hx 178 ((co + (1 : Int64)) - (1 : Int64)) (hb hby d3_177) rfl rfl ?_
          refine g_putF X36 hx 181 hZ hown (host := "") (Or.inl (own_w hw 12 rfl)) Via.refl e36 F_co E_a (Or.inl (own_w hw 13 rfl)) (own_w hw 2 rfl) (ty := .long) (by decide) rfl rfl (hb hby d3_178) rfl (fun T37 h37 X37 e37 W37 => ?_)
          have E_a := E_a.wr W37
          have F_ln := F_ln.other W37 (Or.inr (slot_ne (Or.inl (own_w hw 11 rfl)) (Or.inl (own_w hw 13 rfl)) (by decide) (t := .long) (t' := .long) (by decide) (by decide)))
          have F_co := F_co.same W37
          have F_la := F_la.other W37 (Or.inr (slot_ne (Or.inl (own_w hw 28 rfl)) (Or.inl (own_w hw 13 rfl)) (by decide) (t := .char) (t' := .long) (by decide) (by decide)))
          have V_b := V_b.other W37 (Ne.symm ne_a_b)
          have N37 := Fr.snoc X37 N35 g_a
          have Z37 : n0 ≤ h37.size := by rw [W37.size]; exact Z35
          have K37 := K35.wr W37 (Or.inl (List.mem_of_getElem? (i := 0) rfl))
          refine g_aloadN X37 hx 182 (hb hby d3_181) rfl rfl rfl ?_
          refine g_aloadN X37 hx 183 (hb hby d3_182) rfl rfl rfl ?_
          refine g_iloadN X37 hx 184 (hb hby d3_183) rfl rfl ?_
          refine g_iconst X37 hx 185 (1 : Int32) (hb hby d3_184) (by decide) rfl ?_
          refine g_isub X37 hx 186 (0 : Int32) (hb hby d3_185) (by decide) rfl ?_
          refine g_caload X37 hx 187 hZ e37 V_b ⟨by decide, by decide⟩ (show _ = (.int c0) from rfl) (hb hby d3_186) rfl ?_
          refine g_putF X37 hx 190 hZ hown (host := "") (Or.inl (own_w hw 27 rfl)) Via.refl e37 F_la E_a (Or.inl (own_w hw 28 rfl)) (own_w hw 2 rfl) (ty := .char) (by decide) (own_nrw hcc0) (own_fit hcc0) (hb hby d3_187) rfl (fun T38 h38 X38 e38 W38 => ?_)
          have E_a := E_a.wr W38
          have F_ln := F_ln.other W38 (Or.inr (slot_ne (Or.inl (own_w hw 11 rfl)) (Or.inl (own_w hw 28 rfl)) (by decide) (t := .long) (t' := .char) (by decide) (by decide)))
          have F_co := F_co.other W38 (Or.inr (slot_ne (Or.inl (own_w hw 13 rfl)) (Or.inl (own_w hw 28 rfl)) (by decide) (t := .long) (t' := .char) (by decide) (by decide)))
          have F_la := F_la.same W38
          have V_b := V_b.other W38 (Ne.symm ne_a_b)
          have N38 := Fr.snoc X38 N37 g_a
          have Z38 : n0 ≤ h38.size := by rw [W38.size]; exact Z37
          have K38 := K37.wr W38 (Or.inl (List.mem_of_getElem? (i := 0) rfl))
          exact g_retV X38 hx hret hlk (hb hby d3_190) (by decide) (by decide) (by rw [e38]; exact ⟨rfl, N38, K38, _, _, _, hcc0, E_a, F_ln, F_co, F_la⟩)
    · refine g_ifF X20 hx 65 (hb hby d3_62) ((if0 _ _).trans (feq hc21).1) rfl ?_
      refine g_iload X20 hx 67 (hb hby d3_65) rfl rfl ?_
      refine g_aloadN X20 hx 68 (hb hby d3_67) rfl rfl rfl ?_
      refine g_aloadN X20 hx 69 (hb hby d3_68) rfl rfl rfl ?_
      refine g_iloadN X20 hx 70 (hb hby d3_69) rfl rfl ?_
      refine g_iload X20 hx 72 (hb hby d3_70) rfl rfl ?_
      refine g_callP X20 hx 75 hZ hown (own_w hw 49 rfl) (own_w hw 50 rfl) (own_w hw 51 rfl) (own_w hw 17 rfl) rfl (own_w hw 3 rfl) (own_w hw 52 rfl) (by decide) a E_a [(.ref b), (.int (0 : Int32)), (.int (0 : Int32))] [(.int c0)] (rm10_2_0 l Z a0 hw a b la c0 c1 kA h0 n0 Z0 F_la V_b hla) e20 1 (by decide) (by decide) (by decide) (by decide) (by rw [hml]; rfl) (lenOf own_pd1 rfl) (hb hby d3_72) rfl (Nat.le_of_eq rfl) rfl (fun v39 T39 L39 X39 hQ39 => ?_)
      obtain ⟨rfl, N39q, e39⟩ := hQ39
      have N39 := Fr.app N20 N39q
      show Go p e below _ _ T39 (mkF m 75 #[.val (.ref a), .val (.ref b), .val (.int (0 : Int32)), .val (.int (1 : Int32)), .val (.long ln), .second, .val (.int (0 : Int32)), .val (.int (0 : Int32)), .val (.int (0 : Int32)), .val (.int c0), .unset] [(.int la), (.int c0)])
      refine g_callS X39 hx 78 hZ hown (own_w hw 53 rfl) (own_w hw 54 rfl) (own_w hw 3 rfl) (own_w hw 55 rfl) (by decide) [(.int c0), (.int la)] [] (rm11 l Z a0 hw c0 la h0 n0 Z0) e39 0 (by decide) (by decide) (by decide) (by decide) (by rw [hml]; rfl) (lenOf own_pd2 rfl) (hb hby d3_75) rfl (Nat.le_of_eq rfl) rfl (fun v40 T40 L40 X40 hQ40 => ?_)
      obtain ⟨rfl, N40q, e40⟩ := hQ40
      have N40 := Fr.app N39 N40q
      show Go p e below _ _ T40 (mkF m 78 #[.val (.ref a), .val (.ref b), .val (.int (0 : Int32)), .val (.int (1 : Int32)), .val (.long ln), .second, .val (.int (0 : Int32)), .val (.int (0 : Int32)), .val (.int (0 : Int32)), .val (.int c0), .unset] [(.int (own_ends c0 la))])
      by_cases hc41 : (own_ends c0 la) = (0 : Int32)
      · refine g_ifT X40 hx 87 (hb hby d3_78) ((if0 _ _).trans (teq hc41).1) (by decide) (by decide) ?_
        refine g_iload X40 hx 89 (hb hby d3_87) rfl rfl ?_
        refine g_iconst X40 hx 90 (1 : Int32) (hb hby d3_89) (by decide) rfl ?_
        refine g_iadd X40 hx 91 (1 : Int32) (hb hby d3_90) (by decide) rfl ?_
        refine g_istore X40 hx 93 #[.val (.ref a), .val (.ref b), .val (.int (0 : Int32)), .val (.int (1 : Int32)), .val (.long ln), .second, .val (.int (1 : Int32)), .val (.int (0 : Int32)), .val (.int (0 : Int32)), .val (.int c0), .unset] (hb hby d3_91) rfl rfl ?_
        refine g_iconst X40 hx 94 (1 : Int32) (hb hby d3_93) (by decide) rfl ?_
        refine g_istore X40 hx 96 #[.val (.ref a), .val (.ref b), .val (.int (0 : Int32)), .val (.int (1 : Int32)), .val (.long ln), .second, .val (.int (1 : Int32)), .val (.int (1 : Int32)), .val (.int (0 : Int32)), .val (.int c0), .unset] (hb hby d3_94) rfl rfl ?_
        refine g_iinc X40 hx 99 (1 : Int32) #[.val (.ref a), .val (.ref b), .val (.int (0 : Int32)), .val (.int (1 : Int32)), .val (.long ln), .second, .val (.int (1 : Int32)), .val (.int (1 : Int32)), .val (.int (1 : Int32)), .val (.int c0), .unset] (hb hby d3_96) rfl (by decide) rfl rfl ?_
        refine g_goto X40 hx 21 (hb hby d3_99) (by decide) (by decide) ?_
        refine g_iload X40 hx 23 (hb hby d3_21) rfl rfl ?_
        refine g_iloadN X40 hx 24 (hb hby d3_23) rfl rfl ?_
        refine g_icT X40 hx 42 (hb hby d3_24) (by decide) (by decide) (by decide) ?_
        refine g_iload X40 hx 44 (hb hby d3_42) rfl rfl ?_
        refine g_iloadN X40 hx 45 (hb hby d3_44) rfl rfl ?_
        refine g_icF X40 hx 48 (hb hby d3_45) (by decide) rfl ?_
        refine g_goto X40 hx 102 (hb hby d3_48) (by decide) (by decide) ?_
        refine g_iconst X40 hx 103 (0 : Int32) (hb hby d3_102) (by decide) rfl ?_
        refine g_istore X40 hx 105 #[.val (.ref a), .val (.ref b), .val (.int (0 : Int32)), .val (.int (1 : Int32)), .val (.long ln), .second, .val (.int (1 : Int32)), .val (.int (1 : Int32)), .val (.int (1 : Int32)), .val (.int (0 : Int32)), .unset] (hb hby d3_103) rfl rfl ?_
        refine g_iload X40 hx 107 (hb hby d3_105) rfl rfl ?_
        refine g_istore X40 hx 109 #[.val (.ref a), .val (.ref b), .val (.int (0 : Int32)), .val (.int (1 : Int32)), .val (.long ln), .second, .val (.int (1 : Int32)), .val (.int (1 : Int32)), .val (.int (1 : Int32)), .val (.int (0 : Int32)), .val (.int (1 : Int32))] (hb hby d3_107) rfl rfl ?_
        refine g_iload X40 hx 111 (hb hby d3_109) rfl rfl ?_
        refine g_iloadN X40 hx 112 (hb hby d3_111) rfl rfl ?_
        refine g_icT X40 hx 148 (hb hby d3_112) (by decide) (by decide) (by decide) ?_
        refine g_aloadN X40 hx 149 (hb hby d3_148) rfl rfl rfl ?_
        refine g_lload X40 hx 151 (hb hby d3_149) rfl rfl ?_
        refine g_putF X40 hx 154 hZ hown (host := "") (Or.inl (own_w hw 10 rfl)) Via.refl e40 F_ln E_a (Or.inl (own_w hw 11 rfl)) (own_w hw 2 rfl) (ty := .long) (by decide) rfl rfl (hb hby d3_151) rfl (fun T42 h42 X42 e42 W42 => ?_)
        have E_a := E_a.wr W42
        have F_ln := F_ln.same W42
        have F_co := F_co.other W42 (Or.inr (slot_ne (Or.inl (own_w hw 13 rfl)) (Or.inl (own_w hw 11 rfl)) (by decide) (t := .long) (t' := .long) (by decide) (by decide)))
        have F_la := F_la.other W42 (Or.inr (slot_ne (Or.inl (own_w hw 28 rfl)) (Or.inl (own_w hw 11 rfl)) (by decide) (t := .char) (t' := .long) (by decide) (by decide)))
        have V_b := V_b.other W42 (Ne.symm ne_a_b)
        have N42 := Fr.snoc X42 N40 g_a
        have Z42 : n0 ≤ h42.size := by rw [W42.size]; exact Z0
        have K42 := K0.wr W42 (Or.inl (List.mem_of_getElem? (i := 0) rfl))
        refine g_aloadN X42 hx 155 (hb hby d3_154) rfl rfl rfl ?_
        refine g_iload X42 hx 157 (hb hby d3_155) rfl rfl ?_
        refine g_ifF X42 hx 160 (hb hby d3_157) (by decide) rfl ?_
        refine g_lconst X42 hx 161 (1 : Int64) (hb hby d3_160) (by decide) rfl ?_
        refine g_goto X42 hx 168 (hb hby d3_161) (by decide) (by decide) ?_
        refine g_iloadN X42 hx 169 (hb hby d3_168) rfl rfl ?_
        refine g_iload X42 hx 171 (hb hby d3_169) rfl rfl ?_
        refine g_isub X42 hx 172 (0 : Int32) (hb hby d3_171) (by decide) rfl ?_
        refine g_i2l X42 hx 173 (0 : Int64) (hb hby d3_172) (by decide) rfl ?_
        refine g_ladd X42 hx 174 (1 : Int64) (hb hby d3_173) (by decide) rfl ?_
        refine g_iload X42 hx 176 (hb hby d3_174) rfl rfl ?_
        refine g_i2l X42 hx 177 (0 : Int64) (hb hby d3_176) (by decide) rfl ?_
        refine g_lsub X42 hx 178 (1 : Int64) (hb hby d3_177) (by decide) rfl ?_
        refine g_putF X42 hx 181 hZ hown (host := "") (Or.inl (own_w hw 12 rfl)) Via.refl e42 F_co E_a (Or.inl (own_w hw 13 rfl)) (own_w hw 2 rfl) (ty := .long) (by decide) rfl rfl (hb hby d3_178) rfl (fun T43 h43 X43 e43 W43 => ?_)
        have E_a := E_a.wr W43
        have F_ln := F_ln.other W43 (Or.inr (slot_ne (Or.inl (own_w hw 11 rfl)) (Or.inl (own_w hw 13 rfl)) (by decide) (t := .long) (t' := .long) (by decide) (by decide)))
        have F_co := F_co.same W43
        have F_la := F_la.other W43 (Or.inr (slot_ne (Or.inl (own_w hw 28 rfl)) (Or.inl (own_w hw 13 rfl)) (by decide) (t := .char) (t' := .long) (by decide) (by decide)))
        have V_b := V_b.other W43 (Ne.symm ne_a_b)
        have N43 := Fr.snoc X43 N42 g_a
        have Z43 : n0 ≤ h43.size := by rw [W43.size]; exact Z42
        have K43 := K42.wr W43 (Or.inl (List.mem_of_getElem? (i := 0) rfl))
        refine g_aloadN X43 hx 182 (hb hby d3_181) rfl rfl rfl ?_
        refine g_aloadN X43 hx 183 (hb hby d3_182) rfl rfl rfl ?_
        refine g_iloadN X43 hx 184 (hb hby d3_183) rfl rfl ?_
        refine g_iconst X43 hx 185 (1 : Int32) (hb hby d3_184) (by decide) rfl ?_
        refine g_isub X43 hx 186 (0 : Int32) (hb hby d3_185) (by decide) rfl ?_
        refine g_caload X43 hx 187 hZ e43 V_b ⟨by decide, by decide⟩ (show _ = (.int c0) from rfl) (hb hby d3_186) rfl ?_
        refine g_putF X43 hx 190 hZ hown (host := "") (Or.inl (own_w hw 27 rfl)) Via.refl e43 F_la E_a (Or.inl (own_w hw 28 rfl)) (own_w hw 2 rfl) (ty := .char) (by decide) (own_nrw hcc0) (own_fit hcc0) (hb hby d3_187) rfl (fun T44 h44 X44 e44 W44 => ?_)
        have E_a := E_a.wr W44
        have F_ln := F_ln.other W44 (Or.inr (slot_ne (Or.inl (own_w hw 11 rfl)) (Or.inl (own_w hw 28 rfl)) (by decide) (t := .long) (t' := .char) (by decide) (by decide)))
        have F_co := F_co.other W44 (Or.inr (slot_ne (Or.inl (own_w hw 13 rfl)) (Or.inl (own_w hw 28 rfl)) (by decide) (t := .long) (t' := .char) (by decide) (by decide)))
        have F_la := F_la.same W44
        have V_b := V_b.other W44 (Ne.symm ne_a_b)
        have N44 := Fr.snoc X44 N43 g_a
        have Z44 : n0 ≤ h44.size := by rw [W44.size]; exact Z43
        have K44 := K43.wr W44 (Or.inl (List.mem_of_getElem? (i := 0) rfl))
        exact g_retV X44 hx hret hlk (hb hby d3_190) (by decide) (by decide) (by rw [e44]; exact ⟨rfl, N44, K44, _, _, _, hcc0, E_a, F_ln, F_co, F_la⟩)
      · refine g_ifF X40 hx 81 (hb hby d3_78) ((if0 _ _).trans (feq hc41).1) rfl ?_
        refine g_lload X40 hx 83 (hb hby d3_81) rfl rfl ?_
        refine g_lconst X40 hx 84 (1 : Int64) (hb hby d3_83) (by decide) rfl ?_
        refine g_ladd X40 hx 85 (ln + (1 : Int64)) (hb hby d3_84) rfl rfl ?_
        refine g_lstore X40 hx 87 #[.val (.ref a), .val (.ref b), .val (.int (0 : Int32)), .val (.int (1 : Int32)), .val (.long (ln + (1 : Int64))), .second, .val (.int (0 : Int32)), .val (.int (0 : Int32)), .val (.int (0 : Int32)), .val (.int c0), .unset] (hb hby d3_85) rfl rfl ?_
        refine g_iload X40 hx 89 (hb hby d3_87) rfl rfl ?_
        refine g_iconst X40 hx 90 (1 : Int32) (hb hby d3_89) (by decide) rfl ?_
        refine g_iadd X40 hx 91 (1 : Int32) (hb hby d3_90) (by decide) rfl ?_
        refine g_istore X40 hx 93 #[.val (.ref a), .val (.ref b), .val (.int (0 : Int32)), .val (.int (1 : Int32)), .val (.long (ln + (1 : Int64))), .second, .val (.int (1 : Int32)), .val (.int (0 : Int32)), .val (.int (0 : Int32)), .val (.int c0), .unset] (hb hby d3_91) rfl rfl ?_
        refine g_iconst X40 hx 94 (1 : Int32) (hb hby d3_93) (by decide) rfl ?_
        refine g_istore X40 hx 96 #[.val (.ref a), .val (.ref b), .val (.int (0 : Int32)), .val (.int (1 : Int32)), .val (.long (ln + (1 : Int64))), .second, .val (.int (1 : Int32)), .val (.int (1 : Int32)), .val (.int (0 : Int32)), .val (.int c0), .unset] (hb hby d3_94) rfl rfl ?_
        refine g_iinc X40 hx 99 (1 : Int32) #[.val (.ref a), .val (.ref b), .val (.int (0 : Int32)), .val (.int (1 : Int32)), .val (.long (ln + (1 : Int64))), .second, .val (.int (1 : Int32)), .val (.int (1 : Int32)), .val (.int (1 : Int32)), .val (.int c0), .unset] (hb hby d3_96) rfl (by decide) rfl rfl ?_
        refine g_goto X40 hx 21 (hb hby d3_99) (by decide) (by decide) ?_
        refine g_iload X40 hx 23 (hb hby d3_21) rfl rfl ?_
        refine g_iloadN X40 hx 24 (hb hby d3_23) rfl rfl ?_
        refine g_icT X40 hx 42 (hb hby d3_24) (by decide) (by decide) (by decide) ?_
        refine g_iload X40 hx 44 (hb hby d3_42) rfl rfl ?_
        refine g_iloadN X40 hx 45 (hb hby d3_44) rfl rfl ?_
        refine g_icF X40 hx 48 (hb hby d3_45) (by decide) rfl ?_
        refine g_goto X40 hx 102 (hb hby d3_48) (by decide) (by decide) ?_
        refine g_iconst X40 hx 103 (0 : Int32) (hb hby d3_102) (by decide) rfl ?_
        refine g_istore X40 hx 105 #[.val (.ref a), .val (.ref b), .val (.int (0 : Int32)), .val (.int (1 : Int32)), .val (.long (ln + (1 : Int64))), .second, .val (.int (1 : Int32)), .val (.int (1 : Int32)), .val (.int (1 : Int32)), .val (.int (0 : Int32)), .unset] (hb hby d3_103) rfl rfl ?_
        refine g_iload X40 hx 107 (hb hby d3_105) rfl rfl ?_
        refine g_istore X40 hx 109 #[.val (.ref a), .val (.ref b), .val (.int (0 : Int32)), .val (.int (1 : Int32)), .val (.long (ln + (1 : Int64))), .second, .val (.int (1 : Int32)), .val (.int (1 : Int32)), .val (.int (1 : Int32)), .val (.int (0 : Int32)), .val (.int (1 : Int32))] (hb hby d3_107) rfl rfl ?_
        refine g_iload X40 hx 111 (hb hby d3_109) rfl rfl ?_
        refine g_iloadN X40 hx 112 (hb hby d3_111) rfl rfl ?_
        refine g_icT X40 hx 148 (hb hby d3_112) (by decide) (by decide) (by decide) ?_
        refine g_aloadN X40 hx 149 (hb hby d3_148) rfl rfl rfl ?_
        refine g_lload X40 hx 151 (hb hby d3_149) rfl rfl ?_
        refine g_putF X40 hx 154 hZ hown (host := "") (Or.inl (own_w hw 10 rfl)) Via.refl e40 F_ln E_a (Or.inl (own_w hw 11 rfl)) (own_w hw 2 rfl) (ty := .long) (by decide) rfl rfl (hb hby d3_151) rfl (fun T45 h45 X45 e45 W45 => ?_)
        have E_a := E_a.wr W45
        have F_ln := F_ln.same W45
        have F_co := F_co.other W45 (Or.inr (slot_ne (Or.inl (own_w hw 13 rfl)) (Or.inl (own_w hw 11 rfl)) (by decide) (t := .long) (t' := .long) (by decide) (by decide)))
        have F_la := F_la.other W45 (Or.inr (slot_ne (Or.inl (own_w hw 28 rfl)) (Or.inl (own_w hw 11 rfl)) (by decide) (t := .char) (t' := .long) (by decide) (by decide)))
        have V_b := V_b.other W45 (Ne.symm ne_a_b)
        have N45 := Fr.snoc X45 N40 g_a
        have Z45 : n0 ≤ h45.size := by rw [W45.size]; exact Z0
        have K45 := K0.wr W45 (Or.inl (List.mem_of_getElem? (i := 0) rfl))
        refine g_aloadN X45 hx 155 (hb hby d3_154) rfl rfl rfl ?_
        refine g_iload X45 hx 157 (hb hby d3_155) rfl rfl ?_
        refine g_ifF X45 hx 160 (hb hby d3_157) (by decide) rfl ?_
        refine g_lconst X45 hx 161 (1 : Int64) (hb hby d3_160) (by decide) rfl ?_
        refine g_goto X45 hx 168 (hb hby d3_161) (by decide) (by decide) ?_
        refine g_iloadN X45 hx 169 (hb hby d3_168) rfl rfl ?_
        refine g_iload X45 hx 171 (hb hby d3_169) rfl rfl ?_
        refine g_isub X45 hx 172 (0 : Int32) (hb hby d3_171) (by decide) rfl ?_
        refine g_i2l X45 hx 173 (0 : Int64) (hb hby d3_172) (by decide) rfl ?_
        refine g_ladd X45 hx 174 (1 : Int64) (hb hby d3_173) (by decide) rfl ?_
        refine g_iload X45 hx 176 (hb hby d3_174) rfl rfl ?_
        refine g_i2l X45 hx 177 (0 : Int64) (hb hby d3_176) (by decide) rfl ?_
        refine g_lsub X45 hx 178 (1 : Int64) (hb hby d3_177) (by decide) rfl ?_
        refine g_putF X45 hx 181 hZ hown (host := "") (Or.inl (own_w hw 12 rfl)) Via.refl e45 F_co E_a (Or.inl (own_w hw 13 rfl)) (own_w hw 2 rfl) (ty := .long) (by decide) rfl rfl (hb hby d3_178) rfl (fun T46 h46 X46 e46 W46 => ?_)
        have E_a := E_a.wr W46
        have F_ln := F_ln.other W46 (Or.inr (slot_ne (Or.inl (own_w hw 11 rfl)) (Or.inl (own_w hw 13 rfl)) (by decide) (t := .long) (t' := .long) (by decide) (by decide)))
        have F_co := F_co.same W46
        have F_la := F_la.other W46 (Or.inr (slot_ne (Or.inl (own_w hw 28 rfl)) (Or.inl (own_w hw 13 rfl)) (by decide) (t := .char) (t' := .long) (by decide) (by decide)))
        have V_b := V_b.other W46 (Ne.symm ne_a_b)
        have N46 := Fr.snoc X46 N45 g_a
        have Z46 : n0 ≤ h46.size := by rw [W46.size]; exact Z45
        have K46 := K45.wr W46 (Or.inl (List.mem_of_getElem? (i := 0) rfl))
        refine g_aloadN X46 hx 182 (hb hby d3_181) rfl rfl rfl ?_
        refine g_aloadN X46 hx 183 (hb hby d3_182) rfl rfl rfl ?_
        refine g_iloadN X46 hx 184 (hb hby d3_183) rfl rfl ?_
        refine g_iconst X46 hx 185 (1 : Int32) (hb hby d3_184) (by decide) rfl ?_
        refine g_isub X46 hx 186 (0 : Int32) (hb hby d3_185) (by decide) rfl ?_
        refine g_caload X46 hx 187 hZ e46 V_b ⟨by decide, by decide⟩ (show _ = (.int c0) from rfl) (hb hby d3_186) rfl ?_
        refine g_putF X46 hx 190 hZ hown (host := "") (Or.inl (own_w hw 27 rfl)) Via.refl e46 F_la E_a (Or.inl (own_w hw 28 rfl)) (own_w hw 2 rfl) (ty := .char) (by decide) (own_nrw hcc0) (own_fit hcc0) (hb hby d3_187) rfl (fun T47 h47 X47 e47 W47 => ?_)
        have E_a := E_a.wr W47
        have F_ln := F_ln.other W47 (Or.inr (slot_ne (Or.inl (own_w hw 11 rfl)) (Or.inl (own_w hw 28 rfl)) (by decide) (t := .long) (t' := .char) (by decide) (by decide)))
        have F_co := F_co.other W47 (Or.inr (slot_ne (Or.inl (own_w hw 13 rfl)) (Or.inl (own_w hw 28 rfl)) (by decide) (t := .long) (t' := .char) (by decide) (by decide)))
        have F_la := F_la.same W47
        have V_b := V_b.other W47 (Ne.symm ne_a_b)
        have N47 := Fr.snoc X47 N46 g_a
        have Z47 : n0 ≤ h47.size := by rw [W47.size]; exact Z46
        have K47 := K46.wr W47 (Or.inl (List.mem_of_getElem? (i := 0) rfl))
        exact g_retV X47 hx hret hlk (hb hby d3_190) (by decide) (by decide) (by rw [e47]; exact ⟨rfl, N47, K47, _, _, _, hcc0, E_a, F_ln, F_co, F_la⟩)
set_option maxRecDepth 65536 in
set_option maxHeartbeats 40000000 in
theorem rm3_2 (l : Launch) (Z : State) (a0 : Array Value) (hw : ∀ d ∈ tables_1, d.before a0 Z = true) (a b : Addr) (ln co : Int64) (la c0 c1 : Int32) (kA : ClassId) (h0 : Heap) (n0 : Nat) (Z0 : n0 ≤ h0.size) (g_a : n0 ≤ a) (E_a : Exa Z h0 a "gleanwell/Position") (F_ln : Fld Z h0 a "gleanwell/Position" "line" "J" (.long ln)) (F_co : Fld Z h0 a "gleanwell/Position" "column" "J" (.long co)) (F_la : Fld Z h0 a "gleanwell/Position" "last" "C" (.int la)) (V_b : Arv Z h0 b kA .char (2 : Int32) [(.int c0), (.int c1)] (.int (0 : Int32))) (hla : nar .char la = la) (hcc0 : nar .char c0 = c0) (hcc1 : nar .char c1 = c1) (ne_a_b : a ≠ b) :
    OwnMet l Z (⟨"gleanwell/Position", "pass", "([CII)V"⟩ : MethodName) prog_33_method_9_code 11 none [] ({ frames := 1, cells := 0, slots := 0, locals := 24 } : Room) [(.ref a), (.ref b), (.int (0 : Int32)), (.int (2 : Int32))] h0 (fun v h L => v = none ∧ Fr n0 L ∧ Keep h0 h [a] ∧ ∃ (ln' co' : Int64) (la' : Int32), nar .char la' = la' ∧ Exa Z h a "gleanwell/Position" ∧ Fld Z h a "gleanwell/Position" "line" "J" (.long ln') ∧ Fld Z h a "gleanwell/Position" "column" "J" (.long co') ∧ Fld Z h a "gleanwell/Position" "last" "C" (.int la')) := by
  refine own_body (Ls := #[.val (.ref a), .val (.ref b), .val (.int (0 : Int32)), .val (.int (2 : Int32)), .unset, .unset, .unset, .unset, .unset, .unset, .unset]) (plainFor_of_name own_pn0) (fun m => by first | (simp [entryFrame, mkF, argsToLocals, Value.category]; done) | rfl) (fun p e s m below meth cO T0 hx hby hml hown hnm hret hlk hZ X0 e0 => ?_)
  have hown : s.vm.findClass "gleanwell/Position" = some m.cls := hown
  have N0 := Fr.nil n0
  have K0 := Keep.refl h0 [a]
  have tail105_0 : ∀ (lnJ : Int64) (TJ : State) (locsJ : List Loc), Stand p l e ({ frames := 1, cells := 0, slots := 0, locals := 24 } : Room) s m ([(.ref a), (.ref b), (.int (0 : Int32)), (.int (2 : Int32))] : List Value).toArray below meth cO TJ locsJ 0 0 → TJ.heap = h0 → Fr n0 locsJ → Go p e below (fun o t L => FrameEnd s o t L ({ frames := 1, cells := 0, slots := 0, locals := 24 } : Room).cells ({ frames := 1, cells := 0, slots := 0, locals := 24 } : Room).slots) (fun v h L => v = none ∧ Fr n0 L ∧ Keep h0 h [a] ∧ ∃ (ln' co' : Int64) (la' : Int32), nar .char la' = la' ∧ Exa Z h a "gleanwell/Position" ∧ Fld Z h a "gleanwell/Position" "line" "J" (.long ln') ∧ Fld Z h a "gleanwell/Position" "column" "J" (.long co') ∧ Fld Z h a "gleanwell/Position" "last" "C" (.int la')) TJ (mkF m 105 #[.val (.ref a), .val (.ref b), .val (.int (0 : Int32)), .val (.int (2 : Int32)), .val (.long lnJ), .second, .val (.int (0 : Int32)), .val (.int (0 : Int32)), .val (.int (2 : Int32)), .val (.int (0 : Int32)), .unset] []) := by
    intro lnJ TJ locsJ XJ eJ NJ 
    refine g_iload XJ hx 107 (hb hby d3_105) rfl rfl ?_
    refine g_istore XJ hx 109 #[.val (.ref a), .val (.ref b), .val (.int (0 : Int32)), .val (.int (2 : Int32)), .val (.long lnJ), .second, .val (.int (0 : Int32)), .val (.int (0 : Int32)), .val (.int (2 : Int32)), .val (.int (0 : Int32)), .val (.int (0 : Int32))] (hb hby d3_107) rfl rfl ?_
    refine g_iload XJ hx 111 (hb hby d3_109) rfl rfl ?_
    refine g_iloadN XJ hx 112 (hb hby d3_111) rfl rfl ?_
    refine g_icF XJ hx 115 (hb hby d3_112) (by decide) rfl ?_
    refine g_aloadN XJ hx 116 (hb hby d3_115) rfl rfl rfl ?_
    refine g_iload XJ hx 118 (hb hby d3_116) rfl rfl ?_
    refine g_caload XJ hx 119 hZ eJ V_b ⟨by decide, by decide⟩ (show _ = (.int c0) from rfl) (hb hby d3_118) rfl ?_
    refine g_callS XJ hx 122 hZ hown (own_w hw 22 rfl) (own_w hw 23 rfl) (own_w hw 24 rfl) (own_w hw 25 rfl) (by decide) [(.int c0)] [] (rm5 l Z a0 hw c0 h0 n0 Z0) eJ 0 (by decide) (by decide) (by decide) (by decide) (by rw [hml]; rfl) (lenOf own_pd0 rfl) (hb hby d3_119) rfl (Nat.le_of_eq rfl) rfl (fun v1 T1 L1 X1 hQ1 => ?_)
    obtain ⟨rfl, N1q, e1⟩ := hQ1
    have N1 := Fr.app NJ N1q
    show Go p e below _ _ T1 (mkF m 122 #[.val (.ref a), .val (.ref b), .val (.int (0 : Int32)), .val (.int (2 : Int32)), .val (.long lnJ), .second, .val (.int (0 : Int32)), .val (.int (0 : Int32)), .val (.int (2 : Int32)), .val (.int (0 : Int32)), .val (.int (0 : Int32))] [(.int (own_low c0))])
    by_cases hc2 : (own_low c0) = (0 : Int32)
    · refine g_ifT X1 hx 142 (hb hby d3_122) ((if0 _ _).trans (teq hc2).1) (by decide) (by decide) ?_
      refine g_iinc X1 hx 145 (1 : Int32) #[.val (.ref a), .val (.ref b), .val (.int (0 : Int32)), .val (.int (2 : Int32)), .val (.long lnJ), .second, .val (.int (0 : Int32)), .val (.int (0 : Int32)), .val (.int (2 : Int32)), .val (.int (0 : Int32)), .val (.int (1 : Int32))] (hb hby d3_142) rfl (by decide) rfl rfl ?_
      refine g_goto X1 hx 109 (hb hby d3_145) (by decide) (by decide) ?_
      refine g_iload X1 hx 111 (hb hby d3_109) rfl rfl ?_
      refine g_iloadN X1 hx 112 (hb hby d3_111) rfl rfl ?_
      refine g_icF X1 hx 115 (hb hby d3_112) (by decide) rfl ?_
      refine g_aloadN X1 hx 116 (hb hby d3_115) rfl rfl rfl ?_
      refine g_iload X1 hx 118 (hb hby d3_116) rfl rfl ?_
      refine g_caload X1 hx 119 hZ e1 V_b ⟨by decide, by decide⟩ (show _ = (.int c1) from rfl) (hb hby d3_118) rfl ?_
      refine g_callS X1 hx 122 hZ hown (own_w hw 22 rfl) (own_w hw 23 rfl) (own_w hw 24 rfl) (own_w hw 25 rfl) (by decide) [(.int c1)] [] (rm5 l Z a0 hw c1 h0 n0 Z0) e1 0 (by decide) (by decide) (by decide) (by decide) (by rw [hml]; rfl) (lenOf own_pd0 rfl) (hb hby d3_119) rfl (Nat.le_of_eq rfl) rfl (fun v3 T3 L3 X3 hQ3 => ?_)
      obtain ⟨rfl, N3q, e3⟩ := hQ3
      have N3 := Fr.app N1 N3q
      show Go p e below _ _ T3 (mkF m 122 #[.val (.ref a), .val (.ref b), .val (.int (0 : Int32)), .val (.int (2 : Int32)), .val (.long lnJ), .second, .val (.int (0 : Int32)), .val (.int (0 : Int32)), .val (.int (2 : Int32)), .val (.int (0 : Int32)), .val (.int (1 : Int32))] [(.int (own_low c1))])
      by_cases hc4 : (own_low c1) = (0 : Int32)
      · refine g_ifT X3 hx 142 (hb hby d3_122) ((if0 _ _).trans (teq hc4).1) (by decide) (by decide) ?_
        refine g_iinc X3 hx 145 (2 : Int32) #[.val (.ref a), .val (.ref b), .val (.int (0 : Int32)), .val (.int (2 : Int32)), .val (.long lnJ), .second, .val (.int (0 : Int32)), .val (.int (0 : Int32)), .val (.int (2 : Int32)), .val (.int (0 : Int32)), .val (.int (2 : Int32))] (hb hby d3_142) rfl (by decide) rfl rfl ?_
        refine g_goto X3 hx 109 (hb hby d3_145) (by decide) (by decide) ?_
        refine g_iload X3 hx 111 (hb hby d3_109) rfl rfl ?_
        refine g_iloadN X3 hx 112 (hb hby d3_111) rfl rfl ?_
        refine g_icT X3 hx 148 (hb hby d3_112) (by decide) (by decide) (by decide) ?_
        refine g_aloadN X3 hx 149 (hb hby d3_148) rfl rfl rfl ?_
        refine g_lload X3 hx 151 (hb hby d3_149) rfl rfl ?_
        refine g_putF X3 hx 154 hZ hown (host := "") (Or.inl (own_w hw 10 rfl)) Via.refl e3 F_ln E_a (Or.inl (own_w hw 11 rfl)) (own_w hw 2 rfl) (ty := .long) (by decide) rfl rfl (hb hby d3_151) rfl (fun T5 h5 X5 e5 W5 => ?_)
        have E_a := E_a.wr W5
        have F_ln := F_ln.same W5
        have F_co := F_co.other W5 (Or.inr (slot_ne (Or.inl (own_w hw 13 rfl)) (Or.inl (own_w hw 11 rfl)) (by decide) (t := .long) (t' := .long) (by decide) (by decide)))
        have F_la := F_la.other W5 (Or.inr (slot_ne (Or.inl (own_w hw 28 rfl)) (Or.inl (own_w hw 11 rfl)) (by decide) (t := .char) (t' := .long) (by decide) (by decide)))
        have V_b := V_b.other W5 (Ne.symm ne_a_b)
        have N5 := Fr.snoc X5 N3 g_a
        have Z5 : n0 ≤ h5.size := by rw [W5.size]; exact Z0
        have K5 := K0.wr W5 (Or.inl (List.mem_of_getElem? (i := 0) rfl))
        refine g_aloadN X5 hx 155 (hb hby d3_154) rfl rfl rfl ?_
        refine g_iload X5 hx 157 (hb hby d3_155) rfl rfl ?_
        refine g_ifT X5 hx 164 (hb hby d3_157) (by decide) (by decide) (by decide) ?_
        refine g_aloadN X5 hx 165 (hb hby d3_164) rfl rfl rfl ?_
        refine g_getF X5 hx 168 hZ hown (host := "") (Or.inl (own_w hw 12 rfl)) Via.refl e5 F_co (hb hby d3_165) rfl (fun T6 X6 e6 => ?_)
        refine g_iloadN X6 hx 169 (hb hby d3_168) rfl rfl ?_
        refine g_iload X6 hx 171 (hb hby d3_169) rfl rfl ?_
        refine g_isub X6 hx 172 (2 : Int32) (hb hby d3_171) (by decide) rfl ?_
        refine g_i2l X6 hx 173 (2 : Int64) (hb hby d3_172) (by decide) rfl ?_
        refine g_ladd X6 hx 174 (co + (2 : Int64)) (hb hby d3_173) rfl rfl ?_
        refine g_iload X6 hx 176 (hb hby d3_174) rfl rfl ?_
        refine g_i2l X6 hx 177 (0 : Int64) (hb hby d3_176) (by decide) rfl ?_
        refine g_lsub X6 hx 178 ((co + (2 : Int64)) - (0 : Int64)) (hb hby d3_177) rfl rfl ?_
        refine g_putF X6 hx 181 hZ hown (host := "") (Or.inl (own_w hw 12 rfl)) Via.refl e6 F_co E_a (Or.inl (own_w hw 13 rfl)) (own_w hw 2 rfl) (ty := .long) (by decide) rfl rfl (hb hby d3_178) rfl (fun T7 h7 X7 e7 W7 => ?_)
        have E_a := E_a.wr W7
        have F_ln := F_ln.other W7 (Or.inr (slot_ne (Or.inl (own_w hw 11 rfl)) (Or.inl (own_w hw 13 rfl)) (by decide) (t := .long) (t' := .long) (by decide) (by decide)))
        have F_co := F_co.same W7
        have F_la := F_la.other W7 (Or.inr (slot_ne (Or.inl (own_w hw 28 rfl)) (Or.inl (own_w hw 13 rfl)) (by decide) (t := .char) (t' := .long) (by decide) (by decide)))
        have V_b := V_b.other W7 (Ne.symm ne_a_b)
        have N7 := Fr.snoc X7 N5 g_a
        have Z7 : n0 ≤ h7.size := by rw [W7.size]; exact Z5
        have K7 := K5.wr W7 (Or.inl (List.mem_of_getElem? (i := 0) rfl))
        refine g_aloadN X7 hx 182 (hb hby d3_181) rfl rfl rfl ?_
        refine g_aloadN X7 hx 183 (hb hby d3_182) rfl rfl rfl ?_
        refine g_iloadN X7 hx 184 (hb hby d3_183) rfl rfl ?_
        refine g_iconst X7 hx 185 (1 : Int32) (hb hby d3_184) (by decide) rfl ?_
        refine g_isub X7 hx 186 (1 : Int32) (hb hby d3_185) (by decide) rfl ?_
        refine g_caload X7 hx 187 hZ e7 V_b ⟨by decide, by decide⟩ (show _ = (.int c1) from rfl) (hb hby d3_186) rfl ?_
        refine g_putF X7 hx 190 hZ hown (host := "") (Or.inl (own_w hw 27 rfl)) Via.refl e7 F_la E_a (Or.inl (own_w hw 28 rfl)) (own_w hw 2 rfl) (ty := .char) (by decide) (own_nrw hcc1) (own_fit hcc1) (hb hby d3_187) rfl (fun T8 h8 X8 e8 W8 => ?_)
        have E_a := E_a.wr W8
        have F_ln := F_ln.other W8 (Or.inr (slot_ne (Or.inl (own_w hw 11 rfl)) (Or.inl (own_w hw 28 rfl)) (by decide) (t := .long) (t' := .char) (by decide) (by decide)))
        have F_co := F_co.other W8 (Or.inr (slot_ne (Or.inl (own_w hw 13 rfl)) (Or.inl (own_w hw 28 rfl)) (by decide) (t := .long) (t' := .char) (by decide) (by decide)))
        have F_la := F_la.same W8
        have V_b := V_b.other W8 (Ne.symm ne_a_b)
        have N8 := Fr.snoc X8 N7 g_a
        have Z8 : n0 ≤ h8.size := by rw [W8.size]; exact Z7
        have K8 := K7.wr W8 (Or.inl (List.mem_of_getElem? (i := 0) rfl))
        exact g_retV X8 hx hret hlk (hb hby d3_190) (by decide) (by decide) (by rw [e8]; exact ⟨rfl, N8, K8, _, _, _, hcc1, E_a, F_ln, F_co, F_la⟩)
      · refine g_ifF X3 hx 125 (hb hby d3_122) ((if0 _ _).trans (feq hc4).1) rfl ?_
        refine g_aloadN X3 hx 126 (hb hby d3_125) rfl rfl rfl ?_
        refine g_aloadN X3 hx 127 (hb hby d3_126) rfl rfl rfl ?_
        refine g_iloadN X3 hx 128 (hb hby d3_127) rfl rfl ?_
        refine g_iload X3 hx 130 (hb hby d3_128) rfl rfl ?_
        refine g_callP X3 hx 133 hZ hown (own_w hw 49 rfl) (own_w hw 50 rfl) (own_w hw 51 rfl) (own_w hw 17 rfl) rfl (own_w hw 3 rfl) (own_w hw 52 rfl) (by decide) a E_a [(.ref b), (.int (0 : Int32)), (.int (1 : Int32))] [] (rm10_2_1 l Z a0 hw a b la c0 c1 kA h0 n0 Z0 F_la V_b hcc0) e3 0 (by decide) (by decide) (by decide) (by decide) (by rw [hml]; rfl) (lenOf own_pd1 rfl) (hb hby d3_130) rfl (Nat.le_of_eq rfl) rfl (fun v9 T9 L9 X9 hQ9 => ?_)
        obtain ⟨rfl, N9q, e9⟩ := hQ9
        have N9 := Fr.app N3 N9q
        show Go p e below _ _ T9 (mkF m 133 #[.val (.ref a), .val (.ref b), .val (.int (0 : Int32)), .val (.int (2 : Int32)), .val (.long lnJ), .second, .val (.int (0 : Int32)), .val (.int (0 : Int32)), .val (.int (2 : Int32)), .val (.int (0 : Int32)), .val (.int (1 : Int32))] [(.int c0)])
        refine g_callS X9 hx 136 hZ hown (own_w hw 58 rfl) (own_w hw 59 rfl) (own_w hw 24 rfl) (own_w hw 60 rfl) (by decide) [(.int c0)] [] (rm12 l Z a0 hw c0 h0 n0 Z0) e9 0 (by decide) (by decide) (by decide) (by decide) (by rw [hml]; rfl) (lenOf own_pd0 rfl) (hb hby d3_133) rfl (Nat.le_of_eq rfl) rfl (fun v10 T10 L10 X10 hQ10 => ?_)
        obtain ⟨rfl, N10q, e10⟩ := hQ10
        have N10 := Fr.app N9 N10q
        show Go p e below _ _ T10 (mkF m 136 #[.val (.ref a), .val (.ref b), .val (.int (0 : Int32)), .val (.int (2 : Int32)), .val (.long lnJ), .second, .val (.int (0 : Int32)), .val (.int (0 : Int32)), .val (.int (2 : Int32)), .val (.int (0 : Int32)), .val (.int (1 : Int32))] [(.int (own_high c0))])
        by_cases hc11 : (own_high c0) = (0 : Int32)
        · refine g_ifT X10 hx 142 (hb hby d3_136) ((if0 _ _).trans (teq hc11).1) (by decide) (by decide) ?_
          refine g_iinc X10 hx 145 (2 : Int32) #[.val (.ref a), .val (.ref b), .val (.int (0 : Int32)), .val (.int (2 : Int32)), .val (.long lnJ), .second, .val (.int (0 : Int32)), .val (.int (0 : Int32)), .val (.int (2 : Int32)), .val (.int (0 : Int32)), .val (.int (2 : Int32))] (hb hby d3_142) rfl (by decide) rfl rfl ?_
          refine g_goto X10 hx 109 (hb hby d3_145) (by decide) (by decide) ?_
          refine g_iload X10 hx 111 (hb hby d3_109) rfl rfl ?_
          refine g_iloadN X10 hx 112 (hb hby d3_111) rfl rfl ?_
          refine g_icT X10 hx 148 (hb hby d3_112) (by decide) (by decide) (by decide) ?_
          refine g_aloadN X10 hx 149 (hb hby d3_148) rfl rfl rfl ?_
          refine g_lload X10 hx 151 (hb hby d3_149) rfl rfl ?_
          refine g_putF X10 hx 154 hZ hown (host := "") (Or.inl (own_w hw 10 rfl)) Via.refl e10 F_ln E_a (Or.inl (own_w hw 11 rfl)) (own_w hw 2 rfl) (ty := .long) (by decide) rfl rfl (hb hby d3_151) rfl (fun T12 h12 X12 e12 W12 => ?_)
          have E_a := E_a.wr W12
          have F_ln := F_ln.same W12
          have F_co := F_co.other W12 (Or.inr (slot_ne (Or.inl (own_w hw 13 rfl)) (Or.inl (own_w hw 11 rfl)) (by decide) (t := .long) (t' := .long) (by decide) (by decide)))
          have F_la := F_la.other W12 (Or.inr (slot_ne (Or.inl (own_w hw 28 rfl)) (Or.inl (own_w hw 11 rfl)) (by decide) (t := .char) (t' := .long) (by decide) (by decide)))
          have V_b := V_b.other W12 (Ne.symm ne_a_b)
          have N12 := Fr.snoc X12 N10 g_a
          have Z12 : n0 ≤ h12.size := by rw [W12.size]; exact Z0
          have K12 := K0.wr W12 (Or.inl (List.mem_of_getElem? (i := 0) rfl))
          refine g_aloadN X12 hx 155 (hb hby d3_154) rfl rfl rfl ?_
          refine g_iload X12 hx 157 (hb hby d3_155) rfl rfl ?_
          refine g_ifT X12 hx 164 (hb hby d3_157) (by decide) (by decide) (by decide) ?_
          refine g_aloadN X12 hx 165 (hb hby d3_164) rfl rfl rfl ?_
          refine g_getF X12 hx 168 hZ hown (host := "") (Or.inl (own_w hw 12 rfl)) Via.refl e12 F_co (hb hby d3_165) rfl (fun T13 X13 e13 => ?_)
          refine g_iloadN X13 hx 169 (hb hby d3_168) rfl rfl ?_
          refine g_iload X13 hx 171 (hb hby d3_169) rfl rfl ?_
          refine g_isub X13 hx 172 (2 : Int32) (hb hby d3_171) (by decide) rfl ?_
          refine g_i2l X13 hx 173 (2 : Int64) (hb hby d3_172) (by decide) rfl ?_
          refine g_ladd X13 hx 174 (co + (2 : Int64)) (hb hby d3_173) rfl rfl ?_
          refine g_iload X13 hx 176 (hb hby d3_174) rfl rfl ?_
          refine g_i2l X13 hx 177 (0 : Int64) (hb hby d3_176) (by decide) rfl ?_
          refine g_lsub X13 hx 178 ((co + (2 : Int64)) - (0 : Int64)) (hb hby d3_177) rfl rfl ?_
          refine g_putF X13 hx 181 hZ hown (host := "") (Or.inl (own_w hw 12 rfl)) Via.refl e13 F_co E_a (Or.inl (own_w hw 13 rfl)) (own_w hw 2 rfl) (ty := .long) (by decide) rfl rfl (hb hby d3_178) rfl (fun T14 h14 X14 e14 W14 => ?_)
          have E_a := E_a.wr W14
          have F_ln := F_ln.other W14 (Or.inr (slot_ne (Or.inl (own_w hw 11 rfl)) (Or.inl (own_w hw 13 rfl)) (by decide) (t := .long) (t' := .long) (by decide) (by decide)))
          have F_co := F_co.same W14
          have F_la := F_la.other W14 (Or.inr (slot_ne (Or.inl (own_w hw 28 rfl)) (Or.inl (own_w hw 13 rfl)) (by decide) (t := .char) (t' := .long) (by decide) (by decide)))
          have V_b := V_b.other W14 (Ne.symm ne_a_b)
          have N14 := Fr.snoc X14 N12 g_a
          have Z14 : n0 ≤ h14.size := by rw [W14.size]; exact Z12
          have K14 := K12.wr W14 (Or.inl (List.mem_of_getElem? (i := 0) rfl))
          refine g_aloadN X14 hx 182 (hb hby d3_181) rfl rfl rfl ?_
          refine g_aloadN X14 hx 183 (hb hby d3_182) rfl rfl rfl ?_
          refine g_iloadN X14 hx 184 (hb hby d3_183) rfl rfl ?_
          refine g_iconst X14 hx 185 (1 : Int32) (hb hby d3_184) (by decide) rfl ?_
          refine g_isub X14 hx 186 (1 : Int32) (hb hby d3_185) (by decide) rfl ?_
          refine g_caload X14 hx 187 hZ e14 V_b ⟨by decide, by decide⟩ (show _ = (.int c1) from rfl) (hb hby d3_186) rfl ?_
          refine g_putF X14 hx 190 hZ hown (host := "") (Or.inl (own_w hw 27 rfl)) Via.refl e14 F_la E_a (Or.inl (own_w hw 28 rfl)) (own_w hw 2 rfl) (ty := .char) (by decide) (own_nrw hcc1) (own_fit hcc1) (hb hby d3_187) rfl (fun T15 h15 X15 e15 W15 => ?_)
          have E_a := E_a.wr W15
          have F_ln := F_ln.other W15 (Or.inr (slot_ne (Or.inl (own_w hw 11 rfl)) (Or.inl (own_w hw 28 rfl)) (by decide) (t := .long) (t' := .char) (by decide) (by decide)))
          have F_co := F_co.other W15 (Or.inr (slot_ne (Or.inl (own_w hw 13 rfl)) (Or.inl (own_w hw 28 rfl)) (by decide) (t := .long) (t' := .char) (by decide) (by decide)))
          have F_la := F_la.same W15
          have V_b := V_b.other W15 (Ne.symm ne_a_b)
          have N15 := Fr.snoc X15 N14 g_a
          have Z15 : n0 ≤ h15.size := by rw [W15.size]; exact Z14
          have K15 := K14.wr W15 (Or.inl (List.mem_of_getElem? (i := 0) rfl))
          exact g_retV X15 hx hret hlk (hb hby d3_190) (by decide) (by decide) (by rw [e15]; exact ⟨rfl, N15, K15, _, _, _, hcc1, E_a, F_ln, F_co, F_la⟩)
        · refine g_ifF X10 hx 139 (hb hby d3_136) ((if0 _ _).trans (feq hc11).1) rfl ?_
          refine g_iinc X10 hx 142 (1 : Int32) #[.val (.ref a), .val (.ref b), .val (.int (0 : Int32)), .val (.int (2 : Int32)), .val (.long lnJ), .second, .val (.int (0 : Int32)), .val (.int (0 : Int32)), .val (.int (2 : Int32)), .val (.int (1 : Int32)), .val (.int (1 : Int32))] (hb hby d3_139) rfl (by decide) rfl rfl ?_
          refine g_iinc X10 hx 145 (2 : Int32) #[.val (.ref a), .val (.ref b), .val (.int (0 : Int32)), .val (.int (2 : Int32)), .val (.long lnJ), .second, .val (.int (0 : Int32)), .val (.int (0 : Int32)), .val (.int (2 : Int32)), .val (.int (1 : Int32)), .val (.int (2 : Int32))] (hb hby d3_142) rfl (by decide) rfl rfl ?_
          refine g_goto X10 hx 109 (hb hby d3_145) (by decide) (by decide) ?_
          refine g_iload X10 hx 111 (hb hby d3_109) rfl rfl ?_
          refine g_iloadN X10 hx 112 (hb hby d3_111) rfl rfl ?_
          refine g_icT X10 hx 148 (hb hby d3_112) (by decide) (by decide) (by decide) ?_
          refine g_aloadN X10 hx 149 (hb hby d3_148) rfl rfl rfl ?_
          refine g_lload X10 hx 151 (hb hby d3_149) rfl rfl ?_
          refine g_putF X10 hx 154 hZ hown (host := "") (Or.inl (own_w hw 10 rfl)) Via.refl e10 F_ln E_a (Or.inl (own_w hw 11 rfl)) (own_w hw 2 rfl) (ty := .long) (by decide) rfl rfl (hb hby d3_151) rfl (fun T16 h16 X16 e16 W16 => ?_)
          have E_a := E_a.wr W16
          have F_ln := F_ln.same W16
          have F_co := F_co.other W16 (Or.inr (slot_ne (Or.inl (own_w hw 13 rfl)) (Or.inl (own_w hw 11 rfl)) (by decide) (t := .long) (t' := .long) (by decide) (by decide)))
          have F_la := F_la.other W16 (Or.inr (slot_ne (Or.inl (own_w hw 28 rfl)) (Or.inl (own_w hw 11 rfl)) (by decide) (t := .char) (t' := .long) (by decide) (by decide)))
          have V_b := V_b.other W16 (Ne.symm ne_a_b)
          have N16 := Fr.snoc X16 N10 g_a
          have Z16 : n0 ≤ h16.size := by rw [W16.size]; exact Z0
          have K16 := K0.wr W16 (Or.inl (List.mem_of_getElem? (i := 0) rfl))
          refine g_aloadN X16 hx 155 (hb hby d3_154) rfl rfl rfl ?_
          refine g_iload X16 hx 157 (hb hby d3_155) rfl rfl ?_
          refine g_ifT X16 hx 164 (hb hby d3_157) (by decide) (by decide) (by decide) ?_
          refine g_aloadN X16 hx 165 (hb hby d3_164) rfl rfl rfl ?_
          refine g_getF X16 hx 168 hZ hown (host := "") (Or.inl (own_w hw 12 rfl)) Via.refl e16 F_co (hb hby d3_165) rfl (fun T17 X17 e17 => ?_)
          refine g_iloadN X17 hx 169 (hb hby d3_168) rfl rfl ?_
          refine g_iload X17 hx 171 (hb hby d3_169) rfl rfl ?_
          refine g_isub X17 hx 172 (2 : Int32) (hb hby d3_171) (by decide) rfl ?_
          refine g_i2l X17 hx 173 (2 : Int64) (hb hby d3_172) (by decide) rfl ?_
          refine g_ladd X17 hx 174 (co + (2 : Int64)) (hb hby d3_173) rfl rfl ?_
          refine g_iload X17 hx 176 (hb hby d3_174) rfl rfl ?_
          refine g_i2l X17 hx 177 (1 : Int64) (hb hby d3_176) (by decide) rfl ?_
          refine g_lsub X17 hx 178 ((co + (2 : Int64)) - (1 : Int64)) (hb hby d3_177) rfl rfl ?_
          refine g_putF X17 hx 181 hZ hown (host := "") (Or.inl (own_w hw 12 rfl)) Via.refl e17 F_co E_a (Or.inl (own_w hw 13 rfl)) (own_w hw 2 rfl) (ty := .long) (by decide) rfl rfl (hb hby d3_178) rfl (fun T18 h18 X18 e18 W18 => ?_)
          have E_a := E_a.wr W18
          have F_ln := F_ln.other W18 (Or.inr (slot_ne (Or.inl (own_w hw 11 rfl)) (Or.inl (own_w hw 13 rfl)) (by decide) (t := .long) (t' := .long) (by decide) (by decide)))
          have F_co := F_co.same W18
          have F_la := F_la.other W18 (Or.inr (slot_ne (Or.inl (own_w hw 28 rfl)) (Or.inl (own_w hw 13 rfl)) (by decide) (t := .char) (t' := .long) (by decide) (by decide)))
          have V_b := V_b.other W18 (Ne.symm ne_a_b)
          have N18 := Fr.snoc X18 N16 g_a
          have Z18 : n0 ≤ h18.size := by rw [W18.size]; exact Z16
          have K18 := K16.wr W18 (Or.inl (List.mem_of_getElem? (i := 0) rfl))
          refine g_aloadN X18 hx 182 (hb hby d3_181) rfl rfl rfl ?_
          refine g_aloadN X18 hx 183 (hb hby d3_182) rfl rfl rfl ?_
          refine g_iloadN X18 hx 184 (hb hby d3_183) rfl rfl ?_
          refine g_iconst X18 hx 185 (1 : Int32) (hb hby d3_184) (by decide) rfl ?_
          refine g_isub X18 hx 186 (1 : Int32) (hb hby d3_185) (by decide) rfl ?_
          refine g_caload X18 hx 187 hZ e18 V_b ⟨by decide, by decide⟩ (show _ = (.int c1) from rfl) (hb hby d3_186) rfl ?_
          refine g_putF X18 hx 190 hZ hown (host := "") (Or.inl (own_w hw 27 rfl)) Via.refl e18 F_la E_a (Or.inl (own_w hw 28 rfl)) (own_w hw 2 rfl) (ty := .char) (by decide) (own_nrw hcc1) (own_fit hcc1) (hb hby d3_187) rfl (fun T19 h19 X19 e19 W19 => ?_)
          have E_a := E_a.wr W19
          have F_ln := F_ln.other W19 (Or.inr (slot_ne (Or.inl (own_w hw 11 rfl)) (Or.inl (own_w hw 28 rfl)) (by decide) (t := .long) (t' := .char) (by decide) (by decide)))
          have F_co := F_co.other W19 (Or.inr (slot_ne (Or.inl (own_w hw 13 rfl)) (Or.inl (own_w hw 28 rfl)) (by decide) (t := .long) (t' := .char) (by decide) (by decide)))
          have F_la := F_la.same W19
          have V_b := V_b.other W19 (Ne.symm ne_a_b)
          have N19 := Fr.snoc X19 N18 g_a
          have Z19 : n0 ≤ h19.size := by rw [W19.size]; exact Z18
          have K19 := K18.wr W19 (Or.inl (List.mem_of_getElem? (i := 0) rfl))
          exact g_retV X19 hx hret hlk (hb hby d3_190) (by decide) (by decide) (by rw [e19]; exact ⟨rfl, N19, K19, _, _, _, hcc1, E_a, F_ln, F_co, F_la⟩)
    · refine g_ifF X1 hx 125 (hb hby d3_122) ((if0 _ _).trans (feq hc2).1) rfl ?_
      refine g_aloadN X1 hx 126 (hb hby d3_125) rfl rfl rfl ?_
      refine g_aloadN X1 hx 127 (hb hby d3_126) rfl rfl rfl ?_
      refine g_iloadN X1 hx 128 (hb hby d3_127) rfl rfl ?_
      refine g_iload X1 hx 130 (hb hby d3_128) rfl rfl ?_
      refine g_callP X1 hx 133 hZ hown (own_w hw 49 rfl) (own_w hw 50 rfl) (own_w hw 51 rfl) (own_w hw 17 rfl) rfl (own_w hw 3 rfl) (own_w hw 52 rfl) (by decide) a E_a [(.ref b), (.int (0 : Int32)), (.int (0 : Int32))] [] (rm10_2_0 l Z a0 hw a b la c0 c1 kA h0 n0 Z0 F_la V_b hla) e1 0 (by decide) (by decide) (by decide) (by decide) (by rw [hml]; rfl) (lenOf own_pd1 rfl) (hb hby d3_130) rfl (Nat.le_of_eq rfl) rfl (fun v20 T20 L20 X20 hQ20 => ?_)
      obtain ⟨rfl, N20q, e20⟩ := hQ20
      have N20 := Fr.app N1 N20q
      show Go p e below _ _ T20 (mkF m 133 #[.val (.ref a), .val (.ref b), .val (.int (0 : Int32)), .val (.int (2 : Int32)), .val (.long lnJ), .second, .val (.int (0 : Int32)), .val (.int (0 : Int32)), .val (.int (2 : Int32)), .val (.int (0 : Int32)), .val (.int (0 : Int32))] [(.int la)])
      refine g_callS X20 hx 136 hZ hown (own_w hw 58 rfl) (own_w hw 59 rfl) (own_w hw 24 rfl) (own_w hw 60 rfl) (by decide) [(.int la)] [] (rm12 l Z a0 hw la h0 n0 Z0) e20 0 (by decide) (by decide) (by decide) (by decide) (by rw [hml]; rfl) (lenOf own_pd0 rfl) (hb hby d3_133) rfl (Nat.le_of_eq rfl) rfl (fun v21 T21 L21 X21 hQ21 => ?_)
      obtain ⟨rfl, N21q, e21⟩ := hQ21
      have N21 := Fr.app N20 N21q
      show Go p e below _ _ T21 (mkF m 136 #[.val (.ref a), .val (.ref b), .val (.int (0 : Int32)), .val (.int (2 : Int32)), .val (.long lnJ), .second, .val (.int (0 : Int32)), .val (.int (0 : Int32)), .val (.int (2 : Int32)), .val (.int (0 : Int32)), .val (.int (0 : Int32))] [(.int (own_high la))])
      by_cases hc22 : (own_high la) = (0 : Int32)
      · refine g_ifT X21 hx 142 (hb hby d3_136) ((if0 _ _).trans (teq hc22).1) (by decide) (by decide) ?_
        refine g_iinc X21 hx 145 (1 : Int32) #[.val (.ref a), .val (.ref b), .val (.int (0 : Int32)), .val (.int (2 : Int32)), .val (.long lnJ), .second, .val (.int (0 : Int32)), .val (.int (0 : Int32)), .val (.int (2 : Int32)), .val (.int (0 : Int32)), .val (.int (1 : Int32))] (hb hby d3_142) rfl (by decide) rfl rfl ?_
        refine g_goto X21 hx 109 (hb hby d3_145) (by decide) (by decide) ?_
        refine g_iload X21 hx 111 (hb hby d3_109) rfl rfl ?_
        refine g_iloadN X21 hx 112 (hb hby d3_111) rfl rfl ?_
        refine g_icF X21 hx 115 (hb hby d3_112) (by decide) rfl ?_
        refine g_aloadN X21 hx 116 (hb hby d3_115) rfl rfl rfl ?_
        refine g_iload X21 hx 118 (hb hby d3_116) rfl rfl ?_
        refine g_caload X21 hx 119 hZ e21 V_b ⟨by decide, by decide⟩ (show _ = (.int c1) from rfl) (hb hby d3_118) rfl ?_
        refine g_callS X21 hx 122 hZ hown (own_w hw 22 rfl) (own_w hw 23 rfl) (own_w hw 24 rfl) (own_w hw 25 rfl) (by decide) [(.int c1)] [] (rm5 l Z a0 hw c1 h0 n0 Z0) e21 0 (by decide) (by decide) (by decide) (by decide) (by rw [hml]; rfl) (lenOf own_pd0 rfl) (hb hby d3_119) rfl (Nat.le_of_eq rfl) rfl (fun v23 T23 L23 X23 hQ23 => ?_)
        obtain ⟨rfl, N23q, e23⟩ := hQ23
        have N23 := Fr.app N21 N23q
        show Go p e below _ _ T23 (mkF m 122 #[.val (.ref a), .val (.ref b), .val (.int (0 : Int32)), .val (.int (2 : Int32)), .val (.long lnJ), .second, .val (.int (0 : Int32)), .val (.int (0 : Int32)), .val (.int (2 : Int32)), .val (.int (0 : Int32)), .val (.int (1 : Int32))] [(.int (own_low c1))])
        by_cases hc24 : (own_low c1) = (0 : Int32)
        · refine g_ifT X23 hx 142 (hb hby d3_122) ((if0 _ _).trans (teq hc24).1) (by decide) (by decide) ?_
          refine g_iinc X23 hx 145 (2 : Int32) #[.val (.ref a), .val (.ref b), .val (.int (0 : Int32)), .val (.int (2 : Int32)), .val (.long lnJ), .second, .val (.int (0 : Int32)), .val (.int (0 : Int32)), .val (.int (2 : Int32)), .val (.int (0 : Int32)), .val (.int (2 : Int32))] (hb hby d3_142) rfl (by decide) rfl rfl ?_
          refine g_goto X23 hx 109 (hb hby d3_145) (by decide) (by decide) ?_
          refine g_iload X23 hx 111 (hb hby d3_109) rfl rfl ?_
          refine g_iloadN X23 hx 112 (hb hby d3_111) rfl rfl ?_
          refine g_icT X23 hx 148 (hb hby d3_112) (by decide) (by decide) (by decide) ?_
          refine g_aloadN X23 hx 149 (hb hby d3_148) rfl rfl rfl ?_
          refine g_lload X23 hx 151 (hb hby d3_149) rfl rfl ?_
          refine g_putF X23 hx 154 hZ hown (host := "") (Or.inl (own_w hw 10 rfl)) Via.refl e23 F_ln E_a (Or.inl (own_w hw 11 rfl)) (own_w hw 2 rfl) (ty := .long) (by decide) rfl rfl (hb hby d3_151) rfl (fun T25 h25 X25 e25 W25 => ?_)
          have E_a := E_a.wr W25
          have F_ln := F_ln.same W25
          have F_co := F_co.other W25 (Or.inr (slot_ne (Or.inl (own_w hw 13 rfl)) (Or.inl (own_w hw 11 rfl)) (by decide) (t := .long) (t' := .long) (by decide) (by decide)))
          have F_la := F_la.other W25 (Or.inr (slot_ne (Or.inl (own_w hw 28 rfl)) (Or.inl (own_w hw 11 rfl)) (by decide) (t := .char) (t' := .long) (by decide) (by decide)))
          have V_b := V_b.other W25 (Ne.symm ne_a_b)
          have N25 := Fr.snoc X25 N23 g_a
          have Z25 : n0 ≤ h25.size := by rw [W25.size]; exact Z0
          have K25 := K0.wr W25 (Or.inl (List.mem_of_getElem? (i := 0) rfl))
          refine g_aloadN X25 hx 155 (hb hby d3_154) rfl rfl rfl ?_
          refine g_iload X25 hx 157 (hb hby d3_155) rfl rfl ?_
          refine g_ifT X25 hx 164 (hb hby d3_157) (by decide) (by decide) (by decide) ?_
          refine g_aloadN X25 hx 165 (hb hby d3_164) rfl rfl rfl ?_
          refine g_getF X25 hx 168 hZ hown (host := "") (Or.inl (own_w hw 12 rfl)) Via.refl e25 F_co (hb hby d3_165) rfl (fun T26 X26 e26 => ?_)
          refine g_iloadN X26 hx 169 (hb hby d3_168) rfl rfl ?_
          refine g_iload X26 hx 171 (hb hby d3_169) rfl rfl ?_
          refine g_isub X26 hx 172 (2 : Int32) (hb hby d3_171) (by decide) rfl ?_
          refine g_i2l X26 hx 173 (2 : Int64) (hb hby d3_172) (by decide) rfl ?_
          refine g_ladd X26 hx 174 (co + (2 : Int64)) (hb hby d3_173) rfl rfl ?_
          refine g_iload X26 hx 176 (hb hby d3_174) rfl rfl ?_
          refine g_i2l X26 hx 177 (0 : Int64) (hb hby d3_176) (by decide) rfl ?_
          refine g_lsub X26 hx 178 ((co + (2 : Int64)) - (0 : Int64)) (hb hby d3_177) rfl rfl ?_
          refine g_putF X26 hx 181 hZ hown (host := "") (Or.inl (own_w hw 12 rfl)) Via.refl e26 F_co E_a (Or.inl (own_w hw 13 rfl)) (own_w hw 2 rfl) (ty := .long) (by decide) rfl rfl (hb hby d3_178) rfl (fun T27 h27 X27 e27 W27 => ?_)
          have E_a := E_a.wr W27
          have F_ln := F_ln.other W27 (Or.inr (slot_ne (Or.inl (own_w hw 11 rfl)) (Or.inl (own_w hw 13 rfl)) (by decide) (t := .long) (t' := .long) (by decide) (by decide)))
          have F_co := F_co.same W27
          have F_la := F_la.other W27 (Or.inr (slot_ne (Or.inl (own_w hw 28 rfl)) (Or.inl (own_w hw 13 rfl)) (by decide) (t := .char) (t' := .long) (by decide) (by decide)))
          have V_b := V_b.other W27 (Ne.symm ne_a_b)
          have N27 := Fr.snoc X27 N25 g_a
          have Z27 : n0 ≤ h27.size := by rw [W27.size]; exact Z25
          have K27 := K25.wr W27 (Or.inl (List.mem_of_getElem? (i := 0) rfl))
          refine g_aloadN X27 hx 182 (hb hby d3_181) rfl rfl rfl ?_
          refine g_aloadN X27 hx 183 (hb hby d3_182) rfl rfl rfl ?_
          refine g_iloadN X27 hx 184 (hb hby d3_183) rfl rfl ?_
          refine g_iconst X27 hx 185 (1 : Int32) (hb hby d3_184) (by decide) rfl ?_
          refine g_isub X27 hx 186 (1 : Int32) (hb hby d3_185) (by decide) rfl ?_
          refine g_caload X27 hx 187 hZ e27 V_b ⟨by decide, by decide⟩ (show _ = (.int c1) from rfl) (hb hby d3_186) rfl ?_
          refine g_putF X27 hx 190 hZ hown (host := "") (Or.inl (own_w hw 27 rfl)) Via.refl e27 F_la E_a (Or.inl (own_w hw 28 rfl)) (own_w hw 2 rfl) (ty := .char) (by decide) (own_nrw hcc1) (own_fit hcc1) (hb hby d3_187) rfl (fun T28 h28 X28 e28 W28 => ?_)
          have E_a := E_a.wr W28
          have F_ln := F_ln.other W28 (Or.inr (slot_ne (Or.inl (own_w hw 11 rfl)) (Or.inl (own_w hw 28 rfl)) (by decide) (t := .long) (t' := .char) (by decide) (by decide)))
          have F_co := F_co.other W28 (Or.inr (slot_ne (Or.inl (own_w hw 13 rfl)) (Or.inl (own_w hw 28 rfl)) (by decide) (t := .long) (t' := .char) (by decide) (by decide)))
          have F_la := F_la.same W28
          have V_b := V_b.other W28 (Ne.symm ne_a_b)
          have N28 := Fr.snoc X28 N27 g_a
          have Z28 : n0 ≤ h28.size := by rw [W28.size]; exact Z27
          have K28 := K27.wr W28 (Or.inl (List.mem_of_getElem? (i := 0) rfl))
          exact g_retV X28 hx hret hlk (hb hby d3_190) (by decide) (by decide) (by rw [e28]; exact ⟨rfl, N28, K28, _, _, _, hcc1, E_a, F_ln, F_co, F_la⟩)
        · refine g_ifF X23 hx 125 (hb hby d3_122) ((if0 _ _).trans (feq hc24).1) rfl ?_
          refine g_aloadN X23 hx 126 (hb hby d3_125) rfl rfl rfl ?_
          refine g_aloadN X23 hx 127 (hb hby d3_126) rfl rfl rfl ?_
          refine g_iloadN X23 hx 128 (hb hby d3_127) rfl rfl ?_
          refine g_iload X23 hx 130 (hb hby d3_128) rfl rfl ?_
          refine g_callP X23 hx 133 hZ hown (own_w hw 49 rfl) (own_w hw 50 rfl) (own_w hw 51 rfl) (own_w hw 17 rfl) rfl (own_w hw 3 rfl) (own_w hw 52 rfl) (by decide) a E_a [(.ref b), (.int (0 : Int32)), (.int (1 : Int32))] [] (rm10_2_1 l Z a0 hw a b la c0 c1 kA h0 n0 Z0 F_la V_b hcc0) e23 0 (by decide) (by decide) (by decide) (by decide) (by rw [hml]; rfl) (lenOf own_pd1 rfl) (hb hby d3_130) rfl (Nat.le_of_eq rfl) rfl (fun v29 T29 L29 X29 hQ29 => ?_)
          obtain ⟨rfl, N29q, e29⟩ := hQ29
          have N29 := Fr.app N23 N29q
          show Go p e below _ _ T29 (mkF m 133 #[.val (.ref a), .val (.ref b), .val (.int (0 : Int32)), .val (.int (2 : Int32)), .val (.long lnJ), .second, .val (.int (0 : Int32)), .val (.int (0 : Int32)), .val (.int (2 : Int32)), .val (.int (0 : Int32)), .val (.int (1 : Int32))] [(.int c0)])
          refine g_callS X29 hx 136 hZ hown (own_w hw 58 rfl) (own_w hw 59 rfl) (own_w hw 24 rfl) (own_w hw 60 rfl) (by decide) [(.int c0)] [] (rm12 l Z a0 hw c0 h0 n0 Z0) e29 0 (by decide) (by decide) (by decide) (by decide) (by rw [hml]; rfl) (lenOf own_pd0 rfl) (hb hby d3_133) rfl (Nat.le_of_eq rfl) rfl (fun v30 T30 L30 X30 hQ30 => ?_)
          obtain ⟨rfl, N30q, e30⟩ := hQ30
          have N30 := Fr.app N29 N30q
          show Go p e below _ _ T30 (mkF m 136 #[.val (.ref a), .val (.ref b), .val (.int (0 : Int32)), .val (.int (2 : Int32)), .val (.long lnJ), .second, .val (.int (0 : Int32)), .val (.int (0 : Int32)), .val (.int (2 : Int32)), .val (.int (0 : Int32)), .val (.int (1 : Int32))] [(.int (own_high c0))])
          by_cases hc31 : (own_high c0) = (0 : Int32)
          · refine g_ifT X30 hx 142 (hb hby d3_136) ((if0 _ _).trans (teq hc31).1) (by decide) (by decide) ?_
            refine g_iinc X30 hx 145 (2 : Int32) #[.val (.ref a), .val (.ref b), .val (.int (0 : Int32)), .val (.int (2 : Int32)), .val (.long lnJ), .second, .val (.int (0 : Int32)), .val (.int (0 : Int32)), .val (.int (2 : Int32)), .val (.int (0 : Int32)), .val (.int (2 : Int32))] (hb hby d3_142) rfl (by decide) rfl rfl ?_
            refine g_goto X30 hx 109 (hb hby d3_145) (by decide) (by decide) ?_
            refine g_iload X30 hx 111 (hb hby d3_109) rfl rfl ?_
            refine g_iloadN X30 hx 112 (hb hby d3_111) rfl rfl ?_
            refine g_icT X30 hx 148 (hb hby d3_112) (by decide) (by decide) (by decide) ?_
            refine g_aloadN X30 hx 149 (hb hby d3_148) rfl rfl rfl ?_
            refine g_lload X30 hx 151 (hb hby d3_149) rfl rfl ?_
            refine g_putF X30 hx 154 hZ hown (host := "") (Or.inl (own_w hw 10 rfl)) Via.refl e30 F_ln E_a (Or.inl (own_w hw 11 rfl)) (own_w hw 2 rfl) (ty := .long) (by decide) rfl rfl (hb hby d3_151) rfl (fun T32 h32 X32 e32 W32 => ?_)
            have E_a := E_a.wr W32
            have F_ln := F_ln.same W32
            have F_co := F_co.other W32 (Or.inr (slot_ne (Or.inl (own_w hw 13 rfl)) (Or.inl (own_w hw 11 rfl)) (by decide) (t := .long) (t' := .long) (by decide) (by decide)))
            have F_la := F_la.other W32 (Or.inr (slot_ne (Or.inl (own_w hw 28 rfl)) (Or.inl (own_w hw 11 rfl)) (by decide) (t := .char) (t' := .long) (by decide) (by decide)))
            have V_b := V_b.other W32 (Ne.symm ne_a_b)
            have N32 := Fr.snoc X32 N30 g_a
            have Z32 : n0 ≤ h32.size := by rw [W32.size]; exact Z0
            have K32 := K0.wr W32 (Or.inl (List.mem_of_getElem? (i := 0) rfl))
            refine g_aloadN X32 hx 155 (hb hby d3_154) rfl rfl rfl ?_
            refine g_iload X32 hx 157 (hb hby d3_155) rfl rfl ?_
            refine g_ifT X32 hx 164 (hb hby d3_157) (by decide) (by decide) (by decide) ?_
            refine g_aloadN X32 hx 165 (hb hby d3_164) rfl rfl rfl ?_
            refine g_getF X32 hx 168 hZ hown (host := "") (Or.inl (own_w hw 12 rfl)) Via.refl e32 F_co (hb hby d3_165) rfl (fun T33 X33 e33 => ?_)
            refine g_iloadN X33 hx 169 (hb hby d3_168) rfl rfl ?_
            refine g_iload X33 hx 171 (hb hby d3_169) rfl rfl ?_
            refine g_isub X33 hx 172 (2 : Int32) (hb hby d3_171) (by decide) rfl ?_
            refine g_i2l X33 hx 173 (2 : Int64) (hb hby d3_172) (by decide) rfl ?_
            refine g_ladd X33 hx 174 (co + (2 : Int64)) (hb hby d3_173) rfl rfl ?_
            refine g_iload X33 hx 176 (hb hby d3_174) rfl rfl ?_
            refine g_i2l X33 hx 177 (0 : Int64) (hb hby d3_176) (by decide) rfl ?_
            refine g_lsub X33 hx 178 ((co + (2 : Int64)) - (0 : Int64)) (hb hby d3_177) rfl rfl ?_
            refine g_putF X33 hx 181 hZ hown (host := "") (Or.inl (own_w hw 12 rfl)) Via.refl e33 F_co E_a (Or.inl (own_w hw 13 rfl)) (own_w hw 2 rfl) (ty := .long) (by decide) rfl rfl (hb hby d3_178) rfl (fun T34 h34 X34 e34 W34 => ?_)
            have E_a := E_a.wr W34
            have F_ln := F_ln.other W34 (Or.inr (slot_ne (Or.inl (own_w hw 11 rfl)) (Or.inl (own_w hw 13 rfl)) (by decide) (t := .long) (t' := .long) (by decide) (by decide)))
            have F_co := F_co.same W34
            have F_la := F_la.other W34 (Or.inr (slot_ne (Or.inl (own_w hw 28 rfl)) (Or.inl (own_w hw 13 rfl)) (by decide) (t := .char) (t' := .long) (by decide) (by decide)))
            have V_b := V_b.other W34 (Ne.symm ne_a_b)
            have N34 := Fr.snoc X34 N32 g_a
            have Z34 : n0 ≤ h34.size := by rw [W34.size]; exact Z32
            have K34 := K32.wr W34 (Or.inl (List.mem_of_getElem? (i := 0) rfl))
            refine g_aloadN X34 hx 182 (hb hby d3_181) rfl rfl rfl ?_
            refine g_aloadN X34 hx 183 (hb hby d3_182) rfl rfl rfl ?_
            refine g_iloadN X34 hx 184 (hb hby d3_183) rfl rfl ?_
            refine g_iconst X34 hx 185 (1 : Int32) (hb hby d3_184) (by decide) rfl ?_
            refine g_isub X34 hx 186 (1 : Int32) (hb hby d3_185) (by decide) rfl ?_
            refine g_caload X34 hx 187 hZ e34 V_b ⟨by decide, by decide⟩ (show _ = (.int c1) from rfl) (hb hby d3_186) rfl ?_
            refine g_putF X34 hx 190 hZ hown (host := "") (Or.inl (own_w hw 27 rfl)) Via.refl e34 F_la E_a (Or.inl (own_w hw 28 rfl)) (own_w hw 2 rfl) (ty := .char) (by decide) (own_nrw hcc1) (own_fit hcc1) (hb hby d3_187) rfl (fun T35 h35 X35 e35 W35 => ?_)
            have E_a := E_a.wr W35
            have F_ln := F_ln.other W35 (Or.inr (slot_ne (Or.inl (own_w hw 11 rfl)) (Or.inl (own_w hw 28 rfl)) (by decide) (t := .long) (t' := .char) (by decide) (by decide)))
            have F_co := F_co.other W35 (Or.inr (slot_ne (Or.inl (own_w hw 13 rfl)) (Or.inl (own_w hw 28 rfl)) (by decide) (t := .long) (t' := .char) (by decide) (by decide)))
            have F_la := F_la.same W35
            have V_b := V_b.other W35 (Ne.symm ne_a_b)
            have N35 := Fr.snoc X35 N34 g_a
            have Z35 : n0 ≤ h35.size := by rw [W35.size]; exact Z34
            have K35 := K34.wr W35 (Or.inl (List.mem_of_getElem? (i := 0) rfl))
            exact g_retV X35 hx hret hlk (hb hby d3_190) (by decide) (by decide) (by rw [e35]; exact ⟨rfl, N35, K35, _, _, _, hcc1, E_a, F_ln, F_co, F_la⟩)
          · refine g_ifF X30 hx 139 (hb hby d3_136) ((if0 _ _).trans (feq hc31).1) rfl ?_
            refine g_iinc X30 hx 142 (1 : Int32) #[.val (.ref a), .val (.ref b), .val (.int (0 : Int32)), .val (.int (2 : Int32)), .val (.long lnJ), .second, .val (.int (0 : Int32)), .val (.int (0 : Int32)), .val (.int (2 : Int32)), .val (.int (1 : Int32)), .val (.int (1 : Int32))] (hb hby d3_139) rfl (by decide) rfl rfl ?_
            refine g_iinc X30 hx 145 (2 : Int32) #[.val (.ref a), .val (.ref b), .val (.int (0 : Int32)), .val (.int (2 : Int32)), .val (.long lnJ), .second, .val (.int (0 : Int32)), .val (.int (0 : Int32)), .val (.int (2 : Int32)), .val (.int (1 : Int32)), .val (.int (2 : Int32))] (hb hby d3_142) rfl (by decide) rfl rfl ?_
            refine g_goto X30 hx 109 (hb hby d3_145) (by decide) (by decide) ?_
            refine g_iload X30 hx 111 (hb hby d3_109) rfl rfl ?_
            refine g_iloadN X30 hx 112 (hb hby d3_111) rfl rfl ?_
            refine g_icT X30 hx 148 (hb hby d3_112) (by decide) (by decide) (by decide) ?_
            refine g_aloadN X30 hx 149 (hb hby d3_148) rfl rfl rfl ?_
            refine g_lload X30 hx 151 (hb hby d3_149) rfl rfl ?_
            refine g_putF X30 hx 154 hZ hown (host := "") (Or.inl (own_w hw 10 rfl)) Via.refl e30 F_ln E_a (Or.inl (own_w hw 11 rfl)) (own_w hw 2 rfl) (ty := .long) (by decide) rfl rfl (hb hby d3_151) rfl (fun T36 h36 X36 e36 W36 => ?_)
            have E_a := E_a.wr W36
            have F_ln := F_ln.same W36
            have F_co := F_co.other W36 (Or.inr (slot_ne (Or.inl (own_w hw 13 rfl)) (Or.inl (own_w hw 11 rfl)) (by decide) (t := .long) (t' := .long) (by decide) (by decide)))
            have F_la := F_la.other W36 (Or.inr (slot_ne (Or.inl (own_w hw 28 rfl)) (Or.inl (own_w hw 11 rfl)) (by decide) (t := .char) (t' := .long) (by decide) (by decide)))
            have V_b := V_b.other W36 (Ne.symm ne_a_b)
            have N36 := Fr.snoc X36 N30 g_a
            have Z36 : n0 ≤ h36.size := by rw [W36.size]; exact Z0
            have K36 := K0.wr W36 (Or.inl (List.mem_of_getElem? (i := 0) rfl))
            refine g_aloadN X36 hx 155 (hb hby d3_154) rfl rfl rfl ?_
            refine g_iload X36 hx 157 (hb hby d3_155) rfl rfl ?_
            refine g_ifT X36 hx 164 (hb hby d3_157) (by decide) (by decide) (by decide) ?_
            refine g_aloadN X36 hx 165 (hb hby d3_164) rfl rfl rfl ?_
            refine g_getF X36 hx 168 hZ hown (host := "") (Or.inl (own_w hw 12 rfl)) Via.refl e36 F_co (hb hby d3_165) rfl (fun T37 X37 e37 => ?_)
            refine g_iloadN X37 hx 169 (hb hby d3_168) rfl rfl ?_
            refine g_iload X37 hx 171 (hb hby d3_169) rfl rfl ?_
            refine g_isub X37 hx 172 (2 : Int32) (hb hby d3_171) (by decide) rfl ?_
            refine g_i2l X37 hx 173 (2 : Int64) (hb hby d3_172) (by decide) rfl ?_
            refine g_ladd X37 hx 174 (co + (2 : Int64)) (hb hby d3_173) rfl rfl ?_
            refine g_iload X37 hx 176 (hb hby d3_174) rfl rfl ?_
            refine g_i2l X37 hx 177 (1 : Int64) (hb hby d3_176) (by decide) rfl ?_
            refine g_lsub X37 hx 178 ((co + (2 : Int64)) - (1 : Int64)) (hb hby d3_177) rfl rfl ?_
            refine g_putF X37 hx 181 hZ hown (host := "") (Or.inl (own_w hw 12 rfl)) Via.refl e37 F_co E_a (Or.inl (own_w hw 13 rfl)) (own_w hw 2 rfl) (ty := .long) (by decide) rfl rfl (hb hby d3_178) rfl (fun T38 h38 X38 e38 W38 => ?_)
            have E_a := E_a.wr W38
            have F_ln := F_ln.other W38 (Or.inr (slot_ne (Or.inl (own_w hw 11 rfl)) (Or.inl (own_w hw 13 rfl)) (by decide) (t := .long) (t' := .long) (by decide) (by decide)))
            have F_co := F_co.same W38
            have F_la := F_la.other W38 (Or.inr (slot_ne (Or.inl (own_w hw 28 rfl)) (Or.inl (own_w hw 13 rfl)) (by decide) (t := .char) (t' := .long) (by decide) (by decide)))
            have V_b := V_b.other W38 (Ne.symm ne_a_b)
            have N38 := Fr.snoc X38 N36 g_a
            have Z38 : n0 ≤ h38.size := by rw [W38.size]; exact Z36
            have K38 := K36.wr W38 (Or.inl (List.mem_of_getElem? (i := 0) rfl))
            refine g_aloadN X38 hx 182 (hb hby d3_181) rfl rfl rfl ?_
            refine g_aloadN X38 hx 183 (hb hby d3_182) rfl rfl rfl ?_
            refine g_iloadN X38 hx 184 (hb hby d3_183) rfl rfl ?_
            refine g_iconst X38 hx 185 (1 : Int32) (hb hby d3_184) (by decide) rfl ?_
            refine g_isub X38 hx 186 (1 : Int32) (hb hby d3_185) (by decide) rfl ?_
            refine g_caload X38 hx 187 hZ e38 V_b ⟨by decide, by decide⟩ (show _ = (.int c1) from rfl) (hb hby d3_186) rfl ?_
            refine g_putF X38 hx 190 hZ hown (host := "") (Or.inl (own_w hw 27 rfl)) Via.refl e38 F_la E_a (Or.inl (own_w hw 28 rfl)) (own_w hw 2 rfl) (ty := .char) (by decide) (own_nrw hcc1) (own_fit hcc1) (hb hby d3_187) rfl (fun T39 h39 X39 e39 W39 => ?_)
            have E_a := E_a.wr W39
            have F_ln := F_ln.other W39 (Or.inr (slot_ne (Or.inl (own_w hw 11 rfl)) (Or.inl (own_w hw 28 rfl)) (by decide) (t := .long) (t' := .char) (by decide) (by decide)))
            have F_co := F_co.other W39 (Or.inr (slot_ne (Or.inl (own_w hw 13 rfl)) (Or.inl (own_w hw 28 rfl)) (by decide) (t := .long) (t' := .char) (by decide) (by decide)))
            have F_la := F_la.same W39
            have V_b := V_b.other W39 (Ne.symm ne_a_b)
            have N39 := Fr.snoc X39 N38 g_a
            have Z39 : n0 ≤ h39.size := by rw [W39.size]; exact Z38
            have K39 := K38.wr W39 (Or.inl (List.mem_of_getElem? (i := 0) rfl))
            exact g_retV X39 hx hret hlk (hb hby d3_190) (by decide) (by decide) (by rw [e39]; exact ⟨rfl, N39, K39, _, _, _, hcc1, E_a, F_ln, F_co, F_la⟩)
      · refine g_ifF X21 hx 139 (hb hby d3_136) ((if0 _ _).trans (feq hc22).1) rfl ?_
        refine g_iinc X21 hx 142 (1 : Int32) #[.val (.ref a), .val (.ref b), .val (.int (0 : Int32)), .val (.int (2 : Int32)), .val (.long lnJ), .second, .val (.int (0 : Int32)), .val (.int (0 : Int32)), .val (.int (2 : Int32)), .val (.int (1 : Int32)), .val (.int (0 : Int32))] (hb hby d3_139) rfl (by decide) rfl rfl ?_
        refine g_iinc X21 hx 145 (1 : Int32) #[.val (.ref a), .val (.ref b), .val (.int (0 : Int32)), .val (.int (2 : Int32)), .val (.long lnJ), .second, .val (.int (0 : Int32)), .val (.int (0 : Int32)), .val (.int (2 : Int32)), .val (.int (1 : Int32)), .val (.int (1 : Int32))] (hb hby d3_142) rfl (by decide) rfl rfl ?_
        refine g_goto X21 hx 109 (hb hby d3_145) (by decide) (by decide) ?_
        refine g_iload X21 hx 111 (hb hby d3_109) rfl rfl ?_
        refine g_iloadN X21 hx 112 (hb hby d3_111) rfl rfl ?_
        refine g_icF X21 hx 115 (hb hby d3_112) (by decide) rfl ?_
        refine g_aloadN X21 hx 116 (hb hby d3_115) rfl rfl rfl ?_
        refine g_iload X21 hx 118 (hb hby d3_116) rfl rfl ?_
        refine g_caload X21 hx 119 hZ e21 V_b ⟨by decide, by decide⟩ (show _ = (.int c1) from rfl) (hb hby d3_118) rfl ?_
        refine g_callS X21 hx 122 hZ hown (own_w hw 22 rfl) (own_w hw 23 rfl) (own_w hw 24 rfl) (own_w hw 25 rfl) (by decide) [(.int c1)] [] (rm5 l Z a0 hw c1 h0 n0 Z0) e21 0 (by decide) (by decide) (by decide) (by decide) (by rw [hml]; rfl) (lenOf own_pd0 rfl) (hb hby d3_119) rfl (Nat.le_of_eq rfl) rfl (fun v40 T40 L40 X40 hQ40 => ?_)
        obtain ⟨rfl, N40q, e40⟩ := hQ40
        have N40 := Fr.app N21 N40q
        show Go p e below _ _ T40 (mkF m 122 #[.val (.ref a), .val (.ref b), .val (.int (0 : Int32)), .val (.int (2 : Int32)), .val (.long lnJ), .second, .val (.int (0 : Int32)), .val (.int (0 : Int32)), .val (.int (2 : Int32)), .val (.int (1 : Int32)), .val (.int (1 : Int32))] [(.int (own_low c1))])
        by_cases hc41 : (own_low c1) = (0 : Int32)
        · refine g_ifT X40 hx 142 (hb hby d3_122) ((if0 _ _).trans (teq hc41).1) (by decide) (by decide) ?_
          refine g_iinc X40 hx 145 (2 : Int32) #[.val (.ref a), .val (.ref b), .val (.int (0 : Int32)), .val (.int (2 : Int32)), .val (.long lnJ), .second, .val (.int (0 : Int32)), .val (.int (0 : Int32)), .val (.int (2 : Int32)), .val (.int (1 : Int32)), .val (.int (2 : Int32))] (hb hby d3_142) rfl (by decide) rfl rfl ?_
          refine g_goto X40 hx 109 (hb hby d3_145) (by decide) (by decide) ?_
          refine g_iload X40 hx 111 (hb hby d3_109) rfl rfl ?_
          refine g_iloadN X40 hx 112 (hb hby d3_111) rfl rfl ?_
          refine g_icT X40 hx 148 (hb hby d3_112) (by decide) (by decide) (by decide) ?_
          refine g_aloadN X40 hx 149 (hb hby d3_148) rfl rfl rfl ?_
          refine g_lload X40 hx 151 (hb hby d3_149) rfl rfl ?_
          refine g_putF X40 hx 154 hZ hown (host := "") (Or.inl (own_w hw 10 rfl)) Via.refl e40 F_ln E_a (Or.inl (own_w hw 11 rfl)) (own_w hw 2 rfl) (ty := .long) (by decide) rfl rfl (hb hby d3_151) rfl (fun T42 h42 X42 e42 W42 => ?_)
          have E_a := E_a.wr W42
          have F_ln := F_ln.same W42
          have F_co := F_co.other W42 (Or.inr (slot_ne (Or.inl (own_w hw 13 rfl)) (Or.inl (own_w hw 11 rfl)) (by decide) (t := .long) (t' := .long) (by decide) (by decide)))
          have F_la := F_la.other W42 (Or.inr (slot_ne (Or.inl (own_w hw 28 rfl)) (Or.inl (own_w hw 11 rfl)) (by decide) (t := .char) (t' := .long) (by decide) (by decide)))
          have V_b := V_b.other W42 (Ne.symm ne_a_b)
          have N42 := Fr.snoc X42 N40 g_a
          have Z42 : n0 ≤ h42.size := by rw [W42.size]; exact Z0
          have K42 := K0.wr W42 (Or.inl (List.mem_of_getElem? (i := 0) rfl))
          refine g_aloadN X42 hx 155 (hb hby d3_154) rfl rfl rfl ?_
          refine g_iload X42 hx 157 (hb hby d3_155) rfl rfl ?_
          refine g_ifT X42 hx 164 (hb hby d3_157) (by decide) (by decide) (by decide) ?_
          refine g_aloadN X42 hx 165 (hb hby d3_164) rfl rfl rfl ?_
          refine g_getF X42 hx 168 hZ hown (host := "") (Or.inl (own_w hw 12 rfl)) Via.refl e42 F_co (hb hby d3_165) rfl (fun T43 X43 e43 => ?_)
          refine g_iloadN X43 hx 169 (hb hby d3_168) rfl rfl ?_
          refine g_iload X43 hx 171 (hb hby d3_169) rfl rfl ?_
          refine g_isub X43 hx 172 (2 : Int32) (hb hby d3_171) (by decide) rfl ?_
          refine g_i2l X43 hx 173 (2 : Int64) (hb hby d3_172) (by decide) rfl ?_
          refine g_ladd X43 hx 174 (co + (2 : Int64)) (hb hby d3_173) rfl rfl ?_
          refine g_iload X43 hx 176 (hb hby d3_174) rfl rfl ?_
          refine g_i2l X43 hx 177 (1 : Int64) (hb hby d3_176) (by decide) rfl ?_
          refine g_lsub X43 hx 178 ((co + (2 : Int64)) - (1 : Int64)) (hb hby d3_177) rfl rfl ?_
          refine g_putF X43 hx 181 hZ hown (host := "") (Or.inl (own_w hw 12 rfl)) Via.refl e43 F_co E_a (Or.inl (own_w hw 13 rfl)) (own_w hw 2 rfl) (ty := .long) (by decide) rfl rfl (hb hby d3_178) rfl (fun T44 h44 X44 e44 W44 => ?_)
          have E_a := E_a.wr W44
          have F_ln := F_ln.other W44 (Or.inr (slot_ne (Or.inl (own_w hw 11 rfl)) (Or.inl (own_w hw 13 rfl)) (by decide) (t := .long) (t' := .long) (by decide) (by decide)))
          have F_co := F_co.same W44
          have F_la := F_la.other W44 (Or.inr (slot_ne (Or.inl (own_w hw 28 rfl)) (Or.inl (own_w hw 13 rfl)) (by decide) (t := .char) (t' := .long) (by decide) (by decide)))
          have V_b := V_b.other W44 (Ne.symm ne_a_b)
          have N44 := Fr.snoc X44 N42 g_a
          have Z44 : n0 ≤ h44.size := by rw [W44.size]; exact Z42
          have K44 := K42.wr W44 (Or.inl (List.mem_of_getElem? (i := 0) rfl))
          refine g_aloadN X44 hx 182 (hb hby d3_181) rfl rfl rfl ?_
          refine g_aloadN X44 hx 183 (hb hby d3_182) rfl rfl rfl ?_
          refine g_iloadN X44 hx 184 (hb hby d3_183) rfl rfl ?_
          refine g_iconst X44 hx 185 (1 : Int32) (hb hby d3_184) (by decide) rfl ?_
          refine g_isub X44 hx 186 (1 : Int32) (hb hby d3_185) (by decide) rfl ?_
          refine g_caload X44 hx 187 hZ e44 V_b ⟨by decide, by decide⟩ (show _ = (.int c1) from rfl) (hb hby d3_186) rfl ?_
          refine g_putF X44 hx 190 hZ hown (host := "") (Or.inl (own_w hw 27 rfl)) Via.refl e44 F_la E_a (Or.inl (own_w hw 28 rfl)) (own_w hw 2 rfl) (ty := .char) (by decide) (own_nrw hcc1) (own_fit hcc1) (hb hby d3_187) rfl (fun T45 h45 X45 e45 W45 => ?_)
          have E_a := E_a.wr W45
          have F_ln := F_ln.other W45 (Or.inr (slot_ne (Or.inl (own_w hw 11 rfl)) (Or.inl (own_w hw 28 rfl)) (by decide) (t := .long) (t' := .char) (by decide) (by decide)))
          have F_co := F_co.other W45 (Or.inr (slot_ne (Or.inl (own_w hw 13 rfl)) (Or.inl (own_w hw 28 rfl)) (by decide) (t := .long) (t' := .char) (by decide) (by decide)))
          have F_la := F_la.same W45
          have V_b := V_b.other W45 (Ne.symm ne_a_b)
          have N45 := Fr.snoc X45 N44 g_a
          have Z45 : n0 ≤ h45.size := by rw [W45.size]; exact Z44
          have K45 := K44.wr W45 (Or.inl (List.mem_of_getElem? (i := 0) rfl))
          exact g_retV X45 hx hret hlk (hb hby d3_190) (by decide) (by decide) (by rw [e45]; exact ⟨rfl, N45, K45, _, _, _, hcc1, E_a, F_ln, F_co, F_la⟩)
        · refine g_ifF X40 hx 125 (hb hby d3_122) ((if0 _ _).trans (feq hc41).1) rfl ?_
          refine g_aloadN X40 hx 126 (hb hby d3_125) rfl rfl rfl ?_
          refine g_aloadN X40 hx 127 (hb hby d3_126) rfl rfl rfl ?_
          refine g_iloadN X40 hx 128 (hb hby d3_127) rfl rfl ?_
          refine g_iload X40 hx 130 (hb hby d3_128) rfl rfl ?_
          refine g_callP X40 hx 133 hZ hown (own_w hw 49 rfl) (own_w hw 50 rfl) (own_w hw 51 rfl) (own_w hw 17 rfl) rfl (own_w hw 3 rfl) (own_w hw 52 rfl) (by decide) a E_a [(.ref b), (.int (0 : Int32)), (.int (1 : Int32))] [] (rm10_2_1 l Z a0 hw a b la c0 c1 kA h0 n0 Z0 F_la V_b hcc0) e40 0 (by decide) (by decide) (by decide) (by decide) (by rw [hml]; rfl) (lenOf own_pd1 rfl) (hb hby d3_130) rfl (Nat.le_of_eq rfl) rfl (fun v46 T46 L46 X46 hQ46 => ?_)
          obtain ⟨rfl, N46q, e46⟩ := hQ46
          have N46 := Fr.app N40 N46q
          show Go p e below _ _ T46 (mkF m 133 #[.val (.ref a), .val (.ref b), .val (.int (0 : Int32)), .val (.int (2 : Int32)), .val (.long lnJ), .second, .val (.int (0 : Int32)), .val (.int (0 : Int32)), .val (.int (2 : Int32)), .val (.int (1 : Int32)), .val (.int (1 : Int32))] [(.int c0)])
          refine g_callS X46 hx 136 hZ hown (own_w hw 58 rfl) (own_w hw 59 rfl) (own_w hw 24 rfl) (own_w hw 60 rfl) (by decide) [(.int c0)] [] (rm12 l Z a0 hw c0 h0 n0 Z0) e46 0 (by decide) (by decide) (by decide) (by decide) (by rw [hml]; rfl) (lenOf own_pd0 rfl) (hb hby d3_133) rfl (Nat.le_of_eq rfl) rfl (fun v47 T47 L47 X47 hQ47 => ?_)
          obtain ⟨rfl, N47q, e47⟩ := hQ47
          have N47 := Fr.app N46 N47q
          show Go p e below _ _ T47 (mkF m 136 #[.val (.ref a), .val (.ref b), .val (.int (0 : Int32)), .val (.int (2 : Int32)), .val (.long lnJ), .second, .val (.int (0 : Int32)), .val (.int (0 : Int32)), .val (.int (2 : Int32)), .val (.int (1 : Int32)), .val (.int (1 : Int32))] [(.int (own_high c0))])
          by_cases hc48 : (own_high c0) = (0 : Int32)
          · refine g_ifT X47 hx 142 (hb hby d3_136) ((if0 _ _).trans (teq hc48).1) (by decide) (by decide) ?_
            refine g_iinc X47 hx 145 (2 : Int32) #[.val (.ref a), .val (.ref b), .val (.int (0 : Int32)), .val (.int (2 : Int32)), .val (.long lnJ), .second, .val (.int (0 : Int32)), .val (.int (0 : Int32)), .val (.int (2 : Int32)), .val (.int (1 : Int32)), .val (.int (2 : Int32))] (hb hby d3_142) rfl (by decide) rfl rfl ?_
            refine g_goto X47 hx 109 (hb hby d3_145) (by decide) (by decide) ?_
            refine g_iload X47 hx 111 (hb hby d3_109) rfl rfl ?_
            refine g_iloadN X47 hx 112 (hb hby d3_111) rfl rfl ?_
            refine g_icT X47 hx 148 (hb hby d3_112) (by decide) (by decide) (by decide) ?_
            refine g_aloadN X47 hx 149 (hb hby d3_148) rfl rfl rfl ?_
            refine g_lload X47 hx 151 (hb hby d3_149) rfl rfl ?_
            refine g_putF X47 hx 154 hZ hown (host := "") (Or.inl (own_w hw 10 rfl)) Via.refl e47 F_ln E_a (Or.inl (own_w hw 11 rfl)) (own_w hw 2 rfl) (ty := .long) (by decide) rfl rfl (hb hby d3_151) rfl (fun T49 h49 X49 e49 W49 => ?_)
            have E_a := E_a.wr W49
            have F_ln := F_ln.same W49
            have F_co := F_co.other W49 (Or.inr (slot_ne (Or.inl (own_w hw 13 rfl)) (Or.inl (own_w hw 11 rfl)) (by decide) (t := .long) (t' := .long) (by decide) (by decide)))
            have F_la := F_la.other W49 (Or.inr (slot_ne (Or.inl (own_w hw 28 rfl)) (Or.inl (own_w hw 11 rfl)) (by decide) (t := .char) (t' := .long) (by decide) (by decide)))
            have V_b := V_b.other W49 (Ne.symm ne_a_b)
            have N49 := Fr.snoc X49 N47 g_a
            have Z49 : n0 ≤ h49.size := by rw [W49.size]; exact Z0
            have K49 := K0.wr W49 (Or.inl (List.mem_of_getElem? (i := 0) rfl))
            refine g_aloadN X49 hx 155 (hb hby d3_154) rfl rfl rfl ?_
            refine g_iload X49 hx 157 (hb hby d3_155) rfl rfl ?_
            refine g_ifT X49 hx 164 (hb hby d3_157) (by decide) (by decide) (by decide) ?_
            refine g_aloadN X49 hx 165 (hb hby d3_164) rfl rfl rfl ?_
            refine g_getF X49 hx 168 hZ hown (host := "") (Or.inl (own_w hw 12 rfl)) Via.refl e49 F_co (hb hby d3_165) rfl (fun T50 X50 e50 => ?_)
            refine g_iloadN X50 hx 169 (hb hby d3_168) rfl rfl ?_
            refine g_iload X50 hx 171 (hb hby d3_169) rfl rfl ?_
            refine g_isub X50 hx 172 (2 : Int32) (hb hby d3_171) (by decide) rfl ?_
            refine g_i2l X50 hx 173 (2 : Int64) (hb hby d3_172) (by decide) rfl ?_
            refine g_ladd X50 hx 174 (co + (2 : Int64)) (hb hby d3_173) rfl rfl ?_
            refine g_iload X50 hx 176 (hb hby d3_174) rfl rfl ?_
            refine g_i2l X50 hx 177 (1 : Int64) (hb hby d3_176) (by decide) rfl ?_
            refine g_lsub X50 hx 178 ((co + (2 : Int64)) - (1 : Int64)) (hb hby d3_177) rfl rfl ?_
            refine g_putF X50 hx 181 hZ hown (host := "") (Or.inl (own_w hw 12 rfl)) Via.refl e50 F_co E_a (Or.inl (own_w hw 13 rfl)) (own_w hw 2 rfl) (ty := .long) (by decide) rfl rfl (hb hby d3_178) rfl (fun T51 h51 X51 e51 W51 => ?_)
            have E_a := E_a.wr W51
            have F_ln := F_ln.other W51 (Or.inr (slot_ne (Or.inl (own_w hw 11 rfl)) (Or.inl (own_w hw 13 rfl)) (by decide) (t := .long) (t' := .long) (by decide) (by decide)))
            have F_co := F_co.same W51
            have F_la := F_la.other W51 (Or.inr (slot_ne (Or.inl (own_w hw 28 rfl)) (Or.inl (own_w hw 13 rfl)) (by decide) (t := .char) (t' := .long) (by decide) (by decide)))
            have V_b := V_b.other W51 (Ne.symm ne_a_b)
            have N51 := Fr.snoc X51 N49 g_a
            have Z51 : n0 ≤ h51.size := by rw [W51.size]; exact Z49
            have K51 := K49.wr W51 (Or.inl (List.mem_of_getElem? (i := 0) rfl))
            refine g_aloadN X51 hx 182 (hb hby d3_181) rfl rfl rfl ?_
            refine g_aloadN X51 hx 183 (hb hby d3_182) rfl rfl rfl ?_
            refine g_iloadN X51 hx 184 (hb hby d3_183) rfl rfl ?_
            refine g_iconst X51 hx 185 (1 : Int32) (hb hby d3_184) (by decide) rfl ?_
            refine g_isub X51 hx 186 (1 : Int32) (hb hby d3_185) (by decide) rfl ?_
            refine g_caload X51 hx 187 hZ e51 V_b ⟨by decide, by decide⟩ (show _ = (.int c1) from rfl) (hb hby d3_186) rfl ?_
            refine g_putF X51 hx 190 hZ hown (host := "") (Or.inl (own_w hw 27 rfl)) Via.refl e51 F_la E_a (Or.inl (own_w hw 28 rfl)) (own_w hw 2 rfl) (ty := .char) (by decide) (own_nrw hcc1) (own_fit hcc1) (hb hby d3_187) rfl (fun T52 h52 X52 e52 W52 => ?_)
            have E_a := E_a.wr W52
            have F_ln := F_ln.other W52 (Or.inr (slot_ne (Or.inl (own_w hw 11 rfl)) (Or.inl (own_w hw 28 rfl)) (by decide) (t := .long) (t' := .char) (by decide) (by decide)))
            have F_co := F_co.other W52 (Or.inr (slot_ne (Or.inl (own_w hw 13 rfl)) (Or.inl (own_w hw 28 rfl)) (by decide) (t := .long) (t' := .char) (by decide) (by decide)))
            have F_la := F_la.same W52
            have V_b := V_b.other W52 (Ne.symm ne_a_b)
            have N52 := Fr.snoc X52 N51 g_a
            have Z52 : n0 ≤ h52.size := by rw [W52.size]; exact Z51
            have K52 := K51.wr W52 (Or.inl (List.mem_of_getElem? (i := 0) rfl))
            exact g_retV X52 hx hret hlk (hb hby d3_190) (by decide) (by decide) (by rw [e52]; exact ⟨rfl, N52, K52, _, _, _, hcc1, E_a, F_ln, F_co, F_la⟩)
          · refine g_ifF X47 hx 139 (hb hby d3_136) ((if0 _ _).trans (feq hc48).1) rfl ?_
            refine g_iinc X47 hx 142 (2 : Int32) #[.val (.ref a), .val (.ref b), .val (.int (0 : Int32)), .val (.int (2 : Int32)), .val (.long lnJ), .second, .val (.int (0 : Int32)), .val (.int (0 : Int32)), .val (.int (2 : Int32)), .val (.int (2 : Int32)), .val (.int (1 : Int32))] (hb hby d3_139) rfl (by decide) rfl rfl ?_
            refine g_iinc X47 hx 145 (2 : Int32) #[.val (.ref a), .val (.ref b), .val (.int (0 : Int32)), .val (.int (2 : Int32)), .val (.long lnJ), .second, .val (.int (0 : Int32)), .val (.int (0 : Int32)), .val (.int (2 : Int32)), .val (.int (2 : Int32)), .val (.int (2 : Int32))] (hb hby d3_142) rfl (by decide) rfl rfl ?_
            refine g_goto X47 hx 109 (hb hby d3_145) (by decide) (by decide) ?_
            refine g_iload X47 hx 111 (hb hby d3_109) rfl rfl ?_
            refine g_iloadN X47 hx 112 (hb hby d3_111) rfl rfl ?_
            refine g_icT X47 hx 148 (hb hby d3_112) (by decide) (by decide) (by decide) ?_
            refine g_aloadN X47 hx 149 (hb hby d3_148) rfl rfl rfl ?_
            refine g_lload X47 hx 151 (hb hby d3_149) rfl rfl ?_
            refine g_putF X47 hx 154 hZ hown (host := "") (Or.inl (own_w hw 10 rfl)) Via.refl e47 F_ln E_a (Or.inl (own_w hw 11 rfl)) (own_w hw 2 rfl) (ty := .long) (by decide) rfl rfl (hb hby d3_151) rfl (fun T53 h53 X53 e53 W53 => ?_)
            have E_a := E_a.wr W53
            have F_ln := F_ln.same W53
            have F_co := F_co.other W53 (Or.inr (slot_ne (Or.inl (own_w hw 13 rfl)) (Or.inl (own_w hw 11 rfl)) (by decide) (t := .long) (t' := .long) (by decide) (by decide)))
            have F_la := F_la.other W53 (Or.inr (slot_ne (Or.inl (own_w hw 28 rfl)) (Or.inl (own_w hw 11 rfl)) (by decide) (t := .char) (t' := .long) (by decide) (by decide)))
            have V_b := V_b.other W53 (Ne.symm ne_a_b)
            have N53 := Fr.snoc X53 N47 g_a
            have Z53 : n0 ≤ h53.size := by rw [W53.size]; exact Z0
            have K53 := K0.wr W53 (Or.inl (List.mem_of_getElem? (i := 0) rfl))
            refine g_aloadN X53 hx 155 (hb hby d3_154) rfl rfl rfl ?_
            refine g_iload X53 hx 157 (hb hby d3_155) rfl rfl ?_
            refine g_ifT X53 hx 164 (hb hby d3_157) (by decide) (by decide) (by decide) ?_
            refine g_aloadN X53 hx 165 (hb hby d3_164) rfl rfl rfl ?_
            refine g_getF X53 hx 168 hZ hown (host := "") (Or.inl (own_w hw 12 rfl)) Via.refl e53 F_co (hb hby d3_165) rfl (fun T54 X54 e54 => ?_)
            refine g_iloadN X54 hx 169 (hb hby d3_168) rfl rfl ?_
            refine g_iload X54 hx 171 (hb hby d3_169) rfl rfl ?_
            refine g_isub X54 hx 172 (2 : Int32) (hb hby d3_171) (by decide) rfl ?_
            refine g_i2l X54 hx 173 (2 : Int64) (hb hby d3_172) (by decide) rfl ?_
            refine g_ladd X54 hx 174 (co + (2 : Int64)) (hb hby d3_173) rfl rfl ?_
            refine g_iload X54 hx 176 (hb hby d3_174) rfl rfl ?_
            refine g_i2l X54 hx 177 (2 : Int64) (hb hby d3_176) (by decide) rfl ?_
            refine g_lsub X54 hx 178 ((co + (2 : Int64)) - (2 : Int64)) (hb hby d3_177) rfl rfl ?_
            refine g_putF X54 hx 181 hZ hown (host := "") (Or.inl (own_w hw 12 rfl)) Via.refl e54 F_co E_a (Or.inl (own_w hw 13 rfl)) (own_w hw 2 rfl) (ty := .long) (by decide) rfl rfl (hb hby d3_178) rfl (fun T55 h55 X55 e55 W55 => ?_)
            have E_a := E_a.wr W55
            have F_ln := F_ln.other W55 (Or.inr (slot_ne (Or.inl (own_w hw 11 rfl)) (Or.inl (own_w hw 13 rfl)) (by decide) (t := .long) (t' := .long) (by decide) (by decide)))
            have F_co := F_co.same W55
            have F_la := F_la.other W55 (Or.inr (slot_ne (Or.inl (own_w hw 28 rfl)) (Or.inl (own_w hw 13 rfl)) (by decide) (t := .char) (t' := .long) (by decide) (by decide)))
            have V_b := V_b.other W55 (Ne.symm ne_a_b)
            have N55 := Fr.snoc X55 N53 g_a
            have Z55 : n0 ≤ h55.size := by rw [W55.size]; exact Z53
            have K55 := K53.wr W55 (Or.inl (List.mem_of_getElem? (i := 0) rfl))
            refine g_aloadN X55 hx 182 (hb hby d3_181) rfl rfl rfl ?_
            refine g_aloadN X55 hx 183 (hb hby d3_182) rfl rfl rfl ?_
            refine g_iloadN X55 hx 184 (hb hby d3_183) rfl rfl ?_
            refine g_iconst X55 hx 185 (1 : Int32) (hb hby d3_184) (by decide) rfl ?_
            refine g_isub X55 hx 186 (1 : Int32) (hb hby d3_185) (by decide) rfl ?_
            refine g_caload X55 hx 187 hZ e55 V_b ⟨by decide, by decide⟩ (show _ = (.int c1) from rfl) (hb hby d3_186) rfl ?_
            refine g_putF X55 hx 190 hZ hown (host := "") (Or.inl (own_w hw 27 rfl)) Via.refl e55 F_la E_a (Or.inl (own_w hw 28 rfl)) (own_w hw 2 rfl) (ty := .char) (by decide) (own_nrw hcc1) (own_fit hcc1) (hb hby d3_187) rfl (fun T56 h56 X56 e56 W56 => ?_)
            have E_a := E_a.wr W56
            have F_ln := F_ln.other W56 (Or.inr (slot_ne (Or.inl (own_w hw 11 rfl)) (Or.inl (own_w hw 28 rfl)) (by decide) (t := .long) (t' := .char) (by decide) (by decide)))
            have F_co := F_co.other W56 (Or.inr (slot_ne (Or.inl (own_w hw 13 rfl)) (Or.inl (own_w hw 28 rfl)) (by decide) (t := .long) (t' := .char) (by decide) (by decide)))
            have F_la := F_la.same W56
            have V_b := V_b.other W56 (Ne.symm ne_a_b)
            have N56 := Fr.snoc X56 N55 g_a
            have Z56 : n0 ≤ h56.size := by rw [W56.size]; exact Z55
            have K56 := K55.wr W56 (Or.inl (List.mem_of_getElem? (i := 0) rfl))
            exact g_retV X56 hx hret hlk (hb hby d3_190) (by decide) (by decide) (by rw [e56]; exact ⟨rfl, N56, K56, _, _, _, hcc1, E_a, F_ln, F_co, F_la⟩)
  have tail105_1 : ∀ (lnJ : Int64) (TJ : State) (locsJ : List Loc), Stand p l e ({ frames := 1, cells := 0, slots := 0, locals := 24 } : Room) s m ([(.ref a), (.ref b), (.int (0 : Int32)), (.int (2 : Int32))] : List Value).toArray below meth cO TJ locsJ 0 0 → TJ.heap = h0 → Fr n0 locsJ → Go p e below (fun o t L => FrameEnd s o t L ({ frames := 1, cells := 0, slots := 0, locals := 24 } : Room).cells ({ frames := 1, cells := 0, slots := 0, locals := 24 } : Room).slots) (fun v h L => v = none ∧ Fr n0 L ∧ Keep h0 h [a] ∧ ∃ (ln' co' : Int64) (la' : Int32), nar .char la' = la' ∧ Exa Z h a "gleanwell/Position" ∧ Fld Z h a "gleanwell/Position" "line" "J" (.long ln') ∧ Fld Z h a "gleanwell/Position" "column" "J" (.long co') ∧ Fld Z h a "gleanwell/Position" "last" "C" (.int la')) TJ (mkF m 105 #[.val (.ref a), .val (.ref b), .val (.int (0 : Int32)), .val (.int (2 : Int32)), .val (.long lnJ), .second, .val (.int (1 : Int32)), .val (.int (1 : Int32)), .val (.int (2 : Int32)), .val (.int (0 : Int32)), .unset] []) := by
    intro lnJ TJ locsJ XJ eJ NJ 
    refine g_iload XJ hx 107 (hb hby d3_105) rfl rfl ?_
    refine g_istore XJ hx 109 #[.val (.ref a), .val (.ref b), .val (.int (0 : Int32)), .val (.int (2 : Int32)), .val (.long lnJ), .second, .val (.int (1 : Int32)), .val (.int (1 : Int32)), .val (.int (2 : Int32)), .val (.int (0 : Int32)), .val (.int (1 : Int32))] (hb hby d3_107) rfl rfl ?_
    refine g_iload XJ hx 111 (hb hby d3_109) rfl rfl ?_
    refine g_iloadN XJ hx 112 (hb hby d3_111) rfl rfl ?_
    refine g_icF XJ hx 115 (hb hby d3_112) (by decide) rfl ?_
    refine g_aloadN XJ hx 116 (hb hby d3_115) rfl rfl rfl ?_
    refine g_iload XJ hx 118 (hb hby d3_116) rfl rfl ?_
    refine g_caload XJ hx 119 hZ eJ V_b ⟨by decide, by decide⟩ (show _ = (.int c1) from rfl) (hb hby d3_118) rfl ?_
    refine g_callS XJ hx 122 hZ hown (own_w hw 22 rfl) (own_w hw 23 rfl) (own_w hw 24 rfl) (own_w hw 25 rfl) (by decide) [(.int c1)] [] (rm5 l Z a0 hw c1 h0 n0 Z0) eJ 0 (by decide) (by decide) (by decide) (by decide) (by rw [hml]; rfl) (lenOf own_pd0 rfl) (hb hby d3_119) rfl (Nat.le_of_eq rfl) rfl (fun v57 T57 L57 X57 hQ57 => ?_)
    obtain ⟨rfl, N57q, e57⟩ := hQ57
    have N57 := Fr.app NJ N57q
    show Go p e below _ _ T57 (mkF m 122 #[.val (.ref a), .val (.ref b), .val (.int (0 : Int32)), .val (.int (2 : Int32)), .val (.long lnJ), .second, .val (.int (1 : Int32)), .val (.int (1 : Int32)), .val (.int (2 : Int32)), .val (.int (0 : Int32)), .val (.int (1 : Int32))] [(.int (own_low c1))])
    by_cases hc58 : (own_low c1) = (0 : Int32)
    · refine g_ifT X57 hx 142 (hb hby d3_122) ((if0 _ _).trans (teq hc58).1) (by decide) (by decide) ?_
      refine g_iinc X57 hx 145 (2 : Int32) #[.val (.ref a), .val (.ref b), .val (.int (0 : Int32)), .val (.int (2 : Int32)), .val (.long lnJ), .second, .val (.int (1 : Int32)), .val (.int (1 : Int32)), .val (.int (2 : Int32)), .val (.int (0 : Int32)), .val (.int (2 : Int32))] (hb hby d3_142) rfl (by decide) rfl rfl ?_
      refine g_goto X57 hx 109 (hb hby d3_145) (by decide) (by decide) ?_
      refine g_iload X57 hx 111 (hb hby d3_109) rfl rfl ?_
      refine g_iloadN X57 hx 112 (hb hby d3_111) rfl rfl ?_
      refine g_icT X57 hx 148 (hb hby d3_112) (by decide) (by decide) (by decide) ?_
      refine g_aloadN X57 hx 149 (hb hby d3_148) rfl rfl rfl ?_
      refine g_lload X57 hx 151 (hb hby d3_149) rfl rfl ?_
      refine g_putF X57 hx 154 hZ hown (host := "") (Or.inl (own_w hw 10 rfl)) Via.refl e57 F_ln E_a (Or.inl (own_w hw 11 rfl)) (own_w hw 2 rfl) (ty := .long) (by decide) rfl rfl (hb hby d3_151) rfl (fun T59 h59 X59 e59 W59 => ?_)
      have E_a := E_a.wr W59
      have F_ln := F_ln.same W59
      have F_co := F_co.other W59 (Or.inr (slot_ne (Or.inl (own_w hw 13 rfl)) (Or.inl (own_w hw 11 rfl)) (by decide) (t := .long) (t' := .long) (by decide) (by decide)))
      have F_la := F_la.other W59 (Or.inr (slot_ne (Or.inl (own_w hw 28 rfl)) (Or.inl (own_w hw 11 rfl)) (by decide) (t := .char) (t' := .long) (by decide) (by decide)))
      have V_b := V_b.other W59 (Ne.symm ne_a_b)
      have N59 := Fr.snoc X59 N57 g_a
      have Z59 : n0 ≤ h59.size := by rw [W59.size]; exact Z0
      have K59 := K0.wr W59 (Or.inl (List.mem_of_getElem? (i := 0) rfl))
      refine g_aloadN X59 hx 155 (hb hby d3_154) rfl rfl rfl ?_
      refine g_iload X59 hx 157 (hb hby d3_155) rfl rfl ?_
      refine g_ifF X59 hx 160 (hb hby d3_157) (by decide) rfl ?_
      refine g_lconst X59 hx 161 (1 : Int64) (hb hby d3_160) (by decide) rfl ?_
      refine g_goto X59 hx 168 (hb hby d3_161) (by decide) (by decide) ?_
      refine g_iloadN X59 hx 169 (hb hby d3_168) rfl rfl ?_
      refine g_iload X59 hx 171 (hb hby d3_169) rfl rfl ?_
      refine g_isub X59 hx 172 (1 : Int32) (hb hby d3_171) (by decide) rfl ?_
      refine g_i2l X59 hx 173 (1 : Int64) (hb hby d3_172) (by decide) rfl ?_
      refine g_ladd X59 hx 174 (2 : Int64) (hb hby d3_173) (by decide) rfl ?_
      refine g_iload X59 hx 176 (hb hby d3_174) rfl rfl ?_
      refine g_i2l X59 hx 177 (0 : Int64) (hb hby d3_176) (by decide) rfl ?_
      refine g_lsub X59 hx 178 (2 : Int64) (hb hby d3_177) (by decide) rfl ?_
      refine g_putF X59 hx 181 hZ hown (host := "") (Or.inl (own_w hw 12 rfl)) Via.refl e59 F_co E_a (Or.inl (own_w hw 13 rfl)) (own_w hw 2 rfl) (ty := .long) (by decide) rfl rfl (hb hby d3_178) rfl (fun T60 h60 X60 e60 W60 => ?_)
      have E_a := E_a.wr W60
      have F_ln := F_ln.other W60 (Or.inr (slot_ne (Or.inl (own_w hw 11 rfl)) (Or.inl (own_w hw 13 rfl)) (by decide) (t := .long) (t' := .long) (by decide) (by decide)))
      have F_co := F_co.same W60
      have F_la := F_la.other W60 (Or.inr (slot_ne (Or.inl (own_w hw 28 rfl)) (Or.inl (own_w hw 13 rfl)) (by decide) (t := .char) (t' := .long) (by decide) (by decide)))
      have V_b := V_b.other W60 (Ne.symm ne_a_b)
      have N60 := Fr.snoc X60 N59 g_a
      have Z60 : n0 ≤ h60.size := by rw [W60.size]; exact Z59
      have K60 := K59.wr W60 (Or.inl (List.mem_of_getElem? (i := 0) rfl))
      refine g_aloadN X60 hx 182 (hb hby d3_181) rfl rfl rfl ?_
      refine g_aloadN X60 hx 183 (hb hby d3_182) rfl rfl rfl ?_
      refine g_iloadN X60 hx 184 (hb hby d3_183) rfl rfl ?_
      refine g_iconst X60 hx 185 (1 : Int32) (hb hby d3_184) (by decide) rfl ?_
      refine g_isub X60 hx 186 (1 : Int32) (hb hby d3_185) (by decide) rfl ?_
      refine g_caload X60 hx 187 hZ e60 V_b ⟨by decide, by decide⟩ (show _ = (.int c1) from rfl) (hb hby d3_186) rfl ?_
      refine g_putF X60 hx 190 hZ hown (host := "") (Or.inl (own_w hw 27 rfl)) Via.refl e60 F_la E_a (Or.inl (own_w hw 28 rfl)) (own_w hw 2 rfl) (ty := .char) (by decide) (own_nrw hcc1) (own_fit hcc1) (hb hby d3_187) rfl (fun T61 h61 X61 e61 W61 => ?_)
      have E_a := E_a.wr W61
      have F_ln := F_ln.other W61 (Or.inr (slot_ne (Or.inl (own_w hw 11 rfl)) (Or.inl (own_w hw 28 rfl)) (by decide) (t := .long) (t' := .char) (by decide) (by decide)))
      have F_co := F_co.other W61 (Or.inr (slot_ne (Or.inl (own_w hw 13 rfl)) (Or.inl (own_w hw 28 rfl)) (by decide) (t := .long) (t' := .char) (by decide) (by decide)))
      have F_la := F_la.same W61
      have V_b := V_b.other W61 (Ne.symm ne_a_b)
      have N61 := Fr.snoc X61 N60 g_a
      have Z61 : n0 ≤ h61.size := by rw [W61.size]; exact Z60
      have K61 := K60.wr W61 (Or.inl (List.mem_of_getElem? (i := 0) rfl))
      exact g_retV X61 hx hret hlk (hb hby d3_190) (by decide) (by decide) (by rw [e61]; exact ⟨rfl, N61, K61, _, _, _, hcc1, E_a, F_ln, F_co, F_la⟩)
    · refine g_ifF X57 hx 125 (hb hby d3_122) ((if0 _ _).trans (feq hc58).1) rfl ?_
      refine g_aloadN X57 hx 126 (hb hby d3_125) rfl rfl rfl ?_
      refine g_aloadN X57 hx 127 (hb hby d3_126) rfl rfl rfl ?_
      refine g_iloadN X57 hx 128 (hb hby d3_127) rfl rfl ?_
      refine g_iload X57 hx 130 (hb hby d3_128) rfl rfl ?_
      refine g_callP X57 hx 133 hZ hown (own_w hw 49 rfl) (own_w hw 50 rfl) (own_w hw 51 rfl) (own_w hw 17 rfl) rfl (own_w hw 3 rfl) (own_w hw 52 rfl) (by decide) a E_a [(.ref b), (.int (0 : Int32)), (.int (1 : Int32))] [] (rm10_2_1 l Z a0 hw a b la c0 c1 kA h0 n0 Z0 F_la V_b hcc0) e57 0 (by decide) (by decide) (by decide) (by decide) (by rw [hml]; rfl) (lenOf own_pd1 rfl) (hb hby d3_130) rfl (Nat.le_of_eq rfl) rfl (fun v62 T62 L62 X62 hQ62 => ?_)
      obtain ⟨rfl, N62q, e62⟩ := hQ62
      have N62 := Fr.app N57 N62q
      show Go p e below _ _ T62 (mkF m 133 #[.val (.ref a), .val (.ref b), .val (.int (0 : Int32)), .val (.int (2 : Int32)), .val (.long lnJ), .second, .val (.int (1 : Int32)), .val (.int (1 : Int32)), .val (.int (2 : Int32)), .val (.int (0 : Int32)), .val (.int (1 : Int32))] [(.int c0)])
      refine g_callS X62 hx 136 hZ hown (own_w hw 58 rfl) (own_w hw 59 rfl) (own_w hw 24 rfl) (own_w hw 60 rfl) (by decide) [(.int c0)] [] (rm12 l Z a0 hw c0 h0 n0 Z0) e62 0 (by decide) (by decide) (by decide) (by decide) (by rw [hml]; rfl) (lenOf own_pd0 rfl) (hb hby d3_133) rfl (Nat.le_of_eq rfl) rfl (fun v63 T63 L63 X63 hQ63 => ?_)
      obtain ⟨rfl, N63q, e63⟩ := hQ63
      have N63 := Fr.app N62 N63q
      show Go p e below _ _ T63 (mkF m 136 #[.val (.ref a), .val (.ref b), .val (.int (0 : Int32)), .val (.int (2 : Int32)), .val (.long lnJ), .second, .val (.int (1 : Int32)), .val (.int (1 : Int32)), .val (.int (2 : Int32)), .val (.int (0 : Int32)), .val (.int (1 : Int32))] [(.int (own_high c0))])
      by_cases hc64 : (own_high c0) = (0 : Int32)
      · refine g_ifT X63 hx 142 (hb hby d3_136) ((if0 _ _).trans (teq hc64).1) (by decide) (by decide) ?_
        refine g_iinc X63 hx 145 (2 : Int32) #[.val (.ref a), .val (.ref b), .val (.int (0 : Int32)), .val (.int (2 : Int32)), .val (.long lnJ), .second, .val (.int (1 : Int32)), .val (.int (1 : Int32)), .val (.int (2 : Int32)), .val (.int (0 : Int32)), .val (.int (2 : Int32))] (hb hby d3_142) rfl (by decide) rfl rfl ?_
        refine g_goto X63 hx 109 (hb hby d3_145) (by decide) (by decide) ?_
        refine g_iload X63 hx 111 (hb hby d3_109) rfl rfl ?_
        refine g_iloadN X63 hx 112 (hb hby d3_111) rfl rfl ?_
        refine g_icT X63 hx 148 (hb hby d3_112) (by decide) (by decide) (by decide) ?_
        refine g_aloadN X63 hx 149 (hb hby d3_148) rfl rfl rfl ?_
        refine g_lload X63 hx 151 (hb hby d3_149) rfl rfl ?_
        refine g_putF X63 hx 154 hZ hown (host := "") (Or.inl (own_w hw 10 rfl)) Via.refl e63 F_ln E_a (Or.inl (own_w hw 11 rfl)) (own_w hw 2 rfl) (ty := .long) (by decide) rfl rfl (hb hby d3_151) rfl (fun T65 h65 X65 e65 W65 => ?_)
        have E_a := E_a.wr W65
        have F_ln := F_ln.same W65
        have F_co := F_co.other W65 (Or.inr (slot_ne (Or.inl (own_w hw 13 rfl)) (Or.inl (own_w hw 11 rfl)) (by decide) (t := .long) (t' := .long) (by decide) (by decide)))
        have F_la := F_la.other W65 (Or.inr (slot_ne (Or.inl (own_w hw 28 rfl)) (Or.inl (own_w hw 11 rfl)) (by decide) (t := .char) (t' := .long) (by decide) (by decide)))
        have V_b := V_b.other W65 (Ne.symm ne_a_b)
        have N65 := Fr.snoc X65 N63 g_a
        have Z65 : n0 ≤ h65.size := by rw [W65.size]; exact Z0
        have K65 := K0.wr W65 (Or.inl (List.mem_of_getElem? (i := 0) rfl))
        refine g_aloadN X65 hx 155 (hb hby d3_154) rfl rfl rfl ?_
        refine g_iload X65 hx 157 (hb hby d3_155) rfl rfl ?_
        refine g_ifF X65 hx 160 (hb hby d3_157) (by decide) rfl ?_
        refine g_lconst X65 hx 161 (1 : Int64) (hb hby d3_160) (by decide) rfl ?_
        refine g_goto X65 hx 168 (hb hby d3_161) (by decide) (by decide) ?_
        refine g_iloadN X65 hx 169 (hb hby d3_168) rfl rfl ?_
        refine g_iload X65 hx 171 (hb hby d3_169) rfl rfl ?_
        refine g_isub X65 hx 172 (1 : Int32) (hb hby d3_171) (by decide) rfl ?_
        refine g_i2l X65 hx 173 (1 : Int64) (hb hby d3_172) (by decide) rfl ?_
        refine g_ladd X65 hx 174 (2 : Int64) (hb hby d3_173) (by decide) rfl ?_
        refine g_iload X65 hx 176 (hb hby d3_174) rfl rfl ?_
        refine g_i2l X65 hx 177 (0 : Int64) (hb hby d3_176) (by decide) rfl ?_
        refine g_lsub X65 hx 178 (2 : Int64) (hb hby d3_177) (by decide) rfl ?_
        refine g_putF X65 hx 181 hZ hown (host := "") (Or.inl (own_w hw 12 rfl)) Via.refl e65 F_co E_a (Or.inl (own_w hw 13 rfl)) (own_w hw 2 rfl) (ty := .long) (by decide) rfl rfl (hb hby d3_178) rfl (fun T66 h66 X66 e66 W66 => ?_)
        have E_a := E_a.wr W66
        have F_ln := F_ln.other W66 (Or.inr (slot_ne (Or.inl (own_w hw 11 rfl)) (Or.inl (own_w hw 13 rfl)) (by decide) (t := .long) (t' := .long) (by decide) (by decide)))
        have F_co := F_co.same W66
        have F_la := F_la.other W66 (Or.inr (slot_ne (Or.inl (own_w hw 28 rfl)) (Or.inl (own_w hw 13 rfl)) (by decide) (t := .char) (t' := .long) (by decide) (by decide)))
        have V_b := V_b.other W66 (Ne.symm ne_a_b)
        have N66 := Fr.snoc X66 N65 g_a
        have Z66 : n0 ≤ h66.size := by rw [W66.size]; exact Z65
        have K66 := K65.wr W66 (Or.inl (List.mem_of_getElem? (i := 0) rfl))
        refine g_aloadN X66 hx 182 (hb hby d3_181) rfl rfl rfl ?_
        refine g_aloadN X66 hx 183 (hb hby d3_182) rfl rfl rfl ?_
        refine g_iloadN X66 hx 184 (hb hby d3_183) rfl rfl ?_
        refine g_iconst X66 hx 185 (1 : Int32) (hb hby d3_184) (by decide) rfl ?_
        refine g_isub X66 hx 186 (1 : Int32) (hb hby d3_185) (by decide) rfl ?_
        refine g_caload X66 hx 187 hZ e66 V_b ⟨by decide, by decide⟩ (show _ = (.int c1) from rfl) (hb hby d3_186) rfl ?_
        refine g_putF X66 hx 190 hZ hown (host := "") (Or.inl (own_w hw 27 rfl)) Via.refl e66 F_la E_a (Or.inl (own_w hw 28 rfl)) (own_w hw 2 rfl) (ty := .char) (by decide) (own_nrw hcc1) (own_fit hcc1) (hb hby d3_187) rfl (fun T67 h67 X67 e67 W67 => ?_)
        have E_a := E_a.wr W67
        have F_ln := F_ln.other W67 (Or.inr (slot_ne (Or.inl (own_w hw 11 rfl)) (Or.inl (own_w hw 28 rfl)) (by decide) (t := .long) (t' := .char) (by decide) (by decide)))
        have F_co := F_co.other W67 (Or.inr (slot_ne (Or.inl (own_w hw 13 rfl)) (Or.inl (own_w hw 28 rfl)) (by decide) (t := .long) (t' := .char) (by decide) (by decide)))
        have F_la := F_la.same W67
        have V_b := V_b.other W67 (Ne.symm ne_a_b)
        have N67 := Fr.snoc X67 N66 g_a
        have Z67 : n0 ≤ h67.size := by rw [W67.size]; exact Z66
        have K67 := K66.wr W67 (Or.inl (List.mem_of_getElem? (i := 0) rfl))
        exact g_retV X67 hx hret hlk (hb hby d3_190) (by decide) (by decide) (by rw [e67]; exact ⟨rfl, N67, K67, _, _, _, hcc1, E_a, F_ln, F_co, F_la⟩)
      · refine g_ifF X63 hx 139 (hb hby d3_136) ((if0 _ _).trans (feq hc64).1) rfl ?_
        refine g_iinc X63 hx 142 (1 : Int32) #[.val (.ref a), .val (.ref b), .val (.int (0 : Int32)), .val (.int (2 : Int32)), .val (.long lnJ), .second, .val (.int (1 : Int32)), .val (.int (1 : Int32)), .val (.int (2 : Int32)), .val (.int (1 : Int32)), .val (.int (1 : Int32))] (hb hby d3_139) rfl (by decide) rfl rfl ?_
        refine g_iinc X63 hx 145 (2 : Int32) #[.val (.ref a), .val (.ref b), .val (.int (0 : Int32)), .val (.int (2 : Int32)), .val (.long lnJ), .second, .val (.int (1 : Int32)), .val (.int (1 : Int32)), .val (.int (2 : Int32)), .val (.int (1 : Int32)), .val (.int (2 : Int32))] (hb hby d3_142) rfl (by decide) rfl rfl ?_
        refine g_goto X63 hx 109 (hb hby d3_145) (by decide) (by decide) ?_
        refine g_iload X63 hx 111 (hb hby d3_109) rfl rfl ?_
        refine g_iloadN X63 hx 112 (hb hby d3_111) rfl rfl ?_
        refine g_icT X63 hx 148 (hb hby d3_112) (by decide) (by decide) (by decide) ?_
        refine g_aloadN X63 hx 149 (hb hby d3_148) rfl rfl rfl ?_
        refine g_lload X63 hx 151 (hb hby d3_149) rfl rfl ?_
        refine g_putF X63 hx 154 hZ hown (host := "") (Or.inl (own_w hw 10 rfl)) Via.refl e63 F_ln E_a (Or.inl (own_w hw 11 rfl)) (own_w hw 2 rfl) (ty := .long) (by decide) rfl rfl (hb hby d3_151) rfl (fun T68 h68 X68 e68 W68 => ?_)
        have E_a := E_a.wr W68
        have F_ln := F_ln.same W68
        have F_co := F_co.other W68 (Or.inr (slot_ne (Or.inl (own_w hw 13 rfl)) (Or.inl (own_w hw 11 rfl)) (by decide) (t := .long) (t' := .long) (by decide) (by decide)))
        have F_la := F_la.other W68 (Or.inr (slot_ne (Or.inl (own_w hw 28 rfl)) (Or.inl (own_w hw 11 rfl)) (by decide) (t := .char) (t' := .long) (by decide) (by decide)))
        have V_b := V_b.other W68 (Ne.symm ne_a_b)
        have N68 := Fr.snoc X68 N63 g_a
        have Z68 : n0 ≤ h68.size := by rw [W68.size]; exact Z0
        have K68 := K0.wr W68 (Or.inl (List.mem_of_getElem? (i := 0) rfl))
        refine g_aloadN X68 hx 155 (hb hby d3_154) rfl rfl rfl ?_
        refine g_iload X68 hx 157 (hb hby d3_155) rfl rfl ?_
        refine g_ifF X68 hx 160 (hb hby d3_157) (by decide) rfl ?_
        refine g_lconst X68 hx 161 (1 : Int64) (hb hby d3_160) (by decide) rfl ?_
        refine g_goto X68 hx 168 (hb hby d3_161) (by decide) (by decide) ?_
        refine g_iloadN X68 hx 169 (hb hby d3_168) rfl rfl ?_
        refine g_iload X68 hx 171 (hb hby d3_169) rfl rfl ?_
        refine g_isub X68 hx 172 (1 : Int32) (hb hby d3_171) (by decide) rfl ?_
        refine g_i2l X68 hx 173 (1 : Int64) (hb hby d3_172) (by decide) rfl ?_
        refine g_ladd X68 hx 174 (2 : Int64) (hb hby d3_173) (by decide) rfl ?_
        refine g_iload X68 hx 176 (hb hby d3_174) rfl rfl ?_
        refine g_i2l X68 hx 177 (1 : Int64) (hb hby d3_176) (by decide) rfl ?_
        refine g_lsub X68 hx 178 (1 : Int64) (hb hby d3_177) (by decide) rfl ?_
        refine g_putF X68 hx 181 hZ hown (host := "") (Or.inl (own_w hw 12 rfl)) Via.refl e68 F_co E_a (Or.inl (own_w hw 13 rfl)) (own_w hw 2 rfl) (ty := .long) (by decide) rfl rfl (hb hby d3_178) rfl (fun T69 h69 X69 e69 W69 => ?_)
        have E_a := E_a.wr W69
        have F_ln := F_ln.other W69 (Or.inr (slot_ne (Or.inl (own_w hw 11 rfl)) (Or.inl (own_w hw 13 rfl)) (by decide) (t := .long) (t' := .long) (by decide) (by decide)))
        have F_co := F_co.same W69
        have F_la := F_la.other W69 (Or.inr (slot_ne (Or.inl (own_w hw 28 rfl)) (Or.inl (own_w hw 13 rfl)) (by decide) (t := .char) (t' := .long) (by decide) (by decide)))
        have V_b := V_b.other W69 (Ne.symm ne_a_b)
        have N69 := Fr.snoc X69 N68 g_a
        have Z69 : n0 ≤ h69.size := by rw [W69.size]; exact Z68
        have K69 := K68.wr W69 (Or.inl (List.mem_of_getElem? (i := 0) rfl))
        refine g_aloadN X69 hx 182 (hb hby d3_181) rfl rfl rfl ?_
        refine g_aloadN X69 hx 183 (hb hby d3_182) rfl rfl rfl ?_
        refine g_iloadN X69 hx 184 (hb hby d3_183) rfl rfl ?_
        refine g_iconst X69 hx 185 (1 : Int32) (hb hby d3_184) (by decide) rfl ?_
        refine g_isub X69 hx 186 (1 : Int32) (hb hby d3_185) (by decide) rfl ?_
        refine g_caload X69 hx 187 hZ e69 V_b ⟨by decide, by decide⟩ (show _ = (.int c1) from rfl) (hb hby d3_186) rfl ?_
        refine g_putF X69 hx 190 hZ hown (host := "") (Or.inl (own_w hw 27 rfl)) Via.refl e69 F_la E_a (Or.inl (own_w hw 28 rfl)) (own_w hw 2 rfl) (ty := .char) (by decide) (own_nrw hcc1) (own_fit hcc1) (hb hby d3_187) rfl (fun T70 h70 X70 e70 W70 => ?_)
        have E_a := E_a.wr W70
        have F_ln := F_ln.other W70 (Or.inr (slot_ne (Or.inl (own_w hw 11 rfl)) (Or.inl (own_w hw 28 rfl)) (by decide) (t := .long) (t' := .char) (by decide) (by decide)))
        have F_co := F_co.other W70 (Or.inr (slot_ne (Or.inl (own_w hw 13 rfl)) (Or.inl (own_w hw 28 rfl)) (by decide) (t := .long) (t' := .char) (by decide) (by decide)))
        have F_la := F_la.same W70
        have V_b := V_b.other W70 (Ne.symm ne_a_b)
        have N70 := Fr.snoc X70 N69 g_a
        have Z70 : n0 ≤ h70.size := by rw [W70.size]; exact Z69
        have K70 := K69.wr W70 (Or.inl (List.mem_of_getElem? (i := 0) rfl))
        exact g_retV X70 hx hret hlk (hb hby d3_190) (by decide) (by decide) (by rw [e70]; exact ⟨rfl, N70, K70, _, _, _, hcc1, E_a, F_ln, F_co, F_la⟩)
  have tail105_2 : ∀ (lnJ : Int64) (TJ : State) (locsJ : List Loc), Stand p l e ({ frames := 1, cells := 0, slots := 0, locals := 24 } : Room) s m ([(.ref a), (.ref b), (.int (0 : Int32)), (.int (2 : Int32))] : List Value).toArray below meth cO TJ locsJ 0 0 → TJ.heap = h0 → Fr n0 locsJ → Go p e below (fun o t L => FrameEnd s o t L ({ frames := 1, cells := 0, slots := 0, locals := 24 } : Room).cells ({ frames := 1, cells := 0, slots := 0, locals := 24 } : Room).slots) (fun v h L => v = none ∧ Fr n0 L ∧ Keep h0 h [a] ∧ ∃ (ln' co' : Int64) (la' : Int32), nar .char la' = la' ∧ Exa Z h a "gleanwell/Position" ∧ Fld Z h a "gleanwell/Position" "line" "J" (.long ln') ∧ Fld Z h a "gleanwell/Position" "column" "J" (.long co') ∧ Fld Z h a "gleanwell/Position" "last" "C" (.int la')) TJ (mkF m 105 #[.val (.ref a), .val (.ref b), .val (.int (0 : Int32)), .val (.int (2 : Int32)), .val (.long lnJ), .second, .val (.int (2 : Int32)), .val (.int (1 : Int32)), .val (.int (2 : Int32)), .val (.int (0 : Int32)), .unset] []) := by
    intro lnJ TJ locsJ XJ eJ NJ 
    refine g_iload XJ hx 107 (hb hby d3_105) rfl rfl ?_
    refine g_istore XJ hx 109 #[.val (.ref a), .val (.ref b), .val (.int (0 : Int32)), .val (.int (2 : Int32)), .val (.long lnJ), .second, .val (.int (2 : Int32)), .val (.int (1 : Int32)), .val (.int (2 : Int32)), .val (.int (0 : Int32)), .val (.int (2 : Int32))] (hb hby d3_107) rfl rfl ?_
    refine g_iload XJ hx 111 (hb hby d3_109) rfl rfl ?_
    refine g_iloadN XJ hx 112 (hb hby d3_111) rfl rfl ?_
    refine g_icT XJ hx 148 (hb hby d3_112) (by decide) (by decide) (by decide) ?_
    refine g_aloadN XJ hx 149 (hb hby d3_148) rfl rfl rfl ?_
    refine g_lload XJ hx 151 (hb hby d3_149) rfl rfl ?_
    refine g_putF XJ hx 154 hZ hown (host := "") (Or.inl (own_w hw 10 rfl)) Via.refl eJ F_ln E_a (Or.inl (own_w hw 11 rfl)) (own_w hw 2 rfl) (ty := .long) (by decide) rfl rfl (hb hby d3_151) rfl (fun T71 h71 X71 e71 W71 => ?_)
    have E_a := E_a.wr W71
    have F_ln := F_ln.same W71
    have F_co := F_co.other W71 (Or.inr (slot_ne (Or.inl (own_w hw 13 rfl)) (Or.inl (own_w hw 11 rfl)) (by decide) (t := .long) (t' := .long) (by decide) (by decide)))
    have F_la := F_la.other W71 (Or.inr (slot_ne (Or.inl (own_w hw 28 rfl)) (Or.inl (own_w hw 11 rfl)) (by decide) (t := .char) (t' := .long) (by decide) (by decide)))
    have V_b := V_b.other W71 (Ne.symm ne_a_b)
    have N71 := Fr.snoc X71 NJ g_a
    have Z71 : n0 ≤ h71.size := by rw [W71.size]; exact Z0
    have K71 := K0.wr W71 (Or.inl (List.mem_of_getElem? (i := 0) rfl))
    refine g_aloadN X71 hx 155 (hb hby d3_154) rfl rfl rfl ?_
    refine g_iload X71 hx 157 (hb hby d3_155) rfl rfl ?_
    refine g_ifF X71 hx 160 (hb hby d3_157) (by decide) rfl ?_
    refine g_lconst X71 hx 161 (1 : Int64) (hb hby d3_160) (by decide) rfl ?_
    refine g_goto X71 hx 168 (hb hby d3_161) (by decide) (by decide) ?_
    refine g_iloadN X71 hx 169 (hb hby d3_168) rfl rfl ?_
    refine g_iload X71 hx 171 (hb hby d3_169) rfl rfl ?_
    refine g_isub X71 hx 172 (0 : Int32) (hb hby d3_171) (by decide) rfl ?_
    refine g_i2l X71 hx 173 (0 : Int64) (hb hby d3_172) (by decide) rfl ?_
    refine g_ladd X71 hx 174 (1 : Int64) (hb hby d3_173) (by decide) rfl ?_
    refine g_iload X71 hx 176 (hb hby d3_174) rfl rfl ?_
    refine g_i2l X71 hx 177 (0 : Int64) (hb hby d3_176) (by decide) rfl ?_
    refine g_lsub X71 hx 178 (1 : Int64) (hb hby d3_177) (by decide) rfl ?_
    refine g_putF X71 hx 181 hZ hown (host := "") (Or.inl (own_w hw 12 rfl)) Via.refl e71 F_co E_a (Or.inl (own_w hw 13 rfl)) (own_w hw 2 rfl) (ty := .long) (by decide) rfl rfl (hb hby d3_178) rfl (fun T72 h72 X72 e72 W72 => ?_)
    have E_a := E_a.wr W72
    have F_ln := F_ln.other W72 (Or.inr (slot_ne (Or.inl (own_w hw 11 rfl)) (Or.inl (own_w hw 13 rfl)) (by decide) (t := .long) (t' := .long) (by decide) (by decide)))
    have F_co := F_co.same W72
    have F_la := F_la.other W72 (Or.inr (slot_ne (Or.inl (own_w hw 28 rfl)) (Or.inl (own_w hw 13 rfl)) (by decide) (t := .char) (t' := .long) (by decide) (by decide)))
    have V_b := V_b.other W72 (Ne.symm ne_a_b)
    have N72 := Fr.snoc X72 N71 g_a
    have Z72 : n0 ≤ h72.size := by rw [W72.size]; exact Z71
    have K72 := K71.wr W72 (Or.inl (List.mem_of_getElem? (i := 0) rfl))
    refine g_aloadN X72 hx 182 (hb hby d3_181) rfl rfl rfl ?_
    refine g_aloadN X72 hx 183 (hb hby d3_182) rfl rfl rfl ?_
    refine g_iloadN X72 hx 184 (hb hby d3_183) rfl rfl ?_
    refine g_iconst X72 hx 185 (1 : Int32) (hb hby d3_184) (by decide) rfl ?_
    refine g_isub X72 hx 186 (1 : Int32) (hb hby d3_185) (by decide) rfl ?_
    refine g_caload X72 hx 187 hZ e72 V_b ⟨by decide, by decide⟩ (show _ = (.int c1) from rfl) (hb hby d3_186) rfl ?_
    refine g_putF X72 hx 190 hZ hown (host := "") (Or.inl (own_w hw 27 rfl)) Via.refl e72 F_la E_a (Or.inl (own_w hw 28 rfl)) (own_w hw 2 rfl) (ty := .char) (by decide) (own_nrw hcc1) (own_fit hcc1) (hb hby d3_187) rfl (fun T73 h73 X73 e73 W73 => ?_)
    have E_a := E_a.wr W73
    have F_ln := F_ln.other W73 (Or.inr (slot_ne (Or.inl (own_w hw 11 rfl)) (Or.inl (own_w hw 28 rfl)) (by decide) (t := .long) (t' := .char) (by decide) (by decide)))
    have F_co := F_co.other W73 (Or.inr (slot_ne (Or.inl (own_w hw 13 rfl)) (Or.inl (own_w hw 28 rfl)) (by decide) (t := .long) (t' := .char) (by decide) (by decide)))
    have F_la := F_la.same W73
    have V_b := V_b.other W73 (Ne.symm ne_a_b)
    have N73 := Fr.snoc X73 N72 g_a
    have Z73 : n0 ≤ h73.size := by rw [W73.size]; exact Z72
    have K73 := K72.wr W73 (Or.inl (List.mem_of_getElem? (i := 0) rfl))
    exact g_retV X73 hx hret hlk (hb hby d3_190) (by decide) (by decide) (by rw [e73]; exact ⟨rfl, N73, K73, _, _, _, hcc1, E_a, F_ln, F_co, F_la⟩)
  refine g_iloadN X0 hx 1 (hb hby d3_0) rfl rfl ?_
  refine g_iloadN X0 hx 2 (hb hby d3_1) rfl rfl ?_
  refine g_icT X0 hx 6 (hb hby d3_2) (by decide) (by decide) (by decide) ?_
  refine g_aloadN X0 hx 7 (hb hby d3_6) rfl rfl rfl ?_
  refine g_getF X0 hx 10 hZ hown (host := "") (Or.inl (own_w hw 10 rfl)) Via.refl e0 F_ln (hb hby d3_7) rfl (fun T74 X74 e74 => ?_)
  refine g_lstore X74 hx 12 #[.val (.ref a), .val (.ref b), .val (.int (0 : Int32)), .val (.int (2 : Int32)), .val (.long ln), .second, .unset, .unset, .unset, .unset, .unset] (hb hby d3_10) rfl rfl ?_
  refine g_iloadN X74 hx 13 (hb hby d3_12) rfl rfl ?_
  refine g_istore X74 hx 15 #[.val (.ref a), .val (.ref b), .val (.int (0 : Int32)), .val (.int (2 : Int32)), .val (.long ln), .second, .val (.int (0 : Int32)), .unset, .unset, .unset, .unset] (hb hby d3_13) rfl rfl ?_
  refine g_iconst X74 hx 16 (0 : Int32) (hb hby d3_15) (by decide) rfl ?_
  refine g_istore X74 hx 18 #[.val (.ref a), .val (.ref b), .val (.int (0 : Int32)), .val (.int (2 : Int32)), .val (.long ln), .second, .val (.int (0 : Int32)), .val (.int (0 : Int32)), .unset, .unset, .unset] (hb hby d3_16) rfl rfl ?_
  refine g_iloadN X74 hx 19 (hb hby d3_18) rfl rfl ?_
  refine g_istore X74 hx 21 #[.val (.ref a), .val (.ref b), .val (.int (0 : Int32)), .val (.int (2 : Int32)), .val (.long ln), .second, .val (.int (0 : Int32)), .val (.int (0 : Int32)), .val (.int (0 : Int32)), .unset, .unset] (hb hby d3_19) rfl rfl ?_
  refine g_iload X74 hx 23 (hb hby d3_21) rfl rfl ?_
  refine g_iloadN X74 hx 24 (hb hby d3_23) rfl rfl ?_
  refine g_icF X74 hx 27 (hb hby d3_24) (by decide) rfl ?_
  refine g_aloadN X74 hx 28 (hb hby d3_27) rfl rfl rfl ?_
  refine g_iload X74 hx 30 (hb hby d3_28) rfl rfl ?_
  refine g_caload X74 hx 31 hZ e74 V_b ⟨by decide, by decide⟩ (show _ = (.int c0) from rfl) (hb hby d3_30) rfl ?_
  refine g_bipush X74 hx 33 (13 : Int32) (hb hby d3_31) (by decide) rfl ?_
  by_cases hc75 : (13 : Int32) < c0
  · refine g_icF X74 hx 36 (hb hby d3_33) (tlt hc75).2.2.2 rfl ?_
    refine g_iinc X74 hx 39 (1 : Int32) #[.val (.ref a), .val (.ref b), .val (.int (0 : Int32)), .val (.int (2 : Int32)), .val (.long ln), .second, .val (.int (0 : Int32)), .val (.int (0 : Int32)), .val (.int (1 : Int32)), .unset, .unset] (hb hby d3_36) rfl (by decide) rfl rfl ?_
    refine g_goto X74 hx 21 (hb hby d3_39) (by decide) (by decide) ?_
    refine g_iload X74 hx 23 (hb hby d3_21) rfl rfl ?_
    refine g_iloadN X74 hx 24 (hb hby d3_23) rfl rfl ?_
    refine g_icF X74 hx 27 (hb hby d3_24) (by decide) rfl ?_
    refine g_aloadN X74 hx 28 (hb hby d3_27) rfl rfl rfl ?_
    refine g_iload X74 hx 30 (hb hby d3_28) rfl rfl ?_
    refine g_caload X74 hx 31 hZ e74 V_b ⟨by decide, by decide⟩ (show _ = (.int c1) from rfl) (hb hby d3_30) rfl ?_
    refine g_bipush X74 hx 33 (13 : Int32) (hb hby d3_31) (by decide) rfl ?_
    by_cases hc76 : (13 : Int32) < c1
    · refine g_icF X74 hx 36 (hb hby d3_33) (tlt hc76).2.2.2 rfl ?_
      refine g_iinc X74 hx 39 (2 : Int32) #[.val (.ref a), .val (.ref b), .val (.int (0 : Int32)), .val (.int (2 : Int32)), .val (.long ln), .second, .val (.int (0 : Int32)), .val (.int (0 : Int32)), .val (.int (2 : Int32)), .unset, .unset] (hb hby d3_36) rfl (by decide) rfl rfl ?_
      refine g_goto X74 hx 21 (hb hby d3_39) (by decide) (by decide) ?_
      refine g_iload X74 hx 23 (hb hby d3_21) rfl rfl ?_
      refine g_iloadN X74 hx 24 (hb hby d3_23) rfl rfl ?_
      refine g_icT X74 hx 42 (hb hby d3_24) (by decide) (by decide) (by decide) ?_
      refine g_iload X74 hx 44 (hb hby d3_42) rfl rfl ?_
      refine g_iloadN X74 hx 45 (hb hby d3_44) rfl rfl ?_
      refine g_icF X74 hx 48 (hb hby d3_45) (by decide) rfl ?_
      refine g_goto X74 hx 102 (hb hby d3_48) (by decide) (by decide) ?_
      refine g_iconst X74 hx 103 (0 : Int32) (hb hby d3_102) (by decide) rfl ?_
      refine g_istore X74 hx 105 #[.val (.ref a), .val (.ref b), .val (.int (0 : Int32)), .val (.int (2 : Int32)), .val (.long ln), .second, .val (.int (0 : Int32)), .val (.int (0 : Int32)), .val (.int (2 : Int32)), .val (.int (0 : Int32)), .unset] (hb hby d3_103) rfl rfl ?_
      exact tail105_0 ln _ _ X74 e74 N0
    · refine g_icT X74 hx 42 (hb hby d3_33) (flt hc76).2.2.2 (by decide) (by decide) ?_
      refine g_iload X74 hx 44 (hb hby d3_42) rfl rfl ?_
      refine g_iloadN X74 hx 45 (hb hby d3_44) rfl rfl ?_
      refine g_icT X74 hx 51 (hb hby d3_45) (by decide) (by decide) (by decide) ?_
      refine g_aloadN X74 hx 52 (hb hby d3_51) rfl rfl rfl ?_
      refine g_iload X74 hx 54 (hb hby d3_52) rfl rfl ?_
      refine g_caload X74 hx 55 hZ e74 V_b ⟨by decide, by decide⟩ (show _ = (.int c1) from rfl) (hb hby d3_54) rfl ?_
      refine g_istore X74 hx 57 #[.val (.ref a), .val (.ref b), .val (.int (0 : Int32)), .val (.int (2 : Int32)), .val (.long ln), .second, .val (.int (0 : Int32)), .val (.int (0 : Int32)), .val (.int (1 : Int32)), .val (.int c1), .unset] (hb hby d3_55) rfl rfl ?_
      refine g_iload X74 hx 59 (hb hby d3_57) rfl rfl ?_
      refine g_callS X74 hx 62 hZ hown (own_w hw 19 rfl) (own_w hw 20 rfl) (own_w hw 3 rfl) (own_w hw 21 rfl) (by decide) [(.int c1)] [] (rm4 l Z a0 hw c1 h0 n0 Z0) e74 0 (by decide) (by decide) (by decide) (by decide) (by rw [hml]; rfl) (lenOf own_pd0 rfl) (hb hby d3_59) rfl (Nat.le_of_eq rfl) rfl (fun v77 T77 L77 X77 hQ77 => ?_)
      obtain ⟨rfl, N77q, e77⟩ := hQ77
      have N77 := Fr.app N0 N77q
      show Go p e below _ _ T77 (mkF m 62 #[.val (.ref a), .val (.ref b), .val (.int (0 : Int32)), .val (.int (2 : Int32)), .val (.long ln), .second, .val (.int (0 : Int32)), .val (.int (0 : Int32)), .val (.int (1 : Int32)), .val (.int c1), .unset] [(.int (own_term c1))])
      by_cases hc78 : (own_term c1) = (0 : Int32)
      · refine g_ifT X77 hx 96 (hb hby d3_62) ((if0 _ _).trans (teq hc78).1) (by decide) (by decide) ?_
        refine g_iinc X77 hx 99 (2 : Int32) #[.val (.ref a), .val (.ref b), .val (.int (0 : Int32)), .val (.int (2 : Int32)), .val (.long ln), .second, .val (.int (0 : Int32)), .val (.int (0 : Int32)), .val (.int (2 : Int32)), .val (.int c1), .unset] (hb hby d3_96) rfl (by decide) rfl rfl ?_
        refine g_goto X77 hx 21 (hb hby d3_99) (by decide) (by decide) ?_
        refine g_iload X77 hx 23 (hb hby d3_21) rfl rfl ?_
        refine g_iloadN X77 hx 24 (hb hby d3_23) rfl rfl ?_
        refine g_icT X77 hx 42 (hb hby d3_24) (by decide) (by decide) (by decide) ?_
        refine g_iload X77 hx 44 (hb hby d3_42) rfl rfl ?_
        refine g_iloadN X77 hx 45 (hb hby d3_44) rfl rfl ?_
        refine g_icF X77 hx 48 (hb hby d3_45) (by decide) rfl ?_
        refine g_goto X77 hx 102 (hb hby d3_48) (by decide) (by decide) ?_
        refine g_iconst X77 hx 103 (0 : Int32) (hb hby d3_102) (by decide) rfl ?_
        refine g_istore X77 hx 105 #[.val (.ref a), .val (.ref b), .val (.int (0 : Int32)), .val (.int (2 : Int32)), .val (.long ln), .second, .val (.int (0 : Int32)), .val (.int (0 : Int32)), .val (.int (2 : Int32)), .val (.int (0 : Int32)), .unset] (hb hby d3_103) rfl rfl ?_
        exact tail105_0 ln _ _ X77 e77 N77
      · refine g_ifF X77 hx 65 (hb hby d3_62) ((if0 _ _).trans (feq hc78).1) rfl ?_
        refine g_iload X77 hx 67 (hb hby d3_65) rfl rfl ?_
        refine g_aloadN X77 hx 68 (hb hby d3_67) rfl rfl rfl ?_
        refine g_aloadN X77 hx 69 (hb hby d3_68) rfl rfl rfl ?_
        refine g_iloadN X77 hx 70 (hb hby d3_69) rfl rfl ?_
        refine g_iload X77 hx 72 (hb hby d3_70) rfl rfl ?_
        refine g_callP X77 hx 75 hZ hown (own_w hw 49 rfl) (own_w hw 50 rfl) (own_w hw 51 rfl) (own_w hw 17 rfl) rfl (own_w hw 3 rfl) (own_w hw 52 rfl) (by decide) a E_a [(.ref b), (.int (0 : Int32)), (.int (1 : Int32))] [(.int c1)] (rm10_2_1 l Z a0 hw a b la c0 c1 kA h0 n0 Z0 F_la V_b hcc0) e77 1 (by decide) (by decide) (by decide) (by decide) (by rw [hml]; rfl) (lenOf own_pd1 rfl) (hb hby d3_72) rfl (Nat.le_of_eq rfl) rfl (fun v79 T79 L79 X79 hQ79 => ?_)
        obtain ⟨rfl, N79q, e79⟩ := hQ79
        have N79 := Fr.app N77 N79q
        show Go p e below _ _ T79 (mkF m 75 #[.val (.ref a), .val (.ref b), .val (.int (0 : Int32)), .val (.int (2 : Int32)), .val (.long ln), .second, .val (.int (0 : Int32)), .val (.int (0 : Int32)), .val (.int (1 : Int32)), .val (.int c1), .unset] [(.int c0), (.int c1)])
        refine g_callS X79 hx 78 hZ hown (own_w hw 53 rfl) (own_w hw 54 rfl) (own_w hw 3 rfl) (own_w hw 55 rfl) (by decide) [(.int c1), (.int c0)] [] (rm11 l Z a0 hw c1 c0 h0 n0 Z0) e79 0 (by decide) (by decide) (by decide) (by decide) (by rw [hml]; rfl) (lenOf own_pd2 rfl) (hb hby d3_75) rfl (Nat.le_of_eq rfl) rfl (fun v80 T80 L80 X80 hQ80 => ?_)
        obtain ⟨rfl, N80q, e80⟩ := hQ80
        have N80 := Fr.app N79 N80q
        show Go p e below _ _ T80 (mkF m 78 #[.val (.ref a), .val (.ref b), .val (.int (0 : Int32)), .val (.int (2 : Int32)), .val (.long ln), .second, .val (.int (0 : Int32)), .val (.int (0 : Int32)), .val (.int (1 : Int32)), .val (.int c1), .unset] [(.int (own_ends c1 c0))])
        by_cases hc81 : (own_ends c1 c0) = (0 : Int32)
        · refine g_ifT X80 hx 87 (hb hby d3_78) ((if0 _ _).trans (teq hc81).1) (by decide) (by decide) ?_
          refine g_iload X80 hx 89 (hb hby d3_87) rfl rfl ?_
          refine g_iconst X80 hx 90 (1 : Int32) (hb hby d3_89) (by decide) rfl ?_
          refine g_iadd X80 hx 91 (2 : Int32) (hb hby d3_90) (by decide) rfl ?_
          refine g_istore X80 hx 93 #[.val (.ref a), .val (.ref b), .val (.int (0 : Int32)), .val (.int (2 : Int32)), .val (.long ln), .second, .val (.int (2 : Int32)), .val (.int (0 : Int32)), .val (.int (1 : Int32)), .val (.int c1), .unset] (hb hby d3_91) rfl rfl ?_
          refine g_iconst X80 hx 94 (1 : Int32) (hb hby d3_93) (by decide) rfl ?_
          refine g_istore X80 hx 96 #[.val (.ref a), .val (.ref b), .val (.int (0 : Int32)), .val (.int (2 : Int32)), .val (.long ln), .second, .val (.int (2 : Int32)), .val (.int (1 : Int32)), .val (.int (1 : Int32)), .val (.int c1), .unset] (hb hby d3_94) rfl rfl ?_
          refine g_iinc X80 hx 99 (2 : Int32) #[.val (.ref a), .val (.ref b), .val (.int (0 : Int32)), .val (.int (2 : Int32)), .val (.long ln), .second, .val (.int (2 : Int32)), .val (.int (1 : Int32)), .val (.int (2 : Int32)), .val (.int c1), .unset] (hb hby d3_96) rfl (by decide) rfl rfl ?_
          refine g_goto X80 hx 21 (hb hby d3_99) (by decide) (by decide) ?_
          refine g_iload X80 hx 23 (hb hby d3_21) rfl rfl ?_
          refine g_iloadN X80 hx 24 (hb hby d3_23) rfl rfl ?_
          refine g_icT X80 hx 42 (hb hby d3_24) (by decide) (by decide) (by decide) ?_
          refine g_iload X80 hx 44 (hb hby d3_42) rfl rfl ?_
          refine g_iloadN X80 hx 45 (hb hby d3_44) rfl rfl ?_
          refine g_icF X80 hx 48 (hb hby d3_45) (by decide) rfl ?_
          refine g_goto X80 hx 102 (hb hby d3_48) (by decide) (by decide) ?_
          refine g_iconst X80 hx 103 (0 : Int32) (hb hby d3_102) (by decide) rfl ?_
          refine g_istore X80 hx 105 #[.val (.ref a), .val (.ref b), .val (.int (0 : Int32)), .val (.int (2 : Int32)), .val (.long ln), .second, .val (.int (2 : Int32)), .val (.int (1 : Int32)), .val (.int (2 : Int32)), .val (.int (0 : Int32)), .unset] (hb hby d3_103) rfl rfl ?_
          exact tail105_2 ln _ _ X80 e80 N80
        · refine g_ifF X80 hx 81 (hb hby d3_78) ((if0 _ _).trans (feq hc81).1) rfl ?_
          refine g_lload X80 hx 83 (hb hby d3_81) rfl rfl ?_
          refine g_lconst X80 hx 84 (1 : Int64) (hb hby d3_83) (by decide) rfl ?_
          refine g_ladd X80 hx 85 (ln + (1 : Int64)) (hb hby d3_84) rfl rfl ?_
          refine g_lstore X80 hx 87 #[.val (.ref a), .val (.ref b), .val (.int (0 : Int32)), .val (.int (2 : Int32)), .val (.long (ln + (1 : Int64))), .second, .val (.int (0 : Int32)), .val (.int (0 : Int32)), .val (.int (1 : Int32)), .val (.int c1), .unset] (hb hby d3_85) rfl rfl ?_
          refine g_iload X80 hx 89 (hb hby d3_87) rfl rfl ?_
          refine g_iconst X80 hx 90 (1 : Int32) (hb hby d3_89) (by decide) rfl ?_
          refine g_iadd X80 hx 91 (2 : Int32) (hb hby d3_90) (by decide) rfl ?_
          refine g_istore X80 hx 93 #[.val (.ref a), .val (.ref b), .val (.int (0 : Int32)), .val (.int (2 : Int32)), .val (.long (ln + (1 : Int64))), .second, .val (.int (2 : Int32)), .val (.int (0 : Int32)), .val (.int (1 : Int32)), .val (.int c1), .unset] (hb hby d3_91) rfl rfl ?_
          refine g_iconst X80 hx 94 (1 : Int32) (hb hby d3_93) (by decide) rfl ?_
          refine g_istore X80 hx 96 #[.val (.ref a), .val (.ref b), .val (.int (0 : Int32)), .val (.int (2 : Int32)), .val (.long (ln + (1 : Int64))), .second, .val (.int (2 : Int32)), .val (.int (1 : Int32)), .val (.int (1 : Int32)), .val (.int c1), .unset] (hb hby d3_94) rfl rfl ?_
          refine g_iinc X80 hx 99 (2 : Int32) #[.val (.ref a), .val (.ref b), .val (.int (0 : Int32)), .val (.int (2 : Int32)), .val (.long (ln + (1 : Int64))), .second, .val (.int (2 : Int32)), .val (.int (1 : Int32)), .val (.int (2 : Int32)), .val (.int c1), .unset] (hb hby d3_96) rfl (by decide) rfl rfl ?_
          refine g_goto X80 hx 21 (hb hby d3_99) (by decide) (by decide) ?_
          refine g_iload X80 hx 23 (hb hby d3_21) rfl rfl ?_
          refine g_iloadN X80 hx 24 (hb hby d3_23) rfl rfl ?_
          refine g_icT X80 hx 42 (hb hby d3_24) (by decide) (by decide) (by decide) ?_
          refine g_iload X80 hx 44 (hb hby d3_42) rfl rfl ?_
          refine g_iloadN X80 hx 45 (hb hby d3_44) rfl rfl ?_
          refine g_icF X80 hx 48 (hb hby d3_45) (by decide) rfl ?_
          refine g_goto X80 hx 102 (hb hby d3_48) (by decide) (by decide) ?_
          refine g_iconst X80 hx 103 (0 : Int32) (hb hby d3_102) (by decide) rfl ?_
          refine g_istore X80 hx 105 #[.val (.ref a), .val (.ref b), .val (.int (0 : Int32)), .val (.int (2 : Int32)), .val (.long (ln + (1 : Int64))), .second, .val (.int (2 : Int32)), .val (.int (1 : Int32)), .val (.int (2 : Int32)), .val (.int (0 : Int32)), .unset] (hb hby d3_103) rfl rfl ?_
          exact tail105_2 (ln + (1 : Int64)) _ _ X80 e80 N80
  · refine g_icT X74 hx 42 (hb hby d3_33) (flt hc75).2.2.2 (by decide) (by decide) ?_
    refine g_iload X74 hx 44 (hb hby d3_42) rfl rfl ?_
    refine g_iloadN X74 hx 45 (hb hby d3_44) rfl rfl ?_
    refine g_icT X74 hx 51 (hb hby d3_45) (by decide) (by decide) (by decide) ?_
    refine g_aloadN X74 hx 52 (hb hby d3_51) rfl rfl rfl ?_
    refine g_iload X74 hx 54 (hb hby d3_52) rfl rfl ?_
    refine g_caload X74 hx 55 hZ e74 V_b ⟨by decide, by decide⟩ (show _ = (.int c0) from rfl) (hb hby d3_54) rfl ?_
    refine g_istore X74 hx 57 #[.val (.ref a), .val (.ref b), .val (.int (0 : Int32)), .val (.int (2 : Int32)), .val (.long ln), .second, .val (.int (0 : Int32)), .val (.int (0 : Int32)), .val (.int (0 : Int32)), .val (.int c0), .unset] (hb hby d3_55) rfl rfl ?_
    refine g_iload X74 hx 59 (hb hby d3_57) rfl rfl ?_
    refine g_callS X74 hx 62 hZ hown (own_w hw 19 rfl) (own_w hw 20 rfl) (own_w hw 3 rfl) (own_w hw 21 rfl) (by decide) [(.int c0)] [] (rm4 l Z a0 hw c0 h0 n0 Z0) e74 0 (by decide) (by decide) (by decide) (by decide) (by rw [hml]; rfl) (lenOf own_pd0 rfl) (hb hby d3_59) rfl (Nat.le_of_eq rfl) rfl (fun v82 T82 L82 X82 hQ82 => ?_)
    obtain ⟨rfl, N82q, e82⟩ := hQ82
    have N82 := Fr.app N0 N82q
    show Go p e below _ _ T82 (mkF m 62 #[.val (.ref a), .val (.ref b), .val (.int (0 : Int32)), .val (.int (2 : Int32)), .val (.long ln), .second, .val (.int (0 : Int32)), .val (.int (0 : Int32)), .val (.int (0 : Int32)), .val (.int c0), .unset] [(.int (own_term c0))])
    by_cases hc83 : (own_term c0) = (0 : Int32)
    · refine g_ifT X82 hx 96 (hb hby d3_62) ((if0 _ _).trans (teq hc83).1) (by decide) (by decide) ?_
      refine g_iinc X82 hx 99 (1 : Int32) #[.val (.ref a), .val (.ref b), .val (.int (0 : Int32)), .val (.int (2 : Int32)), .val (.long ln), .second, .val (.int (0 : Int32)), .val (.int (0 : Int32)), .val (.int (1 : Int32)), .val (.int c0), .unset] (hb hby d3_96) rfl (by decide) rfl rfl ?_
      refine g_goto X82 hx 21 (hb hby d3_99) (by decide) (by decide) ?_
      refine g_iload X82 hx 23 (hb hby d3_21) rfl rfl ?_
      refine g_iloadN X82 hx 24 (hb hby d3_23) rfl rfl ?_
      refine g_icF X82 hx 27 (hb hby d3_24) (by decide) rfl ?_
      refine g_aloadN X82 hx 28 (hb hby d3_27) rfl rfl rfl ?_
      refine g_iload X82 hx 30 (hb hby d3_28) rfl rfl ?_
      refine g_caload X82 hx 31 hZ e82 V_b ⟨by decide, by decide⟩ (show _ = (.int c1) from rfl) (hb hby d3_30) rfl ?_
      refine g_bipush X82 hx 33 (13 : Int32) (hb hby d3_31) (by decide) rfl ?_
      by_cases hc84 : (13 : Int32) < c1
      · refine g_icF X82 hx 36 (hb hby d3_33) (tlt hc84).2.2.2 rfl ?_
        refine g_iinc X82 hx 39 (2 : Int32) #[.val (.ref a), .val (.ref b), .val (.int (0 : Int32)), .val (.int (2 : Int32)), .val (.long ln), .second, .val (.int (0 : Int32)), .val (.int (0 : Int32)), .val (.int (2 : Int32)), .val (.int c0), .unset] (hb hby d3_36) rfl (by decide) rfl rfl ?_
        refine g_goto X82 hx 21 (hb hby d3_39) (by decide) (by decide) ?_
        refine g_iload X82 hx 23 (hb hby d3_21) rfl rfl ?_
        refine g_iloadN X82 hx 24 (hb hby d3_23) rfl rfl ?_
        refine g_icT X82 hx 42 (hb hby d3_24) (by decide) (by decide) (by decide) ?_
        refine g_iload X82 hx 44 (hb hby d3_42) rfl rfl ?_
        refine g_iloadN X82 hx 45 (hb hby d3_44) rfl rfl ?_
        refine g_icF X82 hx 48 (hb hby d3_45) (by decide) rfl ?_
        refine g_goto X82 hx 102 (hb hby d3_48) (by decide) (by decide) ?_
        refine g_iconst X82 hx 103 (0 : Int32) (hb hby d3_102) (by decide) rfl ?_
        refine g_istore X82 hx 105 #[.val (.ref a), .val (.ref b), .val (.int (0 : Int32)), .val (.int (2 : Int32)), .val (.long ln), .second, .val (.int (0 : Int32)), .val (.int (0 : Int32)), .val (.int (2 : Int32)), .val (.int (0 : Int32)), .unset] (hb hby d3_103) rfl rfl ?_
        exact tail105_0 ln _ _ X82 e82 N82
      · refine g_icT X82 hx 42 (hb hby d3_33) (flt hc84).2.2.2 (by decide) (by decide) ?_
        refine g_iload X82 hx 44 (hb hby d3_42) rfl rfl ?_
        refine g_iloadN X82 hx 45 (hb hby d3_44) rfl rfl ?_
        refine g_icT X82 hx 51 (hb hby d3_45) (by decide) (by decide) (by decide) ?_
        refine g_aloadN X82 hx 52 (hb hby d3_51) rfl rfl rfl ?_
        refine g_iload X82 hx 54 (hb hby d3_52) rfl rfl ?_
        refine g_caload X82 hx 55 hZ e82 V_b ⟨by decide, by decide⟩ (show _ = (.int c1) from rfl) (hb hby d3_54) rfl ?_
        refine g_istore X82 hx 57 #[.val (.ref a), .val (.ref b), .val (.int (0 : Int32)), .val (.int (2 : Int32)), .val (.long ln), .second, .val (.int (0 : Int32)), .val (.int (0 : Int32)), .val (.int (1 : Int32)), .val (.int c1), .unset] (hb hby d3_55) rfl rfl ?_
        refine g_iload X82 hx 59 (hb hby d3_57) rfl rfl ?_
        refine g_callS X82 hx 62 hZ hown (own_w hw 19 rfl) (own_w hw 20 rfl) (own_w hw 3 rfl) (own_w hw 21 rfl) (by decide) [(.int c1)] [] (rm4 l Z a0 hw c1 h0 n0 Z0) e82 0 (by decide) (by decide) (by decide) (by decide) (by rw [hml]; rfl) (lenOf own_pd0 rfl) (hb hby d3_59) rfl (Nat.le_of_eq rfl) rfl (fun v85 T85 L85 X85 hQ85 => ?_)
        obtain ⟨rfl, N85q, e85⟩ := hQ85
        have N85 := Fr.app N82 N85q
        show Go p e below _ _ T85 (mkF m 62 #[.val (.ref a), .val (.ref b), .val (.int (0 : Int32)), .val (.int (2 : Int32)), .val (.long ln), .second, .val (.int (0 : Int32)), .val (.int (0 : Int32)), .val (.int (1 : Int32)), .val (.int c1), .unset] [(.int (own_term c1))])
        by_cases hc86 : (own_term c1) = (0 : Int32)
        · refine g_ifT X85 hx 96 (hb hby d3_62) ((if0 _ _).trans (teq hc86).1) (by decide) (by decide) ?_
          refine g_iinc X85 hx 99 (2 : Int32) #[.val (.ref a), .val (.ref b), .val (.int (0 : Int32)), .val (.int (2 : Int32)), .val (.long ln), .second, .val (.int (0 : Int32)), .val (.int (0 : Int32)), .val (.int (2 : Int32)), .val (.int c1), .unset] (hb hby d3_96) rfl (by decide) rfl rfl ?_
          refine g_goto X85 hx 21 (hb hby d3_99) (by decide) (by decide) ?_
          refine g_iload X85 hx 23 (hb hby d3_21) rfl rfl ?_
          refine g_iloadN X85 hx 24 (hb hby d3_23) rfl rfl ?_
          refine g_icT X85 hx 42 (hb hby d3_24) (by decide) (by decide) (by decide) ?_
          refine g_iload X85 hx 44 (hb hby d3_42) rfl rfl ?_
          refine g_iloadN X85 hx 45 (hb hby d3_44) rfl rfl ?_
          refine g_icF X85 hx 48 (hb hby d3_45) (by decide) rfl ?_
          refine g_goto X85 hx 102 (hb hby d3_48) (by decide) (by decide) ?_
          refine g_iconst X85 hx 103 (0 : Int32) (hb hby d3_102) (by decide) rfl ?_
          refine g_istore X85 hx 105 #[.val (.ref a), .val (.ref b), .val (.int (0 : Int32)), .val (.int (2 : Int32)), .val (.long ln), .second, .val (.int (0 : Int32)), .val (.int (0 : Int32)), .val (.int (2 : Int32)), .val (.int (0 : Int32)), .unset] (hb hby d3_103) rfl rfl ?_
          exact tail105_0 ln _ _ X85 e85 N85
        · refine g_ifF X85 hx 65 (hb hby d3_62) ((if0 _ _).trans (feq hc86).1) rfl ?_
          refine g_iload X85 hx 67 (hb hby d3_65) rfl rfl ?_
          refine g_aloadN X85 hx 68 (hb hby d3_67) rfl rfl rfl ?_
          refine g_aloadN X85 hx 69 (hb hby d3_68) rfl rfl rfl ?_
          refine g_iloadN X85 hx 70 (hb hby d3_69) rfl rfl ?_
          refine g_iload X85 hx 72 (hb hby d3_70) rfl rfl ?_
          refine g_callP X85 hx 75 hZ hown (own_w hw 49 rfl) (own_w hw 50 rfl) (own_w hw 51 rfl) (own_w hw 17 rfl) rfl (own_w hw 3 rfl) (own_w hw 52 rfl) (by decide) a E_a [(.ref b), (.int (0 : Int32)), (.int (1 : Int32))] [(.int c1)] (rm10_2_1 l Z a0 hw a b la c0 c1 kA h0 n0 Z0 F_la V_b hcc0) e85 1 (by decide) (by decide) (by decide) (by decide) (by rw [hml]; rfl) (lenOf own_pd1 rfl) (hb hby d3_72) rfl (Nat.le_of_eq rfl) rfl (fun v87 T87 L87 X87 hQ87 => ?_)
          obtain ⟨rfl, N87q, e87⟩ := hQ87
          have N87 := Fr.app N85 N87q
          show Go p e below _ _ T87 (mkF m 75 #[.val (.ref a), .val (.ref b), .val (.int (0 : Int32)), .val (.int (2 : Int32)), .val (.long ln), .second, .val (.int (0 : Int32)), .val (.int (0 : Int32)), .val (.int (1 : Int32)), .val (.int c1), .unset] [(.int c0), (.int c1)])
          refine g_callS X87 hx 78 hZ hown (own_w hw 53 rfl) (own_w hw 54 rfl) (own_w hw 3 rfl) (own_w hw 55 rfl) (by decide) [(.int c1), (.int c0)] [] (rm11 l Z a0 hw c1 c0 h0 n0 Z0) e87 0 (by decide) (by decide) (by decide) (by decide) (by rw [hml]; rfl) (lenOf own_pd2 rfl) (hb hby d3_75) rfl (Nat.le_of_eq rfl) rfl (fun v88 T88 L88 X88 hQ88 => ?_)
          obtain ⟨rfl, N88q, e88⟩ := hQ88
          have N88 := Fr.app N87 N88q
          show Go p e below _ _ T88 (mkF m 78 #[.val (.ref a), .val (.ref b), .val (.int (0 : Int32)), .val (.int (2 : Int32)), .val (.long ln), .second, .val (.int (0 : Int32)), .val (.int (0 : Int32)), .val (.int (1 : Int32)), .val (.int c1), .unset] [(.int (own_ends c1 c0))])
          by_cases hc89 : (own_ends c1 c0) = (0 : Int32)
          · refine g_ifT X88 hx 87 (hb hby d3_78) ((if0 _ _).trans (teq hc89).1) (by decide) (by decide) ?_
            refine g_iload X88 hx 89 (hb hby d3_87) rfl rfl ?_
            refine g_iconst X88 hx 90 (1 : Int32) (hb hby d3_89) (by decide) rfl ?_
            refine g_iadd X88 hx 91 (2 : Int32) (hb hby d3_90) (by decide) rfl ?_
            refine g_istore X88 hx 93 #[.val (.ref a), .val (.ref b), .val (.int (0 : Int32)), .val (.int (2 : Int32)), .val (.long ln), .second, .val (.int (2 : Int32)), .val (.int (0 : Int32)), .val (.int (1 : Int32)), .val (.int c1), .unset] (hb hby d3_91) rfl rfl ?_
            refine g_iconst X88 hx 94 (1 : Int32) (hb hby d3_93) (by decide) rfl ?_
            refine g_istore X88 hx 96 #[.val (.ref a), .val (.ref b), .val (.int (0 : Int32)), .val (.int (2 : Int32)), .val (.long ln), .second, .val (.int (2 : Int32)), .val (.int (1 : Int32)), .val (.int (1 : Int32)), .val (.int c1), .unset] (hb hby d3_94) rfl rfl ?_
            refine g_iinc X88 hx 99 (2 : Int32) #[.val (.ref a), .val (.ref b), .val (.int (0 : Int32)), .val (.int (2 : Int32)), .val (.long ln), .second, .val (.int (2 : Int32)), .val (.int (1 : Int32)), .val (.int (2 : Int32)), .val (.int c1), .unset] (hb hby d3_96) rfl (by decide) rfl rfl ?_
            refine g_goto X88 hx 21 (hb hby d3_99) (by decide) (by decide) ?_
            refine g_iload X88 hx 23 (hb hby d3_21) rfl rfl ?_
            refine g_iloadN X88 hx 24 (hb hby d3_23) rfl rfl ?_
            refine g_icT X88 hx 42 (hb hby d3_24) (by decide) (by decide) (by decide) ?_
            refine g_iload X88 hx 44 (hb hby d3_42) rfl rfl ?_
            refine g_iloadN X88 hx 45 (hb hby d3_44) rfl rfl ?_
            refine g_icF X88 hx 48 (hb hby d3_45) (by decide) rfl ?_
            refine g_goto X88 hx 102 (hb hby d3_48) (by decide) (by decide) ?_
            refine g_iconst X88 hx 103 (0 : Int32) (hb hby d3_102) (by decide) rfl ?_
            refine g_istore X88 hx 105 #[.val (.ref a), .val (.ref b), .val (.int (0 : Int32)), .val (.int (2 : Int32)), .val (.long ln), .second, .val (.int (2 : Int32)), .val (.int (1 : Int32)), .val (.int (2 : Int32)), .val (.int (0 : Int32)), .unset] (hb hby d3_103) rfl rfl ?_
            exact tail105_2 ln _ _ X88 e88 N88
          · refine g_ifF X88 hx 81 (hb hby d3_78) ((if0 _ _).trans (feq hc89).1) rfl ?_
            refine g_lload X88 hx 83 (hb hby d3_81) rfl rfl ?_
            refine g_lconst X88 hx 84 (1 : Int64) (hb hby d3_83) (by decide) rfl ?_
            refine g_ladd X88 hx 85 (ln + (1 : Int64)) (hb hby d3_84) rfl rfl ?_
            refine g_lstore X88 hx 87 #[.val (.ref a), .val (.ref b), .val (.int (0 : Int32)), .val (.int (2 : Int32)), .val (.long (ln + (1 : Int64))), .second, .val (.int (0 : Int32)), .val (.int (0 : Int32)), .val (.int (1 : Int32)), .val (.int c1), .unset] (hb hby d3_85) rfl rfl ?_
            refine g_iload X88 hx 89 (hb hby d3_87) rfl rfl ?_
            refine g_iconst X88 hx 90 (1 : Int32) (hb hby d3_89) (by decide) rfl ?_
            refine g_iadd X88 hx 91 (2 : Int32) (hb hby d3_90) (by decide) rfl ?_
            refine g_istore X88 hx 93 #[.val (.ref a), .val (.ref b), .val (.int (0 : Int32)), .val (.int (2 : Int32)), .val (.long (ln + (1 : Int64))), .second, .val (.int (2 : Int32)), .val (.int (0 : Int32)), .val (.int (1 : Int32)), .val (.int c1), .unset] (hb hby d3_91) rfl rfl ?_
            refine g_iconst X88 hx 94 (1 : Int32) (hb hby d3_93) (by decide) rfl ?_
            refine g_istore X88 hx 96 #[.val (.ref a), .val (.ref b), .val (.int (0 : Int32)), .val (.int (2 : Int32)), .val (.long (ln + (1 : Int64))), .second, .val (.int (2 : Int32)), .val (.int (1 : Int32)), .val (.int (1 : Int32)), .val (.int c1), .unset] (hb hby d3_94) rfl rfl ?_
            refine g_iinc X88 hx 99 (2 : Int32) #[.val (.ref a), .val (.ref b), .val (.int (0 : Int32)), .val (.int (2 : Int32)), .val (.long (ln + (1 : Int64))), .second, .val (.int (2 : Int32)), .val (.int (1 : Int32)), .val (.int (2 : Int32)), .val (.int c1), .unset] (hb hby d3_96) rfl (by decide) rfl rfl ?_
            refine g_goto X88 hx 21 (hb hby d3_99) (by decide) (by decide) ?_
            refine g_iload X88 hx 23 (hb hby d3_21) rfl rfl ?_
            refine g_iloadN X88 hx 24 (hb hby d3_23) rfl rfl ?_
            refine g_icT X88 hx 42 (hb hby d3_24) (by decide) (by decide) (by decide) ?_
            refine g_iload X88 hx 44 (hb hby d3_42) rfl rfl ?_
            refine g_iloadN X88 hx 45 (hb hby d3_44) rfl rfl ?_
            refine g_icF X88 hx 48 (hb hby d3_45) (by decide) rfl ?_
            refine g_goto X88 hx 102 (hb hby d3_48) (by decide) (by decide) ?_
            refine g_iconst X88 hx 103 (0 : Int32) (hb hby d3_102) (by decide) rfl ?_
            refine g_istore X88 hx 105 #[.val (.ref a), .val (.ref b), .val (.int (0 : Int32)), .val (.int (2 : Int32)), .val (.long (ln + (1 : Int64))), .second, .val (.int (2 : Int32)), .val (.int (1 : Int32)), .val (.int (2 : Int32)), .val (.int (0 : Int32)), .unset] (hb hby d3_103) rfl rfl ?_
            exact tail105_2 (ln + (1 : Int64)) _ _ X88 e88 N88
    · refine g_ifF X82 hx 65 (hb hby d3_62) ((if0 _ _).trans (feq hc83).1) rfl ?_
      refine g_iload X82 hx 67 (hb hby d3_65) rfl rfl ?_
      refine g_aloadN X82 hx 68 (hb hby d3_67) rfl rfl rfl ?_
      refine g_aloadN X82 hx 69 (hb hby d3_68) rfl rfl rfl ?_
      refine g_iloadN X82 hx 70 (hb hby d3_69) rfl rfl ?_
      refine g_iload X82 hx 72 (hb hby d3_70) rfl rfl ?_
      refine g_callP X82 hx 75 hZ hown (own_w hw 49 rfl) (own_w hw 50 rfl) (own_w hw 51 rfl) (own_w hw 17 rfl) rfl (own_w hw 3 rfl) (own_w hw 52 rfl) (by decide) a E_a [(.ref b), (.int (0 : Int32)), (.int (0 : Int32))] [(.int c0)] (rm10_2_0 l Z a0 hw a b la c0 c1 kA h0 n0 Z0 F_la V_b hla) e82 1 (by decide) (by decide) (by decide) (by decide) (by rw [hml]; rfl) (lenOf own_pd1 rfl) (hb hby d3_72) rfl (Nat.le_of_eq rfl) rfl (fun v90 T90 L90 X90 hQ90 => ?_)
      obtain ⟨rfl, N90q, e90⟩ := hQ90
      have N90 := Fr.app N82 N90q
      show Go p e below _ _ T90 (mkF m 75 #[.val (.ref a), .val (.ref b), .val (.int (0 : Int32)), .val (.int (2 : Int32)), .val (.long ln), .second, .val (.int (0 : Int32)), .val (.int (0 : Int32)), .val (.int (0 : Int32)), .val (.int c0), .unset] [(.int la), (.int c0)])
      refine g_callS X90 hx 78 hZ hown (own_w hw 53 rfl) (own_w hw 54 rfl) (own_w hw 3 rfl) (own_w hw 55 rfl) (by decide) [(.int c0), (.int la)] [] (rm11 l Z a0 hw c0 la h0 n0 Z0) e90 0 (by decide) (by decide) (by decide) (by decide) (by rw [hml]; rfl) (lenOf own_pd2 rfl) (hb hby d3_75) rfl (Nat.le_of_eq rfl) rfl (fun v91 T91 L91 X91 hQ91 => ?_)
      obtain ⟨rfl, N91q, e91⟩ := hQ91
      have N91 := Fr.app N90 N91q
      show Go p e below _ _ T91 (mkF m 78 #[.val (.ref a), .val (.ref b), .val (.int (0 : Int32)), .val (.int (2 : Int32)), .val (.long ln), .second, .val (.int (0 : Int32)), .val (.int (0 : Int32)), .val (.int (0 : Int32)), .val (.int c0), .unset] [(.int (own_ends c0 la))])
      by_cases hc92 : (own_ends c0 la) = (0 : Int32)
      · refine g_ifT X91 hx 87 (hb hby d3_78) ((if0 _ _).trans (teq hc92).1) (by decide) (by decide) ?_
        refine g_iload X91 hx 89 (hb hby d3_87) rfl rfl ?_
        refine g_iconst X91 hx 90 (1 : Int32) (hb hby d3_89) (by decide) rfl ?_
        refine g_iadd X91 hx 91 (1 : Int32) (hb hby d3_90) (by decide) rfl ?_
        refine g_istore X91 hx 93 #[.val (.ref a), .val (.ref b), .val (.int (0 : Int32)), .val (.int (2 : Int32)), .val (.long ln), .second, .val (.int (1 : Int32)), .val (.int (0 : Int32)), .val (.int (0 : Int32)), .val (.int c0), .unset] (hb hby d3_91) rfl rfl ?_
        refine g_iconst X91 hx 94 (1 : Int32) (hb hby d3_93) (by decide) rfl ?_
        refine g_istore X91 hx 96 #[.val (.ref a), .val (.ref b), .val (.int (0 : Int32)), .val (.int (2 : Int32)), .val (.long ln), .second, .val (.int (1 : Int32)), .val (.int (1 : Int32)), .val (.int (0 : Int32)), .val (.int c0), .unset] (hb hby d3_94) rfl rfl ?_
        refine g_iinc X91 hx 99 (1 : Int32) #[.val (.ref a), .val (.ref b), .val (.int (0 : Int32)), .val (.int (2 : Int32)), .val (.long ln), .second, .val (.int (1 : Int32)), .val (.int (1 : Int32)), .val (.int (1 : Int32)), .val (.int c0), .unset] (hb hby d3_96) rfl (by decide) rfl rfl ?_
        refine g_goto X91 hx 21 (hb hby d3_99) (by decide) (by decide) ?_
        refine g_iload X91 hx 23 (hb hby d3_21) rfl rfl ?_
        refine g_iloadN X91 hx 24 (hb hby d3_23) rfl rfl ?_
        refine g_icF X91 hx 27 (hb hby d3_24) (by decide) rfl ?_
        refine g_aloadN X91 hx 28 (hb hby d3_27) rfl rfl rfl ?_
        refine g_iload X91 hx 30 (hb hby d3_28) rfl rfl ?_
        refine g_caload X91 hx 31 hZ e91 V_b ⟨by decide, by decide⟩ (show _ = (.int c1) from rfl) (hb hby d3_30) rfl ?_
        refine g_bipush X91 hx 33 (13 : Int32) (hb hby d3_31) (by decide) rfl ?_
        by_cases hc93 : (13 : Int32) < c1
        · refine g_icF X91 hx 36 (hb hby d3_33) (tlt hc93).2.2.2 rfl ?_
          refine g_iinc X91 hx 39 (2 : Int32) #[.val (.ref a), .val (.ref b), .val (.int (0 : Int32)), .val (.int (2 : Int32)), .val (.long ln), .second, .val (.int (1 : Int32)), .val (.int (1 : Int32)), .val (.int (2 : Int32)), .val (.int c0), .unset] (hb hby d3_36) rfl (by decide) rfl rfl ?_
          refine g_goto X91 hx 21 (hb hby d3_39) (by decide) (by decide) ?_
          refine g_iload X91 hx 23 (hb hby d3_21) rfl rfl ?_
          refine g_iloadN X91 hx 24 (hb hby d3_23) rfl rfl ?_
          refine g_icT X91 hx 42 (hb hby d3_24) (by decide) (by decide) (by decide) ?_
          refine g_iload X91 hx 44 (hb hby d3_42) rfl rfl ?_
          refine g_iloadN X91 hx 45 (hb hby d3_44) rfl rfl ?_
          refine g_icF X91 hx 48 (hb hby d3_45) (by decide) rfl ?_
          refine g_goto X91 hx 102 (hb hby d3_48) (by decide) (by decide) ?_
          refine g_iconst X91 hx 103 (0 : Int32) (hb hby d3_102) (by decide) rfl ?_
          refine g_istore X91 hx 105 #[.val (.ref a), .val (.ref b), .val (.int (0 : Int32)), .val (.int (2 : Int32)), .val (.long ln), .second, .val (.int (1 : Int32)), .val (.int (1 : Int32)), .val (.int (2 : Int32)), .val (.int (0 : Int32)), .unset] (hb hby d3_103) rfl rfl ?_
          exact tail105_1 ln _ _ X91 e91 N91
        · refine g_icT X91 hx 42 (hb hby d3_33) (flt hc93).2.2.2 (by decide) (by decide) ?_
          refine g_iload X91 hx 44 (hb hby d3_42) rfl rfl ?_
          refine g_iloadN X91 hx 45 (hb hby d3_44) rfl rfl ?_
          refine g_icT X91 hx 51 (hb hby d3_45) (by decide) (by decide) (by decide) ?_
          refine g_aloadN X91 hx 52 (hb hby d3_51) rfl rfl rfl ?_
          refine g_iload X91 hx 54 (hb hby d3_52) rfl rfl ?_
          refine g_caload X91 hx 55 hZ e91 V_b ⟨by decide, by decide⟩ (show _ = (.int c1) from rfl) (hb hby d3_54) rfl ?_
          refine g_istore X91 hx 57 #[.val (.ref a), .val (.ref b), .val (.int (0 : Int32)), .val (.int (2 : Int32)), .val (.long ln), .second, .val (.int (1 : Int32)), .val (.int (1 : Int32)), .val (.int (1 : Int32)), .val (.int c1), .unset] (hb hby d3_55) rfl rfl ?_
          refine g_iload X91 hx 59 (hb hby d3_57) rfl rfl ?_
          refine g_callS X91 hx 62 hZ hown (own_w hw 19 rfl) (own_w hw 20 rfl) (own_w hw 3 rfl) (own_w hw 21 rfl) (by decide) [(.int c1)] [] (rm4 l Z a0 hw c1 h0 n0 Z0) e91 0 (by decide) (by decide) (by decide) (by decide) (by rw [hml]; rfl) (lenOf own_pd0 rfl) (hb hby d3_59) rfl (Nat.le_of_eq rfl) rfl (fun v94 T94 L94 X94 hQ94 => ?_)
          obtain ⟨rfl, N94q, e94⟩ := hQ94
          have N94 := Fr.app N91 N94q
          show Go p e below _ _ T94 (mkF m 62 #[.val (.ref a), .val (.ref b), .val (.int (0 : Int32)), .val (.int (2 : Int32)), .val (.long ln), .second, .val (.int (1 : Int32)), .val (.int (1 : Int32)), .val (.int (1 : Int32)), .val (.int c1), .unset] [(.int (own_term c1))])
          by_cases hc95 : (own_term c1) = (0 : Int32)
          · refine g_ifT X94 hx 96 (hb hby d3_62) ((if0 _ _).trans (teq hc95).1) (by decide) (by decide) ?_
            refine g_iinc X94 hx 99 (2 : Int32) #[.val (.ref a), .val (.ref b), .val (.int (0 : Int32)), .val (.int (2 : Int32)), .val (.long ln), .second, .val (.int (1 : Int32)), .val (.int (1 : Int32)), .val (.int (2 : Int32)), .val (.int c1), .unset] (hb hby d3_96) rfl (by decide) rfl rfl ?_
            refine g_goto X94 hx 21 (hb hby d3_99) (by decide) (by decide) ?_
            refine g_iload X94 hx 23 (hb hby d3_21) rfl rfl ?_
            refine g_iloadN X94 hx 24 (hb hby d3_23) rfl rfl ?_
            refine g_icT X94 hx 42 (hb hby d3_24) (by decide) (by decide) (by decide) ?_
            refine g_iload X94 hx 44 (hb hby d3_42) rfl rfl ?_
            refine g_iloadN X94 hx 45 (hb hby d3_44) rfl rfl ?_
            refine g_icF X94 hx 48 (hb hby d3_45) (by decide) rfl ?_
            refine g_goto X94 hx 102 (hb hby d3_48) (by decide) (by decide) ?_
            refine g_iconst X94 hx 103 (0 : Int32) (hb hby d3_102) (by decide) rfl ?_
            refine g_istore X94 hx 105 #[.val (.ref a), .val (.ref b), .val (.int (0 : Int32)), .val (.int (2 : Int32)), .val (.long ln), .second, .val (.int (1 : Int32)), .val (.int (1 : Int32)), .val (.int (2 : Int32)), .val (.int (0 : Int32)), .unset] (hb hby d3_103) rfl rfl ?_
            exact tail105_1 ln _ _ X94 e94 N94
          · refine g_ifF X94 hx 65 (hb hby d3_62) ((if0 _ _).trans (feq hc95).1) rfl ?_
            refine g_iload X94 hx 67 (hb hby d3_65) rfl rfl ?_
            refine g_aloadN X94 hx 68 (hb hby d3_67) rfl rfl rfl ?_
            refine g_aloadN X94 hx 69 (hb hby d3_68) rfl rfl rfl ?_
            refine g_iloadN X94 hx 70 (hb hby d3_69) rfl rfl ?_
            refine g_iload X94 hx 72 (hb hby d3_70) rfl rfl ?_
            refine g_callP X94 hx 75 hZ hown (own_w hw 49 rfl) (own_w hw 50 rfl) (own_w hw 51 rfl) (own_w hw 17 rfl) rfl (own_w hw 3 rfl) (own_w hw 52 rfl) (by decide) a E_a [(.ref b), (.int (0 : Int32)), (.int (1 : Int32))] [(.int c1)] (rm10_2_1 l Z a0 hw a b la c0 c1 kA h0 n0 Z0 F_la V_b hcc0) e94 1 (by decide) (by decide) (by decide) (by decide) (by rw [hml]; rfl) (lenOf own_pd1 rfl) (hb hby d3_72) rfl (Nat.le_of_eq rfl) rfl (fun v96 T96 L96 X96 hQ96 => ?_)
            obtain ⟨rfl, N96q, e96⟩ := hQ96
            have N96 := Fr.app N94 N96q
            show Go p e below _ _ T96 (mkF m 75 #[.val (.ref a), .val (.ref b), .val (.int (0 : Int32)), .val (.int (2 : Int32)), .val (.long ln), .second, .val (.int (1 : Int32)), .val (.int (1 : Int32)), .val (.int (1 : Int32)), .val (.int c1), .unset] [(.int c0), (.int c1)])
            refine g_callS X96 hx 78 hZ hown (own_w hw 53 rfl) (own_w hw 54 rfl) (own_w hw 3 rfl) (own_w hw 55 rfl) (by decide) [(.int c1), (.int c0)] [] (rm11 l Z a0 hw c1 c0 h0 n0 Z0) e96 0 (by decide) (by decide) (by decide) (by decide) (by rw [hml]; rfl) (lenOf own_pd2 rfl) (hb hby d3_75) rfl (Nat.le_of_eq rfl) rfl (fun v97 T97 L97 X97 hQ97 => ?_)
            obtain ⟨rfl, N97q, e97⟩ := hQ97
            have N97 := Fr.app N96 N97q
            show Go p e below _ _ T97 (mkF m 78 #[.val (.ref a), .val (.ref b), .val (.int (0 : Int32)), .val (.int (2 : Int32)), .val (.long ln), .second, .val (.int (1 : Int32)), .val (.int (1 : Int32)), .val (.int (1 : Int32)), .val (.int c1), .unset] [(.int (own_ends c1 c0))])
            by_cases hc98 : (own_ends c1 c0) = (0 : Int32)
            · refine g_ifT X97 hx 87 (hb hby d3_78) ((if0 _ _).trans (teq hc98).1) (by decide) (by decide) ?_
              refine g_iload X97 hx 89 (hb hby d3_87) rfl rfl ?_
              refine g_iconst X97 hx 90 (1 : Int32) (hb hby d3_89) (by decide) rfl ?_
              refine g_iadd X97 hx 91 (2 : Int32) (hb hby d3_90) (by decide) rfl ?_
              refine g_istore X97 hx 93 #[.val (.ref a), .val (.ref b), .val (.int (0 : Int32)), .val (.int (2 : Int32)), .val (.long ln), .second, .val (.int (2 : Int32)), .val (.int (1 : Int32)), .val (.int (1 : Int32)), .val (.int c1), .unset] (hb hby d3_91) rfl rfl ?_
              refine g_iconst X97 hx 94 (1 : Int32) (hb hby d3_93) (by decide) rfl ?_
              refine g_istore X97 hx 96 #[.val (.ref a), .val (.ref b), .val (.int (0 : Int32)), .val (.int (2 : Int32)), .val (.long ln), .second, .val (.int (2 : Int32)), .val (.int (1 : Int32)), .val (.int (1 : Int32)), .val (.int c1), .unset] (hb hby d3_94) rfl rfl ?_
              refine g_iinc X97 hx 99 (2 : Int32) #[.val (.ref a), .val (.ref b), .val (.int (0 : Int32)), .val (.int (2 : Int32)), .val (.long ln), .second, .val (.int (2 : Int32)), .val (.int (1 : Int32)), .val (.int (2 : Int32)), .val (.int c1), .unset] (hb hby d3_96) rfl (by decide) rfl rfl ?_
              refine g_goto X97 hx 21 (hb hby d3_99) (by decide) (by decide) ?_
              refine g_iload X97 hx 23 (hb hby d3_21) rfl rfl ?_
              refine g_iloadN X97 hx 24 (hb hby d3_23) rfl rfl ?_
              refine g_icT X97 hx 42 (hb hby d3_24) (by decide) (by decide) (by decide) ?_
              refine g_iload X97 hx 44 (hb hby d3_42) rfl rfl ?_
              refine g_iloadN X97 hx 45 (hb hby d3_44) rfl rfl ?_
              refine g_icF X97 hx 48 (hb hby d3_45) (by decide) rfl ?_
              refine g_goto X97 hx 102 (hb hby d3_48) (by decide) (by decide) ?_
              refine g_iconst X97 hx 103 (0 : Int32) (hb hby d3_102) (by decide) rfl ?_
              refine g_istore X97 hx 105 #[.val (.ref a), .val (.ref b), .val (.int (0 : Int32)), .val (.int (2 : Int32)), .val (.long ln), .second, .val (.int (2 : Int32)), .val (.int (1 : Int32)), .val (.int (2 : Int32)), .val (.int (0 : Int32)), .unset] (hb hby d3_103) rfl rfl ?_
              exact tail105_2 ln _ _ X97 e97 N97
            · refine g_ifF X97 hx 81 (hb hby d3_78) ((if0 _ _).trans (feq hc98).1) rfl ?_
              refine g_lload X97 hx 83 (hb hby d3_81) rfl rfl ?_
              refine g_lconst X97 hx 84 (1 : Int64) (hb hby d3_83) (by decide) rfl ?_
              refine g_ladd X97 hx 85 (ln + (1 : Int64)) (hb hby d3_84) rfl rfl ?_
              refine g_lstore X97 hx 87 #[.val (.ref a), .val (.ref b), .val (.int (0 : Int32)), .val (.int (2 : Int32)), .val (.long (ln + (1 : Int64))), .second, .val (.int (1 : Int32)), .val (.int (1 : Int32)), .val (.int (1 : Int32)), .val (.int c1), .unset] (hb hby d3_85) rfl rfl ?_
              refine g_iload X97 hx 89 (hb hby d3_87) rfl rfl ?_
              refine g_iconst X97 hx 90 (1 : Int32) (hb hby d3_89) (by decide) rfl ?_
              refine g_iadd X97 hx 91 (2 : Int32) (hb hby d3_90) (by decide) rfl ?_
              refine g_istore X97 hx 93 #[.val (.ref a), .val (.ref b), .val (.int (0 : Int32)), .val (.int (2 : Int32)), .val (.long (ln + (1 : Int64))), .second, .val (.int (2 : Int32)), .val (.int (1 : Int32)), .val (.int (1 : Int32)), .val (.int c1), .unset] (hb hby d3_91) rfl rfl ?_
              refine g_iconst X97 hx 94 (1 : Int32) (hb hby d3_93) (by decide) rfl ?_
              refine g_istore X97 hx 96 #[.val (.ref a), .val (.ref b), .val (.int (0 : Int32)), .val (.int (2 : Int32)), .val (.long (ln + (1 : Int64))), .second, .val (.int (2 : Int32)), .val (.int (1 : Int32)), .val (.int (1 : Int32)), .val (.int c1), .unset] (hb hby d3_94) rfl rfl ?_
              refine g_iinc X97 hx 99 (2 : Int32) #[.val (.ref a), .val (.ref b), .val (.int (0 : Int32)), .val (.int (2 : Int32)), .val (.long (ln + (1 : Int64))), .second, .val (.int (2 : Int32)), .val (.int (1 : Int32)), .val (.int (2 : Int32)), .val (.int c1), .unset] (hb hby d3_96) rfl (by decide) rfl rfl ?_
              refine g_goto X97 hx 21 (hb hby d3_99) (by decide) (by decide) ?_
              refine g_iload X97 hx 23 (hb hby d3_21) rfl rfl ?_
              refine g_iloadN X97 hx 24 (hb hby d3_23) rfl rfl ?_
              refine g_icT X97 hx 42 (hb hby d3_24) (by decide) (by decide) (by decide) ?_
              refine g_iload X97 hx 44 (hb hby d3_42) rfl rfl ?_
              refine g_iloadN X97 hx 45 (hb hby d3_44) rfl rfl ?_
              refine g_icF X97 hx 48 (hb hby d3_45) (by decide) rfl ?_
              refine g_goto X97 hx 102 (hb hby d3_48) (by decide) (by decide) ?_
              refine g_iconst X97 hx 103 (0 : Int32) (hb hby d3_102) (by decide) rfl ?_
              refine g_istore X97 hx 105 #[.val (.ref a), .val (.ref b), .val (.int (0 : Int32)), .val (.int (2 : Int32)), .val (.long (ln + (1 : Int64))), .second, .val (.int (2 : Int32)), .val (.int (1 : Int32)), .val (.int (2 : Int32)), .val (.int (0 : Int32)), .unset] (hb hby d3_103) rfl rfl ?_
              exact tail105_2 (ln + (1 : Int64)) _ _ X97 e97 N97
      · refine g_ifF X91 hx 81 (hb hby d3_78) ((if0 _ _).trans (feq hc92).1) rfl ?_
        refine g_lload X91 hx 83 (hb hby d3_81) rfl rfl ?_
        refine g_lconst X91 hx 84 (1 : Int64) (hb hby d3_83) (by decide) rfl ?_
        refine g_ladd X91 hx 85 (ln + (1 : Int64)) (hb hby d3_84) rfl rfl ?_
        refine g_lstore X91 hx 87 #[.val (.ref a), .val (.ref b), .val (.int (0 : Int32)), .val (.int (2 : Int32)), .val (.long (ln + (1 : Int64))), .second, .val (.int (0 : Int32)), .val (.int (0 : Int32)), .val (.int (0 : Int32)), .val (.int c0), .unset] (hb hby d3_85) rfl rfl ?_
        refine g_iload X91 hx 89 (hb hby d3_87) rfl rfl ?_
        refine g_iconst X91 hx 90 (1 : Int32) (hb hby d3_89) (by decide) rfl ?_
        refine g_iadd X91 hx 91 (1 : Int32) (hb hby d3_90) (by decide) rfl ?_
        refine g_istore X91 hx 93 #[.val (.ref a), .val (.ref b), .val (.int (0 : Int32)), .val (.int (2 : Int32)), .val (.long (ln + (1 : Int64))), .second, .val (.int (1 : Int32)), .val (.int (0 : Int32)), .val (.int (0 : Int32)), .val (.int c0), .unset] (hb hby d3_91) rfl rfl ?_
        refine g_iconst X91 hx 94 (1 : Int32) (hb hby d3_93) (by decide) rfl ?_
        refine g_istore X91 hx 96 #[.val (.ref a), .val (.ref b), .val (.int (0 : Int32)), .val (.int (2 : Int32)), .val (.long (ln + (1 : Int64))), .second, .val (.int (1 : Int32)), .val (.int (1 : Int32)), .val (.int (0 : Int32)), .val (.int c0), .unset] (hb hby d3_94) rfl rfl ?_
        refine g_iinc X91 hx 99 (1 : Int32) #[.val (.ref a), .val (.ref b), .val (.int (0 : Int32)), .val (.int (2 : Int32)), .val (.long (ln + (1 : Int64))), .second, .val (.int (1 : Int32)), .val (.int (1 : Int32)), .val (.int (1 : Int32)), .val (.int c0), .unset] (hb hby d3_96) rfl (by decide) rfl rfl ?_
        refine g_goto X91 hx 21 (hb hby d3_99) (by decide) (by decide) ?_
        refine g_iload X91 hx 23 (hb hby d3_21) rfl rfl ?_
        refine g_iloadN X91 hx 24 (hb hby d3_23) rfl rfl ?_
        refine g_icF X91 hx 27 (hb hby d3_24) (by decide) rfl ?_
        refine g_aloadN X91 hx 28 (hb hby d3_27) rfl rfl rfl ?_
        refine g_iload X91 hx 30 (hb hby d3_28) rfl rfl ?_
        refine g_caload X91 hx 31 hZ e91 V_b ⟨by decide, by decide⟩ (show _ = (.int c1) from rfl) (hb hby d3_30) rfl ?_
        refine g_bipush X91 hx 33 (13 : Int32) (hb hby d3_31) (by decide) rfl ?_
        by_cases hc99 : (13 : Int32) < c1
        · refine g_icF X91 hx 36 (hb hby d3_33) (tlt hc99).2.2.2 rfl ?_
          refine g_iinc X91 hx 39 (2 : Int32) #[.val (.ref a), .val (.ref b), .val (.int (0 : Int32)), .val (.int (2 : Int32)), .val (.long (ln + (1 : Int64))), .second, .val (.int (1 : Int32)), .val (.int (1 : Int32)), .val (.int (2 : Int32)), .val (.int c0), .unset] (hb hby d3_36) rfl (by decide) rfl rfl ?_
          refine g_goto X91 hx 21 (hb hby d3_39) (by decide) (by decide) ?_
          refine g_iload X91 hx 23 (hb hby d3_21) rfl rfl ?_
          refine g_iloadN X91 hx 24 (hb hby d3_23) rfl rfl ?_
          refine g_icT X91 hx 42 (hb hby d3_24) (by decide) (by decide) (by decide) ?_
          refine g_iload X91 hx 44 (hb hby d3_42) rfl rfl ?_
          refine g_iloadN X91 hx 45 (hb hby d3_44) rfl rfl ?_
          refine g_icF X91 hx 48 (hb hby d3_45) (by decide) rfl ?_
          refine g_goto X91 hx 102 (hb hby d3_48) (by decide) (by decide) ?_
          refine g_iconst X91 hx 103 (0 : Int32) (hb hby d3_102) (by decide) rfl ?_
          refine g_istore X91 hx 105 #[.val (.ref a), .val (.ref b), .val (.int (0 : Int32)), .val (.int (2 : Int32)), .val (.long (ln + (1 : Int64))), .second, .val (.int (1 : Int32)), .val (.int (1 : Int32)), .val (.int (2 : Int32)), .val (.int (0 : Int32)), .unset] (hb hby d3_103) rfl rfl ?_
          exact tail105_1 (ln + (1 : Int64)) _ _ X91 e91 N91
        · refine g_icT X91 hx 42 (hb hby d3_33) (flt hc99).2.2.2 (by decide) (by decide) ?_
          refine g_iload X91 hx 44 (hb hby d3_42) rfl rfl ?_
          refine g_iloadN X91 hx 45 (hb hby d3_44) rfl rfl ?_
          refine g_icT X91 hx 51 (hb hby d3_45) (by decide) (by decide) (by decide) ?_
          refine g_aloadN X91 hx 52 (hb hby d3_51) rfl rfl rfl ?_
          refine g_iload X91 hx 54 (hb hby d3_52) rfl rfl ?_
          refine g_caload X91 hx 55 hZ e91 V_b ⟨by decide, by decide⟩ (show _ = (.int c1) from rfl) (hb hby d3_54) rfl ?_
          refine g_istore X91 hx 57 #[.val (.ref a), .val (.ref b), .val (.int (0 : Int32)), .val (.int (2 : Int32)), .val (.long (ln + (1 : Int64))), .second, .val (.int (1 : Int32)), .val (.int (1 : Int32)), .val (.int (1 : Int32)), .val (.int c1), .unset] (hb hby d3_55) rfl rfl ?_
          refine g_iload X91 hx 59 (hb hby d3_57) rfl rfl ?_
          refine g_callS X91 hx 62 hZ hown (own_w hw 19 rfl) (own_w hw 20 rfl) (own_w hw 3 rfl) (own_w hw 21 rfl) (by decide) [(.int c1)] [] (rm4 l Z a0 hw c1 h0 n0 Z0) e91 0 (by decide) (by decide) (by decide) (by decide) (by rw [hml]; rfl) (lenOf own_pd0 rfl) (hb hby d3_59) rfl (Nat.le_of_eq rfl) rfl (fun v100 T100 L100 X100 hQ100 => ?_)
          obtain ⟨rfl, N100q, e100⟩ := hQ100
          have N100 := Fr.app N91 N100q
          show Go p e below _ _ T100 (mkF m 62 #[.val (.ref a), .val (.ref b), .val (.int (0 : Int32)), .val (.int (2 : Int32)), .val (.long (ln + (1 : Int64))), .second, .val (.int (1 : Int32)), .val (.int (1 : Int32)), .val (.int (1 : Int32)), .val (.int c1), .unset] [(.int (own_term c1))])
          by_cases hc101 : (own_term c1) = (0 : Int32)
          · refine g_ifT X100 hx 96 (hb hby d3_62) ((if0 _ _).trans (teq hc101).1) (by decide) (by decide) ?_
            refine g_iinc X100 hx 99 (2 : Int32) #[.val (.ref a), .val (.ref b), .val (.int (0 : Int32)), .val (.int (2 : Int32)), .val (.long (ln + (1 : Int64))), .second, .val (.int (1 : Int32)), .val (.int (1 : Int32)), .val (.int (2 : Int32)), .val (.int c1), .unset] (hb hby d3_96) rfl (by decide) rfl rfl ?_
            refine g_goto X100 hx 21 (hb hby d3_99) (by decide) (by decide) ?_
            refine g_iload X100 hx 23 (hb hby d3_21) rfl rfl ?_
            refine g_iloadN X100 hx 24 (hb hby d3_23) rfl rfl ?_
            refine g_icT X100 hx 42 (hb hby d3_24) (by decide) (by decide) (by decide) ?_
            refine g_iload X100 hx 44 (hb hby d3_42) rfl rfl ?_
            refine g_iloadN X100 hx 45 (hb hby d3_44) rfl rfl ?_
            refine g_icF X100 hx 48 (hb hby d3_45) (by decide) rfl ?_
            refine g_goto X100 hx 102 (hb hby d3_48) (by decide) (by decide) ?_
            refine g_iconst X100 hx 103 (0 : Int32) (hb hby d3_102) (by decide) rfl ?_
            refine g_istore X100 hx 105 #[.val (.ref a), .val (.ref b), .val (.int (0 : Int32)), .val (.int (2 : Int32)), .val (.long (ln + (1 : Int64))), .second, .val (.int (1 : Int32)), .val (.int (1 : Int32)), .val (.int (2 : Int32)), .val (.int (0 : Int32)), .unset] (hb hby d3_103) rfl rfl ?_
            exact tail105_1 (ln + (1 : Int64)) _ _ X100 e100 N100
          · refine g_ifF X100 hx 65 (hb hby d3_62) ((if0 _ _).trans (feq hc101).1) rfl ?_
            refine g_iload X100 hx 67 (hb hby d3_65) rfl rfl ?_
            refine g_aloadN X100 hx 68 (hb hby d3_67) rfl rfl rfl ?_
            refine g_aloadN X100 hx 69 (hb hby d3_68) rfl rfl rfl ?_
            refine g_iloadN X100 hx 70 (hb hby d3_69) rfl rfl ?_
            refine g_iload X100 hx 72 (hb hby d3_70) rfl rfl ?_
            refine g_callP X100 hx 75 hZ hown (own_w hw 49 rfl) (own_w hw 50 rfl) (own_w hw 51 rfl) (own_w hw 17 rfl) rfl (own_w hw 3 rfl) (own_w hw 52 rfl) (by decide) a E_a [(.ref b), (.int (0 : Int32)), (.int (1 : Int32))] [(.int c1)] (rm10_2_1 l Z a0 hw a b la c0 c1 kA h0 n0 Z0 F_la V_b hcc0) e100 1 (by decide) (by decide) (by decide) (by decide) (by rw [hml]; rfl) (lenOf own_pd1 rfl) (hb hby d3_72) rfl (Nat.le_of_eq rfl) rfl (fun v102 T102 L102 X102 hQ102 => ?_)
            obtain ⟨rfl, N102q, e102⟩ := hQ102
            have N102 := Fr.app N100 N102q
            show Go p e below _ _ T102 (mkF m 75 #[.val (.ref a), .val (.ref b), .val (.int (0 : Int32)), .val (.int (2 : Int32)), .val (.long (ln + (1 : Int64))), .second, .val (.int (1 : Int32)), .val (.int (1 : Int32)), .val (.int (1 : Int32)), .val (.int c1), .unset] [(.int c0), (.int c1)])
            refine g_callS X102 hx 78 hZ hown (own_w hw 53 rfl) (own_w hw 54 rfl) (own_w hw 3 rfl) (own_w hw 55 rfl) (by decide) [(.int c1), (.int c0)] [] (rm11 l Z a0 hw c1 c0 h0 n0 Z0) e102 0 (by decide) (by decide) (by decide) (by decide) (by rw [hml]; rfl) (lenOf own_pd2 rfl) (hb hby d3_75) rfl (Nat.le_of_eq rfl) rfl (fun v103 T103 L103 X103 hQ103 => ?_)
            obtain ⟨rfl, N103q, e103⟩ := hQ103
            have N103 := Fr.app N102 N103q
            show Go p e below _ _ T103 (mkF m 78 #[.val (.ref a), .val (.ref b), .val (.int (0 : Int32)), .val (.int (2 : Int32)), .val (.long (ln + (1 : Int64))), .second, .val (.int (1 : Int32)), .val (.int (1 : Int32)), .val (.int (1 : Int32)), .val (.int c1), .unset] [(.int (own_ends c1 c0))])
            by_cases hc104 : (own_ends c1 c0) = (0 : Int32)
            · refine g_ifT X103 hx 87 (hb hby d3_78) ((if0 _ _).trans (teq hc104).1) (by decide) (by decide) ?_
              refine g_iload X103 hx 89 (hb hby d3_87) rfl rfl ?_
              refine g_iconst X103 hx 90 (1 : Int32) (hb hby d3_89) (by decide) rfl ?_
              refine g_iadd X103 hx 91 (2 : Int32) (hb hby d3_90) (by decide) rfl ?_
              refine g_istore X103 hx 93 #[.val (.ref a), .val (.ref b), .val (.int (0 : Int32)), .val (.int (2 : Int32)), .val (.long (ln + (1 : Int64))), .second, .val (.int (2 : Int32)), .val (.int (1 : Int32)), .val (.int (1 : Int32)), .val (.int c1), .unset] (hb hby d3_91) rfl rfl ?_
              refine g_iconst X103 hx 94 (1 : Int32) (hb hby d3_93) (by decide) rfl ?_
              refine g_istore X103 hx 96 #[.val (.ref a), .val (.ref b), .val (.int (0 : Int32)), .val (.int (2 : Int32)), .val (.long (ln + (1 : Int64))), .second, .val (.int (2 : Int32)), .val (.int (1 : Int32)), .val (.int (1 : Int32)), .val (.int c1), .unset] (hb hby d3_94) rfl rfl ?_
              refine g_iinc X103 hx 99 (2 : Int32) #[.val (.ref a), .val (.ref b), .val (.int (0 : Int32)), .val (.int (2 : Int32)), .val (.long (ln + (1 : Int64))), .second, .val (.int (2 : Int32)), .val (.int (1 : Int32)), .val (.int (2 : Int32)), .val (.int c1), .unset] (hb hby d3_96) rfl (by decide) rfl rfl ?_
              refine g_goto X103 hx 21 (hb hby d3_99) (by decide) (by decide) ?_
              refine g_iload X103 hx 23 (hb hby d3_21) rfl rfl ?_
              refine g_iloadN X103 hx 24 (hb hby d3_23) rfl rfl ?_
              refine g_icT X103 hx 42 (hb hby d3_24) (by decide) (by decide) (by decide) ?_
              refine g_iload X103 hx 44 (hb hby d3_42) rfl rfl ?_
              refine g_iloadN X103 hx 45 (hb hby d3_44) rfl rfl ?_
              refine g_icF X103 hx 48 (hb hby d3_45) (by decide) rfl ?_
              refine g_goto X103 hx 102 (hb hby d3_48) (by decide) (by decide) ?_
              refine g_iconst X103 hx 103 (0 : Int32) (hb hby d3_102) (by decide) rfl ?_
              refine g_istore X103 hx 105 #[.val (.ref a), .val (.ref b), .val (.int (0 : Int32)), .val (.int (2 : Int32)), .val (.long (ln + (1 : Int64))), .second, .val (.int (2 : Int32)), .val (.int (1 : Int32)), .val (.int (2 : Int32)), .val (.int (0 : Int32)), .unset] (hb hby d3_103) rfl rfl ?_
              exact tail105_2 (ln + (1 : Int64)) _ _ X103 e103 N103
            · refine g_ifF X103 hx 81 (hb hby d3_78) ((if0 _ _).trans (feq hc104).1) rfl ?_
              refine g_lload X103 hx 83 (hb hby d3_81) rfl rfl ?_
              refine g_lconst X103 hx 84 (1 : Int64) (hb hby d3_83) (by decide) rfl ?_
              refine g_ladd X103 hx 85 ((ln + (1 : Int64)) + (1 : Int64)) (hb hby d3_84) rfl rfl ?_
              refine g_lstore X103 hx 87 #[.val (.ref a), .val (.ref b), .val (.int (0 : Int32)), .val (.int (2 : Int32)), .val (.long ((ln + (1 : Int64)) + (1 : Int64))), .second, .val (.int (1 : Int32)), .val (.int (1 : Int32)), .val (.int (1 : Int32)), .val (.int c1), .unset] (hb hby d3_85) rfl rfl ?_
              refine g_iload X103 hx 89 (hb hby d3_87) rfl rfl ?_
              refine g_iconst X103 hx 90 (1 : Int32) (hb hby d3_89) (by decide) rfl ?_
              refine g_iadd X103 hx 91 (2 : Int32) (hb hby d3_90) (by decide) rfl ?_
              refine g_istore X103 hx 93 #[.val (.ref a), .val (.ref b), .val (.int (0 : Int32)), .val (.int (2 : Int32)), .val (.long ((ln + (1 : Int64)) + (1 : Int64))), .second, .val (.int (2 : Int32)), .val (.int (1 : Int32)), .val (.int (1 : Int32)), .val (.int c1), .unset] (hb hby d3_91) rfl rfl ?_
              refine g_iconst X103 hx 94 (1 : Int32) (hb hby d3_93) (by decide) rfl ?_
              refine g_istore X103 hx 96 #[.val (.ref a), .val (.ref b), .val (.int (0 : Int32)), .val (.int (2 : Int32)), .val (.long ((ln + (1 : Int64)) + (1 : Int64))), .second, .val (.int (2 : Int32)), .val (.int (1 : Int32)), .val (.int (1 : Int32)), .val (.int c1), .unset] (hb hby d3_94) rfl rfl ?_
              refine g_iinc X103 hx 99 (2 : Int32) #[.val (.ref a), .val (.ref b), .val (.int (0 : Int32)), .val (.int (2 : Int32)), .val (.long ((ln + (1 : Int64)) + (1 : Int64))), .second, .val (.int (2 : Int32)), .val (.int (1 : Int32)), .val (.int (2 : Int32)), .val (.int c1), .unset] (hb hby d3_96) rfl (by decide) rfl rfl ?_
              refine g_goto X103 hx 21 (hb hby d3_99) (by decide) (by decide) ?_
              refine g_iload X103 hx 23 (hb hby d3_21) rfl rfl ?_
              refine g_iloadN X103 hx 24 (hb hby d3_23) rfl rfl ?_
              refine g_icT X103 hx 42 (hb hby d3_24) (by decide) (by decide) (by decide) ?_
              refine g_iload X103 hx 44 (hb hby d3_42) rfl rfl ?_
              refine g_iloadN X103 hx 45 (hb hby d3_44) rfl rfl ?_
              refine g_icF X103 hx 48 (hb hby d3_45) (by decide) rfl ?_
              refine g_goto X103 hx 102 (hb hby d3_48) (by decide) (by decide) ?_
              refine g_iconst X103 hx 103 (0 : Int32) (hb hby d3_102) (by decide) rfl ?_
              refine g_istore X103 hx 105 #[.val (.ref a), .val (.ref b), .val (.int (0 : Int32)), .val (.int (2 : Int32)), .val (.long ((ln + (1 : Int64)) + (1 : Int64))), .second, .val (.int (2 : Int32)), .val (.int (1 : Int32)), .val (.int (2 : Int32)), .val (.int (0 : Int32)), .unset] (hb hby d3_103) rfl rfl ?_
              exact tail105_2 ((ln + (1 : Int64)) + (1 : Int64)) _ _ X103 e103 N103
theorem own_ushr1 (x : Int32) : ¬ ((x.toUInt32 >>> ((1 : Int32) &&& 31).toUInt32).toInt32) < 0 := by
  rw [Int32.lt_iff_toInt_lt]
  show ¬ (x.toUInt32 >>> 1).toBitVec.toInt < 0
  rw [BitVec.toInt_neg_iff]
  have e : (x.toUInt32 >>> 1).toBitVec.toNat = x.toUInt32.toNat / 2 := by
    show (x.toUInt32 >>> 1).toNat = _
    rw [UInt32.toNat_shiftRight]; simp [Nat.shiftRight_eq_div_pow]
  have := x.toUInt32.toNat_lt
  omega
theorem own_three (a : Int32) (h0 : ¬ a < 0) (h : a < 3) : a = 0 ∨ a = 1 ∨ a = 2 := by
  rw [Int32.lt_iff_toInt_lt] at h0 h
  have z : (0 : Int32).toInt = 0 := rfl
  have z : (3 : Int32).toInt = 3 := rfl
  have : a.toInt = 0 ∨ a.toInt = 1 ∨ a.toInt = 2 := by omega
  simp only [← Int32.toInt_inj]
  exact this
theorem own_ln_n (t : Int32) (x : Int64) : own_ln 10 t x = if t = 13 then x else x + 1 := by
  unfold own_ln; rw [if_neg (by decide), if_neg (by decide)]
  by_cases h : t = 13 <;> simp [own_ends, h]
theorem own_ln_r (t : Int32) (x : Int64) : own_ln 13 t x = x + 1 := by
  unfold own_ln; rw [if_neg (by decide), if_neg (by decide)]
  simp [own_ends]
theorem own_ln_o (d t : Int32) (x : Int64) (h1 : ¬ d = 10) (h2 : ¬ d = 13) : own_ln d t x = x := by
  unfold own_ln own_term; simp [h1, h2]
theorem own_co_o (d t : Int32) (h1 : ¬ d = 10) (h2 : ¬ d = 13) (ht : t = 13 ∨ t = 10) : own_co d t 1 = 2 := by
  have e : own_high t = 0 := by rcases ht with rfl | rfl <;> decide
  unfold own_co own_term; simp only [h1, h2, e, if_true, if_false]
  (repeat' split) <;> decide
theorem own_pn2 : plainName "gleanwell/PositionBeginLinePinLaw" = true := by first | (simp [plainName, overriddenIn]; done) | decide +kernel
theorem own_pd3 : parseMethodDescriptor "()J" = some ⟨[], some .long⟩ := by decide +kernel
theorem own_pd4 : parseMethodDescriptor "(JC)V" = some ⟨[.long, .char], none⟩ := by decide +kernel
theorem own_pd5 : parseMethodDescriptor "()C" = some ⟨[], some .char⟩ := by decide +kernel
theorem own_pd6 : parseMethodDescriptor "([CII)V" = some ⟨[(.array .char), .int, .int], none⟩ := by decide +kernel
theorem own_pd7 : parseMethodDescriptor "()V" = some ⟨[], none⟩ := by decide +kernel
set_option maxRecDepth 65536 in
set_option maxHeartbeats 40000000 in
theorem rm0 (l : Launch) (Z : State) (a0 : Array Value) (hw : ∀ d ∈ tables_1, d.before a0 Z = true) (n : Int64) (fl pre x : Int32) (h0 : Heap) (n0 : Nat) (Z0 : n0 ≤ h0.size)  :
    OwnMet l Z Jvm.Pilot.@@N@@.x code maxLocals ret tables_1 room_1 [(.long n), (.int fl), (.int pre), (.int x)] h0 (fun v h L => v = some (.int 1) ∧ Fr n0 L) := by
  refine own_body (Ls := #[.val (.long n), .second, .val (.int fl), .val (.int pre), .val (.int x), .unset, .unset, .unset, .unset, .unset, .unset, .unset, .unset, .unset, .unset, .unset, .unset, .unset, .unset, .unset, .unset]) (plainFor_of_name own_pn2) (fun m => by first | (simp [entryFrame, mkF, argsToLocals, Value.category, maxLocals]; done) | rfl) (fun p e s m below meth cO T0 hx hby hml hown hnm hret hlk hZ X0 e0 => ?_)
  have hml : cO.maxLocals = 21 := hml
  have hown : s.vm.findClass "gleanwell/PositionBeginLinePinLaw" = some m.cls := hown
  have N0 := Fr.nil n0
  have tail106 : ∀ (t d to : Int32) (sA u po : Addr) (kU : ClassId) (lnq coq : Int64) (laq : Int32) (TJ : State) (hJ : Heap) (locsJ : List Loc), Stand p l e room_1 s m ([(.long n), (.int fl), (.int pre), (.int x)] : List Value).toArray below meth cO TJ locsJ 3 6 → TJ.heap = hJ → Fr n0 locsJ → t = 13 ∨ t = 10 → nar .char d = d → n0 ≤ hJ.size → n0 ≤ po → po ≠ u → Exa Z hJ po "gleanwell/Position" → Fld Z hJ po "gleanwell/Position" "line" "J" (.long lnq) → Fld Z hJ po "gleanwell/Position" "column" "J" (.long coq) → Fld Z hJ po "gleanwell/Position" "last" "C" (.int laq) → Arv Z hJ u kU .char (1 : Int32) [(.int d)] (.int (0 : Int32)) → Go p e below (fun o t L => FrameEnd s o t L room_1.cells room_1.slots) (fun v h L => v = some (.int 1) ∧ Fr n0 L) TJ (mkF m 106 #[.val (.long n), .second, .val (.int fl), .val (.int pre), .val (.int x), .val (.ref sA), .val (.int to), .val (.int t), .val (.int (x &&& (3 : Int32))), .val (.int d), .val (.ref u), .val (.ref po), .unset, .unset, .unset, .unset, .unset, .unset, .unset, .unset, .unset] []) := by
    intro t d to sA u po kU lnq coq laq TJ hJ locsJ XJ eJ NJ ht hd ZJ g_po ne_po_u E_po Fl_po Fc_po Fa_po V_u
    refine g_aload XJ hx 108 (hb hby at_106) rfl rfl rfl ?_
    refine g_callV XJ hx 111 hZ hown (own_w hw 29 rfl) (own_w hw 30 rfl) (own_w hw 32 rfl) (own_w hw 31 rfl) (own_w hw 3 rfl) (own_w hw 33 rfl) (by decide) po E_po [] [] (rm6 l Z a0 hw po lnq hJ n0 ZJ Fl_po) eJ 0 (by decide) (by decide) (by decide) (by decide) (by rw [hml]; rfl) (lenOf own_pd3 rfl) (hb hby at_108) rfl (Nat.le_of_eq rfl) rfl (fun v1 T1 L1 X1 hQ1 => ?_)
    obtain ⟨rfl, N1q, e1⟩ := hQ1
    have N1 := Fr.app NJ N1q
    show Go p e below _ _ T1 (mkF m 111 #[.val (.long n), .second, .val (.int fl), .val (.int pre), .val (.int x), .val (.ref sA), .val (.int to), .val (.int t), .val (.int (x &&& (3 : Int32))), .val (.int d), .val (.ref u), .val (.ref po), .unset, .unset, .unset, .unset, .unset, .unset, .unset, .unset, .unset] [(.long lnq)])
    refine g_lstore X1 hx 113 #[.val (.long n), .second, .val (.int fl), .val (.int pre), .val (.int x), .val (.ref sA), .val (.int to), .val (.int t), .val (.int (x &&& (3 : Int32))), .val (.int d), .val (.ref u), .val (.ref po), .val (.long lnq), .second, .unset, .unset, .unset, .unset, .unset, .unset, .unset] (hb hby at_111) rfl rfl ?_
    refine g_aload X1 hx 115 (hb hby at_113) rfl rfl rfl ?_
    refine g_lloadN X1 hx 116 (hb hby at_115) rfl rfl ?_
    refine g_iload X1 hx 118 (hb hby at_116) rfl rfl ?_
    refine g_callV X1 hx 121 hZ hown (own_w hw 34 rfl) (own_w hw 35 rfl) (own_w hw 37 rfl) (own_w hw 36 rfl) (own_w hw 3 rfl) (own_w hw 38 rfl) (by decide) po E_po [(.long n), (.int t)] [] (rm7 l Z a0 hw po n lnq t _ _ hJ n0 ZJ g_po (by rcases ht with rfl | rfl <;> decide) E_po Fl_po Fc_po Fa_po) e1 0 (by decide) (by decide) (by decide) (by decide) (by rw [hml]; rfl) (lenOf own_pd4 rfl) (hb hby at_118) rfl (Nat.le_of_eq rfl) rfl (fun v2 T2 L2 X2 hQ2 => ?_)
    obtain ⟨rfl, N2q, K2, E2x, Fl_po, Fc_po, Fa_po⟩ := hQ2
    have N2 := Fr.app N1 N2q
    have E_po := E_po.keep K2
    have V_u := V_u.keep K2 (ninS (Ne.symm ne_po_u) nin0)
    have Z2 := Nat.le_trans ZJ K2.1
    show Go p e below _ _ T2 (mkF m 121 #[.val (.long n), .second, .val (.int fl), .val (.int pre), .val (.int x), .val (.ref sA), .val (.int to), .val (.int t), .val (.int (x &&& (3 : Int32))), .val (.int d), .val (.ref u), .val (.ref po), .val (.long lnq), .second, .unset, .unset, .unset, .unset, .unset, .unset, .unset] [])
    refine g_aload X2 hx 123 (hb hby at_121) rfl rfl rfl ?_
    refine g_callV X2 hx 126 hZ hown (own_w hw 29 rfl) (own_w hw 30 rfl) (own_w hw 32 rfl) (own_w hw 31 rfl) (own_w hw 3 rfl) (own_w hw 33 rfl) (by decide) po E_po [] [] (rm6 l Z a0 hw po (lnq + n) T2.heap n0 Z2 Fl_po) rfl 0 (by decide) (by decide) (by decide) (by decide) (by rw [hml]; rfl) (lenOf own_pd3 rfl) (hb hby at_123) rfl (Nat.le_of_eq rfl) rfl (fun v3 T3 L3 X3 hQ3 => ?_)
    obtain ⟨rfl, N3q, e3⟩ := hQ3
    have N3 := Fr.app N2 N3q
    show Go p e below _ _ T3 (mkF m 126 #[.val (.long n), .second, .val (.int fl), .val (.int pre), .val (.int x), .val (.ref sA), .val (.int to), .val (.int t), .val (.int (x &&& (3 : Int32))), .val (.int d), .val (.ref u), .val (.ref po), .val (.long lnq), .second, .unset, .unset, .unset, .unset, .unset, .unset, .unset] [(.long (lnq + n))])
    refine g_lload X3 hx 128 (hb hby at_126) rfl rfl ?_
    refine g_lloadN X3 hx 129 (hb hby at_128) rfl rfl ?_
    refine g_ladd X3 hx 130 (lnq + n) (hb hby at_129) rfl rfl ?_
    refine g_lcmp X3 hx 131 (hb hby at_130) rfl ?_
    refine g_ifF X3 hx 134 (hb hby at_131) (own_eqL rfl).2 rfl ?_
    refine g_aload X3 hx 136 (hb hby at_134) rfl rfl rfl ?_
    refine g_callV X3 hx 139 hZ hown (own_w hw 39 rfl) (own_w hw 40 rfl) (own_w hw 42 rfl) (own_w hw 41 rfl) (own_w hw 3 rfl) (own_w hw 43 rfl) (by decide) po E_po [] [] (rm8 l Z a0 hw po (1 : Int64) T2.heap n0 Z2 Fc_po) e3 0 (by decide) (by decide) (by decide) (by decide) (by rw [hml]; rfl) (lenOf own_pd3 rfl) (hb hby at_136) rfl (Nat.le_of_eq rfl) rfl (fun v4 T4 L4 X4 hQ4 => ?_)
    obtain ⟨rfl, N4q, e4⟩ := hQ4
    have N4 := Fr.app N3 N4q
    show Go p e below _ _ T4 (mkF m 139 #[.val (.long n), .second, .val (.int fl), .val (.int pre), .val (.int x), .val (.ref sA), .val (.int to), .val (.int t), .val (.int (x &&& (3 : Int32))), .val (.int d), .val (.ref u), .val (.ref po), .val (.long lnq), .second, .unset, .unset, .unset, .unset, .unset, .unset, .unset] [(.long (1 : Int64))])
    refine g_lconst X4 hx 140 (1 : Int64) (hb hby at_139) (by decide) rfl ?_
    refine g_lcmp X4 hx 141 (hb hby at_140) rfl ?_
    refine g_ifF X4 hx 144 (hb hby at_141) (own_eqL rfl).2 rfl ?_
    refine g_aload X4 hx 146 (hb hby at_144) rfl rfl rfl ?_
    refine g_callV X4 hx 149 hZ hown (own_w hw 44 rfl) (own_w hw 45 rfl) (own_w hw 47 rfl) (own_w hw 46 rfl) (own_w hw 3 rfl) (own_w hw 48 rfl) (by decide) po E_po [] [] (rm9 l Z a0 hw po t T2.heap n0 Z2 Fa_po (by rcases ht with rfl | rfl <;> decide)) e4 0 (by decide) (by decide) (by decide) (by decide) (by rw [hml]; rfl) (lenOf own_pd5 rfl) (hb hby at_146) rfl (Nat.le_of_eq rfl) rfl (fun v5 T5 L5 X5 hQ5 => ?_)
    obtain ⟨rfl, N5q, e5⟩ := hQ5
    have N5 := Fr.app N4 N5q
    show Go p e below _ _ T5 (mkF m 149 #[.val (.long n), .second, .val (.int fl), .val (.int pre), .val (.int x), .val (.ref sA), .val (.int to), .val (.int t), .val (.int (x &&& (3 : Int32))), .val (.int d), .val (.ref u), .val (.ref po), .val (.long lnq), .second, .unset, .unset, .unset, .unset, .unset, .unset, .unset] [(.int t)])
    refine g_iload X5 hx 151 (hb hby at_149) rfl rfl ?_
    refine g_icF X5 hx 154 (hb hby at_151) (teq rfl).2 rfl ?_
    refine g_iconst X5 hx 155 (1 : Int32) (hb hby at_154) (by decide) rfl ?_
    refine g_goto X5 hx 159 (hb hby at_155) (by decide) (by decide) ?_
    refine g_istore X5 hx 161 #[.val (.long n), .second, .val (.int fl), .val (.int pre), .val (.int x), .val (.ref sA), .val (.int to), .val (.int t), .val (.int (x &&& (3 : Int32))), .val (.int d), .val (.ref u), .val (.ref po), .val (.long lnq), .second, .val (.int (1 : Int32)), .unset, .unset, .unset, .unset, .unset, .unset] (hb hby at_159) rfl rfl ?_
    refine g_aload X5 hx 163 (hb hby at_161) rfl rfl rfl ?_
    refine g_aload X5 hx 165 (hb hby at_163) rfl rfl rfl ?_
    refine g_iconst X5 hx 166 (0 : Int32) (hb hby at_165) (by decide) rfl ?_
    refine g_iconst X5 hx 167 (1 : Int32) (hb hby at_166) (by decide) rfl ?_
    refine g_callV X5 hx 170 hZ hown (own_w hw 14 rfl) (own_w hw 15 rfl) (own_w hw 17 rfl) (own_w hw 16 rfl) (own_w hw 3 rfl) (own_w hw 18 rfl) (by decide) po E_po [(.ref u), (.int (0 : Int32)), (.int (1 : Int32))] [] (rm3_x l Z a0 hw po u (lnq + n) (1 : Int64) t d kU T2.heap n0 Z2 g_po E_po Fl_po Fc_po Fa_po V_u (by rcases ht with rfl | rfl <;> decide) hd ne_po_u) e5 0 (by decide) (by decide) (by decide) (by decide) (by rw [hml]; rfl) (lenOf own_pd6 rfl) (hb hby at_167) rfl (Nat.le_of_eq rfl) rfl (fun v6 T6 L6 X6 hQ6 => ?_)
    obtain ⟨rfl, N6q, K6, E6x, Fl_po, Fc_po, Fa_po⟩ := hQ6
    have N6 := Fr.app N5 N6q
    have E_po := E_po.keep K6
    have V_u := V_u.keep K6 (ninS (Ne.symm ne_po_u) nin0)
    have Z6 := Nat.le_trans Z2 K6.1
    show Go p e below _ _ T6 (mkF m 170 #[.val (.long n), .second, .val (.int fl), .val (.int pre), .val (.int x), .val (.ref sA), .val (.int to), .val (.int t), .val (.int (x &&& (3 : Int32))), .val (.int d), .val (.ref u), .val (.ref po), .val (.long lnq), .second, .val (.int (1 : Int32)), .unset, .unset, .unset, .unset, .unset, .unset] [])
    refine g_iload X6 hx 172 (hb hby at_170) rfl rfl ?_
    refine g_bipush X6 hx 174 (10 : Int32) (hb hby at_172) (by decide) rfl ?_
    by_cases hc7 : d = (10 : Int32)
    · refine g_icT X6 hx 184 (hb hby at_174) (teq hc7).1 (by decide) (by decide) ?_
      refine g_iconst X6 hx 185 (1 : Int32) (hb hby at_184) (by decide) rfl ?_
      refine g_goto X6 hx 189 (hb hby at_185) (by decide) (by decide) ?_
      refine g_istore X6 hx 191 #[.val (.long n), .second, .val (.int fl), .val (.int pre), .val (.int x), .val (.ref sA), .val (.int to), .val (.int t), .val (.int (x &&& (3 : Int32))), .val (.int d), .val (.ref u), .val (.ref po), .val (.long lnq), .second, .val (.int (1 : Int32)), .val (.int (1 : Int32)), .unset, .unset, .unset, .unset, .unset] (hb hby at_189) rfl rfl ?_
      refine g_iload X6 hx 193 (hb hby at_191) rfl rfl ?_
      refine g_bipush X6 hx 195 (13 : Int32) (hb hby at_193) (by decide) rfl ?_
      have hk8 : ¬ (d = (13 : Int32)) := by rw [hc7]; decide
      refine g_icF X6 hx 198 (hb hby at_195) (feq hk8).1 rfl ?_
      refine g_iload X6 hx 200 (hb hby at_198) rfl rfl ?_
      refine g_bipush X6 hx 202 (10 : Int32) (hb hby at_200) (by decide) rfl ?_
      refine g_icF X6 hx 205 (hb hby at_202) (teq hc7).2 rfl ?_
      refine g_iload X6 hx 207 (hb hby at_205) rfl rfl ?_
      refine g_bipush X6 hx 209 (13 : Int32) (hb hby at_207) (by decide) rfl ?_
      by_cases hc9 : t = (13 : Int32)
      · refine g_icT X6 hx 216 (hb hby at_209) (teq hc9).1 (by decide) (by decide) ?_
        refine g_iconst X6 hx 217 (0 : Int32) (hb hby at_216) (by decide) rfl ?_
        refine g_istore X6 hx 219 #[.val (.long n), .second, .val (.int fl), .val (.int pre), .val (.int x), .val (.ref sA), .val (.int to), .val (.int t), .val (.int (x &&& (3 : Int32))), .val (.int d), .val (.ref u), .val (.ref po), .val (.long lnq), .second, .val (.int (1 : Int32)), .val (.int (1 : Int32)), .val (.int (0 : Int32)), .unset, .unset, .unset, .unset] (hb hby at_217) rfl rfl ?_
        refine g_lload X6 hx 221 (hb hby at_219) rfl rfl ?_
        refine g_lloadN X6 hx 222 (hb hby at_221) rfl rfl ?_
        refine g_ladd X6 hx 223 (lnq + n) (hb hby at_222) rfl rfl ?_
        refine g_iload X6 hx 225 (hb hby at_223) rfl rfl ?_
        refine g_ifT X6 hx 232 (hb hby at_225) (by decide) (by decide) (by decide) ?_
        refine g_lconst X6 hx 233 (0 : Int64) (hb hby at_232) (by decide) rfl ?_
        refine g_ladd X6 hx 234 ((lnq + n) + (0 : Int64)) (hb hby at_233) rfl rfl ?_
        refine g_lstore X6 hx 236 #[.val (.long n), .second, .val (.int fl), .val (.int pre), .val (.int x), .val (.ref sA), .val (.int to), .val (.int t), .val (.int (x &&& (3 : Int32))), .val (.int d), .val (.ref u), .val (.ref po), .val (.long lnq), .second, .val (.int (1 : Int32)), .val (.int (1 : Int32)), .val (.int (0 : Int32)), .val (.long ((lnq + n) + (0 : Int64))), .second, .unset, .unset] (hb hby at_234) rfl rfl ?_
        refine g_iload X6 hx 238 (hb hby at_236) rfl rfl ?_
        refine g_ifF X6 hx 241 (hb hby at_238) (by decide) rfl ?_
        refine g_lconst X6 hx 242 (1 : Int64) (hb hby at_241) (by decide) rfl ?_
        refine g_goto X6 hx 248 (hb hby at_242) (by decide) (by decide) ?_
        refine g_lstore X6 hx 250 #[.val (.long n), .second, .val (.int fl), .val (.int pre), .val (.int x), .val (.ref sA), .val (.int to), .val (.int t), .val (.int (x &&& (3 : Int32))), .val (.int d), .val (.ref u), .val (.ref po), .val (.long lnq), .second, .val (.int (1 : Int32)), .val (.int (1 : Int32)), .val (.int (0 : Int32)), .val (.long ((lnq + n) + (0 : Int64))), .second, .val (.long (1 : Int64)), .second] (hb hby at_248) rfl rfl ?_
        refine g_iload X6 hx 252 (hb hby at_250) rfl rfl ?_
        refine g_ifF X6 hx 255 (hb hby at_252) (by decide) rfl ?_
        refine g_aload X6 hx 257 (hb hby at_255) rfl rfl rfl ?_
        refine g_callV X6 hx 260 hZ hown (own_w hw 29 rfl) (own_w hw 30 rfl) (own_w hw 32 rfl) (own_w hw 31 rfl) (own_w hw 3 rfl) (own_w hw 33 rfl) (by decide) po E_po [] [] (rm6 l Z a0 hw po (own_ln d t (lnq + n)) T6.heap n0 Z6 Fl_po) rfl 0 (by decide) (by decide) (by decide) (by decide) (by rw [hml]; rfl) (lenOf own_pd3 rfl) (hb hby at_257) rfl (Nat.le_of_eq rfl) rfl (fun v10 T10 L10 X10 hQ10 => ?_)
        obtain ⟨rfl, N10q, e10⟩ := hQ10
        have N10 := Fr.app N6 N10q
        show Go p e below _ _ T10 (mkF m 260 #[.val (.long n), .second, .val (.int fl), .val (.int pre), .val (.int x), .val (.ref sA), .val (.int to), .val (.int t), .val (.int (x &&& (3 : Int32))), .val (.int d), .val (.ref u), .val (.ref po), .val (.long lnq), .second, .val (.int (1 : Int32)), .val (.int (1 : Int32)), .val (.int (0 : Int32)), .val (.long ((lnq + n) + (0 : Int64))), .second, .val (.long (1 : Int64)), .second] [(.long (own_ln d t (lnq + n)))])
        refine g_lload X10 hx 262 (hb hby at_260) rfl rfl ?_
        refine g_lcmp X10 hx 263 (hb hby at_262) rfl ?_
        have hk11 : (own_ln d t (lnq + n)) = ((lnq + n) + (0 : Int64)) := by rw [hc7, own_ln_n, if_pos hc9]; exact (Int64.add_zero _).symm
        refine g_ifF X10 hx 266 (hb hby at_263) (own_eqL hk11).2 rfl ?_
        refine g_aload X10 hx 268 (hb hby at_266) rfl rfl rfl ?_
        refine g_callV X10 hx 271 hZ hown (own_w hw 39 rfl) (own_w hw 40 rfl) (own_w hw 42 rfl) (own_w hw 41 rfl) (own_w hw 3 rfl) (own_w hw 43 rfl) (by decide) po E_po [] [] (rm8 l Z a0 hw po (own_co d t (1 : Int64)) T6.heap n0 Z6 Fc_po) e10 0 (by decide) (by decide) (by decide) (by decide) (by rw [hml]; rfl) (lenOf own_pd3 rfl) (hb hby at_268) rfl (Nat.le_of_eq rfl) rfl (fun v12 T12 L12 X12 hQ12 => ?_)
        obtain ⟨rfl, N12q, e12⟩ := hQ12
        have N12 := Fr.app N10 N12q
        show Go p e below _ _ T12 (mkF m 271 #[.val (.long n), .second, .val (.int fl), .val (.int pre), .val (.int x), .val (.ref sA), .val (.int to), .val (.int t), .val (.int (x &&& (3 : Int32))), .val (.int d), .val (.ref u), .val (.ref po), .val (.long lnq), .second, .val (.int (1 : Int32)), .val (.int (1 : Int32)), .val (.int (0 : Int32)), .val (.long ((lnq + n) + (0 : Int64))), .second, .val (.long (1 : Int64)), .second] [(.long (own_co d t (1 : Int64)))])
        refine g_lload X12 hx 273 (hb hby at_271) rfl rfl ?_
        refine g_lcmp X12 hx 274 (hb hby at_273) rfl ?_
        have hk13 : (own_co d t (1 : Int64)) = (1 : Int64) := by rw [hc7]; rfl
        refine g_ifF X12 hx 277 (hb hby at_274) (own_eqL hk13).2 rfl ?_
        refine g_iconst X12 hx 278 (1 : Int32) (hb hby at_277) (by decide) rfl ?_
        refine g_goto X12 hx 282 (hb hby at_278) (by decide) (by decide) ?_
        exact g_retZ X12 hx hret hlk rfl (hb hby at_282) (by decide) (by decide) ⟨rfl, N12⟩
      · refine g_icF X6 hx 212 (hb hby at_209) (feq hc9).1 rfl ?_
        refine g_iconst X6 hx 213 (1 : Int32) (hb hby at_212) (by decide) rfl ?_
        refine g_goto X6 hx 217 (hb hby at_213) (by decide) (by decide) ?_
        refine g_istore X6 hx 219 #[.val (.long n), .second, .val (.int fl), .val (.int pre), .val (.int x), .val (.ref sA), .val (.int to), .val (.int t), .val (.int (x &&& (3 : Int32))), .val (.int d), .val (.ref u), .val (.ref po), .val (.long lnq), .second, .val (.int (1 : Int32)), .val (.int (1 : Int32)), .val (.int (1 : Int32)), .unset, .unset, .unset, .unset] (hb hby at_217) rfl rfl ?_
        refine g_lload X6 hx 221 (hb hby at_219) rfl rfl ?_
        refine g_lloadN X6 hx 222 (hb hby at_221) rfl rfl ?_
        refine g_ladd X6 hx 223 (lnq + n) (hb hby at_222) rfl rfl ?_
        refine g_iload X6 hx 225 (hb hby at_223) rfl rfl ?_
        refine g_ifF X6 hx 228 (hb hby at_225) (by decide) rfl ?_
        refine g_lconst X6 hx 229 (1 : Int64) (hb hby at_228) (by decide) rfl ?_
        refine g_goto X6 hx 233 (hb hby at_229) (by decide) (by decide) ?_
        refine g_ladd X6 hx 234 ((lnq + n) + (1 : Int64)) (hb hby at_233) rfl rfl ?_
        refine g_lstore X6 hx 236 #[.val (.long n), .second, .val (.int fl), .val (.int pre), .val (.int x), .val (.ref sA), .val (.int to), .val (.int t), .val (.int (x &&& (3 : Int32))), .val (.int d), .val (.ref u), .val (.ref po), .val (.long lnq), .second, .val (.int (1 : Int32)), .val (.int (1 : Int32)), .val (.int (1 : Int32)), .val (.long ((lnq + n) + (1 : Int64))), .second, .unset, .unset] (hb hby at_234) rfl rfl ?_
        refine g_iload X6 hx 238 (hb hby at_236) rfl rfl ?_
        refine g_ifF X6 hx 241 (hb hby at_238) (by decide) rfl ?_
        refine g_lconst X6 hx 242 (1 : Int64) (hb hby at_241) (by decide) rfl ?_
        refine g_goto X6 hx 248 (hb hby at_242) (by decide) (by decide) ?_
        refine g_lstore X6 hx 250 #[.val (.long n), .second, .val (.int fl), .val (.int pre), .val (.int x), .val (.ref sA), .val (.int to), .val (.int t), .val (.int (x &&& (3 : Int32))), .val (.int d), .val (.ref u), .val (.ref po), .val (.long lnq), .second, .val (.int (1 : Int32)), .val (.int (1 : Int32)), .val (.int (1 : Int32)), .val (.long ((lnq + n) + (1 : Int64))), .second, .val (.long (1 : Int64)), .second] (hb hby at_248) rfl rfl ?_
        refine g_iload X6 hx 252 (hb hby at_250) rfl rfl ?_
        refine g_ifF X6 hx 255 (hb hby at_252) (by decide) rfl ?_
        refine g_aload X6 hx 257 (hb hby at_255) rfl rfl rfl ?_
        refine g_callV X6 hx 260 hZ hown (own_w hw 29 rfl) (own_w hw 30 rfl) (own_w hw 32 rfl) (own_w hw 31 rfl) (own_w hw 3 rfl) (own_w hw 33 rfl) (by decide) po E_po [] [] (rm6 l Z a0 hw po (own_ln d t (lnq + n)) T6.heap n0 Z6 Fl_po) rfl 0 (by decide) (by decide) (by decide) (by decide) (by rw [hml]; rfl) (lenOf own_pd3 rfl) (hb hby at_257) rfl (Nat.le_of_eq rfl) rfl (fun v14 T14 L14 X14 hQ14 => ?_)
        obtain ⟨rfl, N14q, e14⟩ := hQ14
        have N14 := Fr.app N6 N14q
        show Go p e below _ _ T14 (mkF m 260 #[.val (.long n), .second, .val (.int fl), .val (.int pre), .val (.int x), .val (.ref sA), .val (.int to), .val (.int t), .val (.int (x &&& (3 : Int32))), .val (.int d), .val (.ref u), .val (.ref po), .val (.long lnq), .second, .val (.int (1 : Int32)), .val (.int (1 : Int32)), .val (.int (1 : Int32)), .val (.long ((lnq + n) + (1 : Int64))), .second, .val (.long (1 : Int64)), .second] [(.long (own_ln d t (lnq + n)))])
        refine g_lload X14 hx 262 (hb hby at_260) rfl rfl ?_
        refine g_lcmp X14 hx 263 (hb hby at_262) rfl ?_
        have hk15 : (own_ln d t (lnq + n)) = ((lnq + n) + (1 : Int64)) := by rw [hc7, own_ln_n, if_neg hc9]
        refine g_ifF X14 hx 266 (hb hby at_263) (own_eqL hk15).2 rfl ?_
        refine g_aload X14 hx 268 (hb hby at_266) rfl rfl rfl ?_
        refine g_callV X14 hx 271 hZ hown (own_w hw 39 rfl) (own_w hw 40 rfl) (own_w hw 42 rfl) (own_w hw 41 rfl) (own_w hw 3 rfl) (own_w hw 43 rfl) (by decide) po E_po [] [] (rm8 l Z a0 hw po (own_co d t (1 : Int64)) T6.heap n0 Z6 Fc_po) e14 0 (by decide) (by decide) (by decide) (by decide) (by rw [hml]; rfl) (lenOf own_pd3 rfl) (hb hby at_268) rfl (Nat.le_of_eq rfl) rfl (fun v16 T16 L16 X16 hQ16 => ?_)
        obtain ⟨rfl, N16q, e16⟩ := hQ16
        have N16 := Fr.app N14 N16q
        show Go p e below _ _ T16 (mkF m 271 #[.val (.long n), .second, .val (.int fl), .val (.int pre), .val (.int x), .val (.ref sA), .val (.int to), .val (.int t), .val (.int (x &&& (3 : Int32))), .val (.int d), .val (.ref u), .val (.ref po), .val (.long lnq), .second, .val (.int (1 : Int32)), .val (.int (1 : Int32)), .val (.int (1 : Int32)), .val (.long ((lnq + n) + (1 : Int64))), .second, .val (.long (1 : Int64)), .second] [(.long (own_co d t (1 : Int64)))])
        refine g_lload X16 hx 273 (hb hby at_271) rfl rfl ?_
        refine g_lcmp X16 hx 274 (hb hby at_273) rfl ?_
        have hk17 : (own_co d t (1 : Int64)) = (1 : Int64) := by rw [hc7]; rfl
        refine g_ifF X16 hx 277 (hb hby at_274) (own_eqL hk17).2 rfl ?_
        refine g_iconst X16 hx 278 (1 : Int32) (hb hby at_277) (by decide) rfl ?_
        refine g_goto X16 hx 282 (hb hby at_278) (by decide) (by decide) ?_
        exact g_retZ X16 hx hret hlk rfl (hb hby at_282) (by decide) (by decide) ⟨rfl, N16⟩
    · refine g_icF X6 hx 177 (hb hby at_174) (feq hc7).1 rfl ?_
      refine g_iload X6 hx 179 (hb hby at_177) rfl rfl ?_
      refine g_bipush X6 hx 181 (13 : Int32) (hb hby at_179) (by decide) rfl ?_
      by_cases hc18 : d = (13 : Int32)
      · refine g_icF X6 hx 184 (hb hby at_181) (teq hc18).2 rfl ?_
        refine g_iconst X6 hx 185 (1 : Int32) (hb hby at_184) (by decide) rfl ?_
        refine g_goto X6 hx 189 (hb hby at_185) (by decide) (by decide) ?_
        refine g_istore X6 hx 191 #[.val (.long n), .second, .val (.int fl), .val (.int pre), .val (.int x), .val (.ref sA), .val (.int to), .val (.int t), .val (.int (x &&& (3 : Int32))), .val (.int d), .val (.ref u), .val (.ref po), .val (.long lnq), .second, .val (.int (1 : Int32)), .val (.int (1 : Int32)), .unset, .unset, .unset, .unset, .unset] (hb hby at_189) rfl rfl ?_
        refine g_iload X6 hx 193 (hb hby at_191) rfl rfl ?_
        refine g_bipush X6 hx 195 (13 : Int32) (hb hby at_193) (by decide) rfl ?_
        refine g_icT X6 hx 212 (hb hby at_195) (teq hc18).1 (by decide) (by decide) ?_
        refine g_iconst X6 hx 213 (1 : Int32) (hb hby at_212) (by decide) rfl ?_
        refine g_goto X6 hx 217 (hb hby at_213) (by decide) (by decide) ?_
        refine g_istore X6 hx 219 #[.val (.long n), .second, .val (.int fl), .val (.int pre), .val (.int x), .val (.ref sA), .val (.int to), .val (.int t), .val (.int (x &&& (3 : Int32))), .val (.int d), .val (.ref u), .val (.ref po), .val (.long lnq), .second, .val (.int (1 : Int32)), .val (.int (1 : Int32)), .val (.int (1 : Int32)), .unset, .unset, .unset, .unset] (hb hby at_217) rfl rfl ?_
        refine g_lload X6 hx 221 (hb hby at_219) rfl rfl ?_
        refine g_lloadN X6 hx 222 (hb hby at_221) rfl rfl ?_
        refine g_ladd X6 hx 223 (lnq + n) (hb hby at_222) rfl rfl ?_
        refine g_iload X6 hx 225 (hb hby at_223) rfl rfl ?_
        refine g_ifF X6 hx 228 (hb hby at_225) (by decide) rfl ?_
        refine g_lconst X6 hx 229 (1 : Int64) (hb hby at_228) (by decide) rfl ?_
        refine g_goto X6 hx 233 (hb hby at_229) (by decide) (by decide) ?_
        refine g_ladd X6 hx 234 ((lnq + n) + (1 : Int64)) (hb hby at_233) rfl rfl ?_
        refine g_lstore X6 hx 236 #[.val (.long n), .second, .val (.int fl), .val (.int pre), .val (.int x), .val (.ref sA), .val (.int to), .val (.int t), .val (.int (x &&& (3 : Int32))), .val (.int d), .val (.ref u), .val (.ref po), .val (.long lnq), .second, .val (.int (1 : Int32)), .val (.int (1 : Int32)), .val (.int (1 : Int32)), .val (.long ((lnq + n) + (1 : Int64))), .second, .unset, .unset] (hb hby at_234) rfl rfl ?_
        refine g_iload X6 hx 238 (hb hby at_236) rfl rfl ?_
        refine g_ifF X6 hx 241 (hb hby at_238) (by decide) rfl ?_
        refine g_lconst X6 hx 242 (1 : Int64) (hb hby at_241) (by decide) rfl ?_
        refine g_goto X6 hx 248 (hb hby at_242) (by decide) (by decide) ?_
        refine g_lstore X6 hx 250 #[.val (.long n), .second, .val (.int fl), .val (.int pre), .val (.int x), .val (.ref sA), .val (.int to), .val (.int t), .val (.int (x &&& (3 : Int32))), .val (.int d), .val (.ref u), .val (.ref po), .val (.long lnq), .second, .val (.int (1 : Int32)), .val (.int (1 : Int32)), .val (.int (1 : Int32)), .val (.long ((lnq + n) + (1 : Int64))), .second, .val (.long (1 : Int64)), .second] (hb hby at_248) rfl rfl ?_
        refine g_iload X6 hx 252 (hb hby at_250) rfl rfl ?_
        refine g_ifF X6 hx 255 (hb hby at_252) (by decide) rfl ?_
        refine g_aload X6 hx 257 (hb hby at_255) rfl rfl rfl ?_
        refine g_callV X6 hx 260 hZ hown (own_w hw 29 rfl) (own_w hw 30 rfl) (own_w hw 32 rfl) (own_w hw 31 rfl) (own_w hw 3 rfl) (own_w hw 33 rfl) (by decide) po E_po [] [] (rm6 l Z a0 hw po (own_ln d t (lnq + n)) T6.heap n0 Z6 Fl_po) rfl 0 (by decide) (by decide) (by decide) (by decide) (by rw [hml]; rfl) (lenOf own_pd3 rfl) (hb hby at_257) rfl (Nat.le_of_eq rfl) rfl (fun v19 T19 L19 X19 hQ19 => ?_)
        obtain ⟨rfl, N19q, e19⟩ := hQ19
        have N19 := Fr.app N6 N19q
        show Go p e below _ _ T19 (mkF m 260 #[.val (.long n), .second, .val (.int fl), .val (.int pre), .val (.int x), .val (.ref sA), .val (.int to), .val (.int t), .val (.int (x &&& (3 : Int32))), .val (.int d), .val (.ref u), .val (.ref po), .val (.long lnq), .second, .val (.int (1 : Int32)), .val (.int (1 : Int32)), .val (.int (1 : Int32)), .val (.long ((lnq + n) + (1 : Int64))), .second, .val (.long (1 : Int64)), .second] [(.long (own_ln d t (lnq + n)))])
        refine g_lload X19 hx 262 (hb hby at_260) rfl rfl ?_
        refine g_lcmp X19 hx 263 (hb hby at_262) rfl ?_
        have hk20 : (own_ln d t (lnq + n)) = ((lnq + n) + (1 : Int64)) := by rw [hc18, own_ln_r]
        refine g_ifF X19 hx 266 (hb hby at_263) (own_eqL hk20).2 rfl ?_
        refine g_aload X19 hx 268 (hb hby at_266) rfl rfl rfl ?_
        refine g_callV X19 hx 271 hZ hown (own_w hw 39 rfl) (own_w hw 40 rfl) (own_w hw 42 rfl) (own_w hw 41 rfl) (own_w hw 3 rfl) (own_w hw 43 rfl) (by decide) po E_po [] [] (rm8 l Z a0 hw po (own_co d t (1 : Int64)) T6.heap n0 Z6 Fc_po) e19 0 (by decide) (by decide) (by decide) (by decide) (by rw [hml]; rfl) (lenOf own_pd3 rfl) (hb hby at_268) rfl (Nat.le_of_eq rfl) rfl (fun v21 T21 L21 X21 hQ21 => ?_)
        obtain ⟨rfl, N21q, e21⟩ := hQ21
        have N21 := Fr.app N19 N21q
        show Go p e below _ _ T21 (mkF m 271 #[.val (.long n), .second, .val (.int fl), .val (.int pre), .val (.int x), .val (.ref sA), .val (.int to), .val (.int t), .val (.int (x &&& (3 : Int32))), .val (.int d), .val (.ref u), .val (.ref po), .val (.long lnq), .second, .val (.int (1 : Int32)), .val (.int (1 : Int32)), .val (.int (1 : Int32)), .val (.long ((lnq + n) + (1 : Int64))), .second, .val (.long (1 : Int64)), .second] [(.long (own_co d t (1 : Int64)))])
        refine g_lload X21 hx 273 (hb hby at_271) rfl rfl ?_
        refine g_lcmp X21 hx 274 (hb hby at_273) rfl ?_
        have hk22 : (own_co d t (1 : Int64)) = (1 : Int64) := by rw [hc18]; rfl
        refine g_ifF X21 hx 277 (hb hby at_274) (own_eqL hk22).2 rfl ?_
        refine g_iconst X21 hx 278 (1 : Int32) (hb hby at_277) (by decide) rfl ?_
        refine g_goto X21 hx 282 (hb hby at_278) (by decide) (by decide) ?_
        exact g_retZ X21 hx hret hlk rfl (hb hby at_282) (by decide) (by decide) ⟨rfl, N21⟩
      · refine g_icT X6 hx 188 (hb hby at_181) (feq hc18).2 (by decide) (by decide) ?_
        refine g_iconst X6 hx 189 (0 : Int32) (hb hby at_188) (by decide) rfl ?_
        refine g_istore X6 hx 191 #[.val (.long n), .second, .val (.int fl), .val (.int pre), .val (.int x), .val (.ref sA), .val (.int to), .val (.int t), .val (.int (x &&& (3 : Int32))), .val (.int d), .val (.ref u), .val (.ref po), .val (.long lnq), .second, .val (.int (1 : Int32)), .val (.int (0 : Int32)), .unset, .unset, .unset, .unset, .unset] (hb hby at_189) rfl rfl ?_
        refine g_iload X6 hx 193 (hb hby at_191) rfl rfl ?_
        refine g_bipush X6 hx 195 (13 : Int32) (hb hby at_193) (by decide) rfl ?_
        refine g_icF X6 hx 198 (hb hby at_195) (feq hc18).1 rfl ?_
        refine g_iload X6 hx 200 (hb hby at_198) rfl rfl ?_
        refine g_bipush X6 hx 202 (10 : Int32) (hb hby at_200) (by decide) rfl ?_
        refine g_icT X6 hx 216 (hb hby at_202) (feq hc7).2 (by decide) (by decide) ?_
        refine g_iconst X6 hx 217 (0 : Int32) (hb hby at_216) (by decide) rfl ?_
        refine g_istore X6 hx 219 #[.val (.long n), .second, .val (.int fl), .val (.int pre), .val (.int x), .val (.ref sA), .val (.int to), .val (.int t), .val (.int (x &&& (3 : Int32))), .val (.int d), .val (.ref u), .val (.ref po), .val (.long lnq), .second, .val (.int (1 : Int32)), .val (.int (0 : Int32)), .val (.int (0 : Int32)), .unset, .unset, .unset, .unset] (hb hby at_217) rfl rfl ?_
        refine g_lload X6 hx 221 (hb hby at_219) rfl rfl ?_
        refine g_lloadN X6 hx 222 (hb hby at_221) rfl rfl ?_
        refine g_ladd X6 hx 223 (lnq + n) (hb hby at_222) rfl rfl ?_
        refine g_iload X6 hx 225 (hb hby at_223) rfl rfl ?_
        refine g_ifT X6 hx 232 (hb hby at_225) (by decide) (by decide) (by decide) ?_
        refine g_lconst X6 hx 233 (0 : Int64) (hb hby at_232) (by decide) rfl ?_
        refine g_ladd X6 hx 234 ((lnq + n) + (0 : Int64)) (hb hby at_233) rfl rfl ?_
        refine g_lstore X6 hx 236 #[.val (.long n), .second, .val (.int fl), .val (.int pre), .val (.int x), .val (.ref sA), .val (.int to), .val (.int t), .val (.int (x &&& (3 : Int32))), .val (.int d), .val (.ref u), .val (.ref po), .val (.long lnq), .second, .val (.int (1 : Int32)), .val (.int (0 : Int32)), .val (.int (0 : Int32)), .val (.long ((lnq + n) + (0 : Int64))), .second, .unset, .unset] (hb hby at_234) rfl rfl ?_
        refine g_iload X6 hx 238 (hb hby at_236) rfl rfl ?_
        refine g_ifT X6 hx 245 (hb hby at_238) (by decide) (by decide) (by decide) ?_
        refine g_ldc2J X6 hx 248 hZ hown (own_w hw 56 rfl) (hb hby at_245) rfl ?_
        refine g_lstore X6 hx 250 #[.val (.long n), .second, .val (.int fl), .val (.int pre), .val (.int x), .val (.ref sA), .val (.int to), .val (.int t), .val (.int (x &&& (3 : Int32))), .val (.int d), .val (.ref u), .val (.ref po), .val (.long lnq), .second, .val (.int (1 : Int32)), .val (.int (0 : Int32)), .val (.int (0 : Int32)), .val (.long ((lnq + n) + (0 : Int64))), .second, .val (.long (2 : Int64)), .second] (hb hby at_248) rfl rfl ?_
        refine g_iload X6 hx 252 (hb hby at_250) rfl rfl ?_
        refine g_ifF X6 hx 255 (hb hby at_252) (by decide) rfl ?_
        refine g_aload X6 hx 257 (hb hby at_255) rfl rfl rfl ?_
        refine g_callV X6 hx 260 hZ hown (own_w hw 29 rfl) (own_w hw 30 rfl) (own_w hw 32 rfl) (own_w hw 31 rfl) (own_w hw 3 rfl) (own_w hw 33 rfl) (by decide) po E_po [] [] (rm6 l Z a0 hw po (own_ln d t (lnq + n)) T6.heap n0 Z6 Fl_po) rfl 0 (by decide) (by decide) (by decide) (by decide) (by rw [hml]; rfl) (lenOf own_pd3 rfl) (hb hby at_257) rfl (Nat.le_of_eq rfl) rfl (fun v23 T23 L23 X23 hQ23 => ?_)
        obtain ⟨rfl, N23q, e23⟩ := hQ23
        have N23 := Fr.app N6 N23q
        show Go p e below _ _ T23 (mkF m 260 #[.val (.long n), .second, .val (.int fl), .val (.int pre), .val (.int x), .val (.ref sA), .val (.int to), .val (.int t), .val (.int (x &&& (3 : Int32))), .val (.int d), .val (.ref u), .val (.ref po), .val (.long lnq), .second, .val (.int (1 : Int32)), .val (.int (0 : Int32)), .val (.int (0 : Int32)), .val (.long ((lnq + n) + (0 : Int64))), .second, .val (.long (2 : Int64)), .second] [(.long (own_ln d t (lnq + n)))])
        refine g_lload X23 hx 262 (hb hby at_260) rfl rfl ?_
        refine g_lcmp X23 hx 263 (hb hby at_262) rfl ?_
        have hk24 : (own_ln d t (lnq + n)) = ((lnq + n) + (0 : Int64)) := by rw [own_ln_o d t _ hc7 hc18]; exact (Int64.add_zero _).symm
        refine g_ifF X23 hx 266 (hb hby at_263) (own_eqL hk24).2 rfl ?_
        refine g_aload X23 hx 268 (hb hby at_266) rfl rfl rfl ?_
        refine g_callV X23 hx 271 hZ hown (own_w hw 39 rfl) (own_w hw 40 rfl) (own_w hw 42 rfl) (own_w hw 41 rfl) (own_w hw 3 rfl) (own_w hw 43 rfl) (by decide) po E_po [] [] (rm8 l Z a0 hw po (own_co d t (1 : Int64)) T6.heap n0 Z6 Fc_po) e23 0 (by decide) (by decide) (by decide) (by decide) (by rw [hml]; rfl) (lenOf own_pd3 rfl) (hb hby at_268) rfl (Nat.le_of_eq rfl) rfl (fun v25 T25 L25 X25 hQ25 => ?_)
        obtain ⟨rfl, N25q, e25⟩ := hQ25
        have N25 := Fr.app N23 N25q
        show Go p e below _ _ T25 (mkF m 271 #[.val (.long n), .second, .val (.int fl), .val (.int pre), .val (.int x), .val (.ref sA), .val (.int to), .val (.int t), .val (.int (x &&& (3 : Int32))), .val (.int d), .val (.ref u), .val (.ref po), .val (.long lnq), .second, .val (.int (1 : Int32)), .val (.int (0 : Int32)), .val (.int (0 : Int32)), .val (.long ((lnq + n) + (0 : Int64))), .second, .val (.long (2 : Int64)), .second] [(.long (own_co d t (1 : Int64)))])
        refine g_lload X25 hx 273 (hb hby at_271) rfl rfl ?_
        refine g_lcmp X25 hx 274 (hb hby at_273) rfl ?_
        have hk26 : (own_co d t (1 : Int64)) = (2 : Int64) := own_co_o d t hc7 hc18 ht
        refine g_ifF X25 hx 277 (hb hby at_274) (own_eqL hk26).2 rfl ?_
        refine g_iconst X25 hx 278 (1 : Int32) (hb hby at_277) (by decide) rfl ?_
        refine g_goto X25 hx 282 (hb hby at_278) (by decide) (by decide) ?_
        exact g_retZ X25 hx hret hlk rfl (hb hby at_282) (by decide) (by decide) ⟨rfl, N25⟩
  have tail76 : ∀ (t d to : Int32) (sA : Addr) (kS : ClassId) (q0 q1 : Int32) (TJ : State) (hJ : Heap) (locsJ : List Loc), Stand p l e room_1 s m ([(.long n), (.int fl), (.int pre), (.int x)] : List Value).toArray below meth cO TJ locsJ 1 2 → TJ.heap = hJ → Fr n0 locsJ → t = 13 ∨ t = 10 → nar .char d = d → to = 0 ∨ to = 1 ∨ to = 2 → n0 ≤ hJ.size → Arv Z hJ sA kS .char (2 : Int32) [(.int (nar .char q0)), (.int (nar .char q1))] (.int (0 : Int32)) → Go p e below (fun o t L => FrameEnd s o t L room_1.cells room_1.slots) (fun v h L => v = some (.int 1) ∧ Fr n0 L) TJ (mkF m 76 #[.val (.long n), .second, .val (.int fl), .val (.int pre), .val (.int x), .val (.ref sA), .val (.int to), .val (.int t), .val (.int (x &&& (3 : Int32))), .val (.int d), .unset, .unset, .unset, .unset, .unset, .unset, .unset, .unset, .unset, .unset, .unset] []) := by
    intro t d to sA kS q0 q1 TJ hJ locsJ XJ eJ NJ ht hd hto ZJ V_s
    refine g_iconst XJ hx 77 (1 : Int32) (hb hby at_76) (by decide) rfl ?_
    refine g_newP XJ hx 79 hZ (own_w hw 0 rfl) eJ (hb hby at_77) (by decide) 1 (by decide) (by decide) (by decide) (by decide) rfl (fun T27 h27 b27 kl27 g27 X27 e27 E27 A27 => ?_)
    have ne_sA_b27 : sA ≠ b27 := Nat.ne_of_lt (Nat.lt_of_lt_of_le V_s.lt (Nat.le_of_eq g27.symm))
    have V_s := V_s.ext E27
    have G_b27 : n0 ≤ b27 := Nat.le_trans ZJ (Nat.le_of_eq g27.symm)
    have Z27 : n0 ≤ h27.size := Nat.le_trans ZJ E27.1
    have V_b27 : Arv Z h27 b27 kl27 .char (1 : Int32) [(.int (0 : Int32))] (.int (0 : Int32)) := A27.pad (pad_rep [] (.int (0 : Int32)) 1)
    refine g_astore X27 hx 81 #[.val (.long n), .second, .val (.int fl), .val (.int pre), .val (.int x), .val (.ref sA), .val (.int to), .val (.int t), .val (.int (x &&& (3 : Int32))), .val (.int d), .val (.ref b27), .unset, .unset, .unset, .unset, .unset, .unset, .unset, .unset, .unset, .unset] (hb hby at_79) rfl rfl rfl ?_
    refine g_aload X27 hx 83 (hb hby at_81) rfl rfl rfl ?_
    refine g_iconst X27 hx 84 (0 : Int32) (hb hby at_83) (by decide) rfl ?_
    refine g_iload X27 hx 86 (hb hby at_84) rfl rfl ?_
    refine g_castore X27 hx 87 hZ e27 V_b27 0 (by decide) ⟨by decide, by decide⟩ (Nat.le_of_ble_eq_true rfl) (hb hby at_86) rfl (fun T28 h28 X28 e28 W28 V28 => ?_)
    have V_s := V_s.other W28 ne_sA_b27
    have V_b27 : Arv Z h28 b27 kl27 .char (1 : Int32) [(.int (nar .char d))] (.int (0 : Int32)) := V28
    have N28 := Fr.snoc X28 NJ G_b27
    have Z28 : n0 ≤ h28.size := by rw [W28.size]; exact Z27
    rw [hd] at V_b27
    refine g_new X28 hx 90 hZ hown (own_w hw 1 rfl) (own_w hw 2 rfl) (own_w hw 3 rfl) e28 (hb hby at_87) (by decide) (by decide) rfl (fun T29 h29 b29 g29 X29 e29 E29 A29 D29 => ?_)
    have ne_sA_b29 : sA ≠ b29 := Nat.ne_of_lt (Nat.lt_of_lt_of_le V_s.lt (Nat.le_of_eq g29.symm))
    have ne_b27_b29 : b27 ≠ b29 := Nat.ne_of_lt (Nat.lt_of_lt_of_le V_b27.lt (Nat.le_of_eq g29.symm))
    have V_s := V_s.ext E29
    have V_b27 := V_b27.ext E29
    have G_b29 : n0 ≤ b29 := Nat.le_trans Z28 (Nat.le_of_eq g29.symm)
    have Z29 : n0 ≤ h29.size := Nat.le_trans Z28 E29.1
    have E_b29 : Exa Z h29 b29 "gleanwell/Position" := A29
    have F_b29_line : Fld Z h29 b29 "gleanwell/Position" "line" "J" (.long (0 : Int64)) := D29 (Or.inl (own_w hw 11 rfl)) (ty := .long) (by decide)
    have F_b29_column : Fld Z h29 b29 "gleanwell/Position" "column" "J" (.long (0 : Int64)) := D29 (Or.inl (own_w hw 13 rfl)) (ty := .long) (by decide)
    have F_b29_last : Fld Z h29 b29 "gleanwell/Position" "last" "C" (.int (0 : Int32)) := D29 (Or.inl (own_w hw 28 rfl)) (ty := .char) (by decide)
    refine g_dup X29 hx 91 (hb hby at_90) rfl rfl ?_
    refine g_callI X29 hx 94 hZ rfl hown (own_w hw 4 rfl) (own_w hw 5 rfl) (own_w hw 3 rfl) (own_w hw 6 rfl) (by decide) b29 [] [(.ref b29)] (rm1 l Z a0 hw b29 _ _ h29 n0 Z29 G_b29 E_b29 F_b29_line F_b29_column F_b29_last) e29 1 (by decide) (by decide) (by decide) (by decide) (by rw [hml]; rfl) (lenOf own_pd7 rfl) (hb hby at_91) rfl (Nat.le_of_eq rfl) rfl (fun v30 T30 L30 X30 hQ30 => ?_)
    obtain ⟨rfl, N30q, K30, E30x, Fl_b29, Fc_b29, Fa_b29⟩ := hQ30
    have N30 := Fr.app N28 N30q
    have V_s := V_s.keep K30 (ninS ne_sA_b29 nin0)
    have V_b27 := V_b27.keep K30 (ninS ne_b27_b29 nin0)
    have E_b29 := E_b29.keep K30
    have Z30 := Nat.le_trans Z29 K30.1
    show Go p e below _ _ T30 (mkF m 94 #[.val (.long n), .second, .val (.int fl), .val (.int pre), .val (.int x), .val (.ref sA), .val (.int to), .val (.int t), .val (.int (x &&& (3 : Int32))), .val (.int d), .val (.ref b27), .unset, .unset, .unset, .unset, .unset, .unset, .unset, .unset, .unset, .unset] [(.ref b29)])
    rcases hto with rfl | rfl | rfl
    · refine g_astore X30 hx 96 #[.val (.long n), .second, .val (.int fl), .val (.int pre), .val (.int x), .val (.ref sA), .val (.int (0 : Int32)), .val (.int t), .val (.int (x &&& (3 : Int32))), .val (.int d), .val (.ref b27), .val (.ref b29), .unset, .unset, .unset, .unset, .unset, .unset, .unset, .unset, .unset] (hb hby at_94) rfl rfl rfl ?_
      refine g_aload X30 hx 98 (hb hby at_96) rfl rfl rfl ?_
      refine g_aload X30 hx 100 (hb hby at_98) rfl rfl rfl ?_
      refine g_iconst X30 hx 101 (0 : Int32) (hb hby at_100) (by decide) rfl ?_
      refine g_iload X30 hx 103 (hb hby at_101) rfl rfl ?_
      refine g_callV X30 hx 106 hZ hown (own_w hw 14 rfl) (own_w hw 15 rfl) (own_w hw 17 rfl) (own_w hw 16 rfl) (own_w hw 3 rfl) (own_w hw 18 rfl) (by decide) b29 E_b29 [(.ref sA), (.int (0 : Int32)), (.int (0 : Int32))] [] (rm3_0 l Z a0 hw b29 sA (1 : Int64) (1 : Int64) (0 : Int32) (nar .char q0) (nar .char q1) kS T30.heap n0 Z30 G_b29 E_b29 Fl_b29 Fc_b29 Fa_b29 V_s (by decide) (own_nar2 _) (own_nar2 _) (Ne.symm ne_sA_b29)) rfl 0 (by decide) (by decide) (by decide) (by decide) (by rw [hml]; rfl) (lenOf own_pd6 rfl) (hb hby at_103) rfl (Nat.le_of_eq rfl) rfl (fun v31 T31 L31 X31 hQ31 => ?_)
      obtain ⟨rfl, N31q, K31, lnq, coq, laq, hlaq, E31x, Fl_b29, Fc_b29, Fa_b29⟩ := hQ31
      have N31 := Fr.app N30 N31q
      have V_s := V_s.keep K31 (ninS ne_sA_b29 nin0)
      have V_b27 := V_b27.keep K31 (ninS ne_b27_b29 nin0)
      have E_b29 := E_b29.keep K31
      have Z31 := Nat.le_trans Z30 K31.1
      show Go p e below _ _ T31 (mkF m 106 #[.val (.long n), .second, .val (.int fl), .val (.int pre), .val (.int x), .val (.ref sA), .val (.int (0 : Int32)), .val (.int t), .val (.int (x &&& (3 : Int32))), .val (.int d), .val (.ref b27), .val (.ref b29), .unset, .unset, .unset, .unset, .unset, .unset, .unset, .unset, .unset] [])
      exact tail106 t d (0 : Int32) sA b27 b29 _ _ _ _ _ _ _ X31 rfl N31 ht hd Z31 G_b29 (Ne.symm ne_b27_b29) E_b29 Fl_b29 Fc_b29 Fa_b29  V_b27
    · refine g_astore X30 hx 96 #[.val (.long n), .second, .val (.int fl), .val (.int pre), .val (.int x), .val (.ref sA), .val (.int (1 : Int32)), .val (.int t), .val (.int (x &&& (3 : Int32))), .val (.int d), .val (.ref b27), .val (.ref b29), .unset, .unset, .unset, .unset, .unset, .unset, .unset, .unset, .unset] (hb hby at_94) rfl rfl rfl ?_
      refine g_aload X30 hx 98 (hb hby at_96) rfl rfl rfl ?_
      refine g_aload X30 hx 100 (hb hby at_98) rfl rfl rfl ?_
      refine g_iconst X30 hx 101 (0 : Int32) (hb hby at_100) (by decide) rfl ?_
      refine g_iload X30 hx 103 (hb hby at_101) rfl rfl ?_
      refine g_callV X30 hx 106 hZ hown (own_w hw 14 rfl) (own_w hw 15 rfl) (own_w hw 17 rfl) (own_w hw 16 rfl) (own_w hw 3 rfl) (own_w hw 18 rfl) (by decide) b29 E_b29 [(.ref sA), (.int (0 : Int32)), (.int (1 : Int32))] [] (rm3_1 l Z a0 hw b29 sA (1 : Int64) (1 : Int64) (0 : Int32) (nar .char q0) (nar .char q1) kS T30.heap n0 Z30 G_b29 E_b29 Fl_b29 Fc_b29 Fa_b29 V_s (by decide) (own_nar2 _) (own_nar2 _) (Ne.symm ne_sA_b29)) rfl 0 (by decide) (by decide) (by decide) (by decide) (by rw [hml]; rfl) (lenOf own_pd6 rfl) (hb hby at_103) rfl (Nat.le_of_eq rfl) rfl (fun v32 T32 L32 X32 hQ32 => ?_)
      obtain ⟨rfl, N32q, K32, lnq, coq, laq, hlaq, E32x, Fl_b29, Fc_b29, Fa_b29⟩ := hQ32
      have N32 := Fr.app N30 N32q
      have V_s := V_s.keep K32 (ninS ne_sA_b29 nin0)
      have V_b27 := V_b27.keep K32 (ninS ne_b27_b29 nin0)
      have E_b29 := E_b29.keep K32
      have Z32 := Nat.le_trans Z30 K32.1
      show Go p e below _ _ T32 (mkF m 106 #[.val (.long n), .second, .val (.int fl), .val (.int pre), .val (.int x), .val (.ref sA), .val (.int (1 : Int32)), .val (.int t), .val (.int (x &&& (3 : Int32))), .val (.int d), .val (.ref b27), .val (.ref b29), .unset, .unset, .unset, .unset, .unset, .unset, .unset, .unset, .unset] [])
      exact tail106 t d (1 : Int32) sA b27 b29 _ _ _ _ _ _ _ X32 rfl N32 ht hd Z32 G_b29 (Ne.symm ne_b27_b29) E_b29 Fl_b29 Fc_b29 Fa_b29  V_b27
    · refine g_astore X30 hx 96 #[.val (.long n), .second, .val (.int fl), .val (.int pre), .val (.int x), .val (.ref sA), .val (.int (2 : Int32)), .val (.int t), .val (.int (x &&& (3 : Int32))), .val (.int d), .val (.ref b27), .val (.ref b29), .unset, .unset, .unset, .unset, .unset, .unset, .unset, .unset, .unset] (hb hby at_94) rfl rfl rfl ?_
      refine g_aload X30 hx 98 (hb hby at_96) rfl rfl rfl ?_
      refine g_aload X30 hx 100 (hb hby at_98) rfl rfl rfl ?_
      refine g_iconst X30 hx 101 (0 : Int32) (hb hby at_100) (by decide) rfl ?_
      refine g_iload X30 hx 103 (hb hby at_101) rfl rfl ?_
      refine g_callV X30 hx 106 hZ hown (own_w hw 14 rfl) (own_w hw 15 rfl) (own_w hw 17 rfl) (own_w hw 16 rfl) (own_w hw 3 rfl) (own_w hw 18 rfl) (by decide) b29 E_b29 [(.ref sA), (.int (0 : Int32)), (.int (2 : Int32))] [] (rm3_2 l Z a0 hw b29 sA (1 : Int64) (1 : Int64) (0 : Int32) (nar .char q0) (nar .char q1) kS T30.heap n0 Z30 G_b29 E_b29 Fl_b29 Fc_b29 Fa_b29 V_s (by decide) (own_nar2 _) (own_nar2 _) (Ne.symm ne_sA_b29)) rfl 0 (by decide) (by decide) (by decide) (by decide) (by rw [hml]; rfl) (lenOf own_pd6 rfl) (hb hby at_103) rfl (Nat.le_of_eq rfl) rfl (fun v33 T33 L33 X33 hQ33 => ?_)
      obtain ⟨rfl, N33q, K33, lnq, coq, laq, hlaq, E33x, Fl_b29, Fc_b29, Fa_b29⟩ := hQ33
      have N33 := Fr.app N30 N33q
      have V_s := V_s.keep K33 (ninS ne_sA_b29 nin0)
      have V_b27 := V_b27.keep K33 (ninS ne_b27_b29 nin0)
      have E_b29 := E_b29.keep K33
      have Z33 := Nat.le_trans Z30 K33.1
      show Go p e below _ _ T33 (mkF m 106 #[.val (.long n), .second, .val (.int fl), .val (.int pre), .val (.int x), .val (.ref sA), .val (.int (2 : Int32)), .val (.int t), .val (.int (x &&& (3 : Int32))), .val (.int d), .val (.ref b27), .val (.ref b29), .unset, .unset, .unset, .unset, .unset, .unset, .unset, .unset, .unset] [])
      exact tail106 t d (2 : Int32) sA b27 b29 _ _ _ _ _ _ _ X33 rfl N33 ht hd Z33 G_b29 (Ne.symm ne_b27_b29) E_b29 Fl_b29 Fc_b29 Fa_b29  V_b27
  refine g_iconst X0 hx 1 (2 : Int32) (hb hby at_0) (by decide) rfl ?_
  refine g_newP X0 hx 3 hZ (own_w hw 0 rfl) e0 (hb hby at_1) (by decide) 2 (by decide) (by decide) (by decide) (by decide) rfl (fun T34 h34 b34 kl34 g34 X34 e34 E34 A34 => ?_)
  have G_b34 : n0 ≤ b34 := Nat.le_trans Z0 (Nat.le_of_eq g34.symm)
  have Z34 : n0 ≤ h34.size := Nat.le_trans Z0 E34.1
  have V_b34 : Arv Z h34 b34 kl34 .char (2 : Int32) [(.int (0 : Int32)), (.int (0 : Int32))] (.int (0 : Int32)) := A34.pad (pad_rep [] (.int (0 : Int32)) 2)
  refine g_astore X34 hx 5 #[.val (.long n), .second, .val (.int fl), .val (.int pre), .val (.int x), .val (.ref b34), .unset, .unset, .unset, .unset, .unset, .unset, .unset, .unset, .unset, .unset, .unset, .unset, .unset, .unset, .unset] (hb hby at_3) rfl rfl rfl ?_
  refine g_aload X34 hx 7 (hb hby at_5) rfl rfl rfl ?_
  refine g_iconst X34 hx 8 (0 : Int32) (hb hby at_7) (by decide) rfl ?_
  refine g_iloadN X34 hx 9 (hb hby at_8) rfl rfl ?_
  refine g_i2c X34 hx 10 (pre.toUInt32.toUInt16.toUInt32.toInt32) (hb hby at_9) rfl rfl ?_
  refine g_castore X34 hx 11 hZ e34 V_b34 0 (by decide) ⟨by decide, by decide⟩ (Nat.le_of_ble_eq_true rfl) (hb hby at_10) rfl (fun T35 h35 X35 e35 W35 V35 => ?_)
  have V_b34 : Arv Z h35 b34 kl34 .char (2 : Int32) [(.int (nar .char (pre.toUInt32.toUInt16.toUInt32.toInt32))), (.int (0 : Int32))] (.int (0 : Int32)) := V35
  have N35 := Fr.snoc X35 N0 G_b34
  have Z35 : n0 ≤ h35.size := by rw [W35.size]; exact Z34
  refine g_aload X35 hx 13 (hb hby at_11) rfl rfl rfl ?_
  refine g_iconst X35 hx 14 (1 : Int32) (hb hby at_13) (by decide) rfl ?_
  refine g_iloadN X35 hx 15 (hb hby at_14) rfl rfl ?_
  refine g_bipush X35 hx 17 (16 : Int32) (hb hby at_15) (by decide) rfl ?_
  refine g_iushr X35 hx 18 ((pre.toUInt32 >>> ((16 : Int32) &&& 31).toUInt32).toInt32) (hb hby at_17) rfl rfl ?_
  refine g_i2c X35 hx 19 (((pre.toUInt32 >>> ((16 : Int32) &&& 31).toUInt32).toInt32).toUInt32.toUInt16.toUInt32.toInt32) (hb hby at_18) rfl rfl ?_
  refine g_castore X35 hx 20 hZ e35 V_b34 1 (by decide) ⟨by decide, by decide⟩ (Nat.le_of_ble_eq_true rfl) (hb hby at_19) rfl (fun T36 h36 X36 e36 W36 V36 => ?_)
  have V_b34 : Arv Z h36 b34 kl34 .char (2 : Int32) [(.int (nar .char (pre.toUInt32.toUInt16.toUInt32.toInt32))), (.int (nar .char (((pre.toUInt32 >>> ((16 : Int32) &&& 31).toUInt32).toInt32).toUInt32.toUInt16.toUInt32.toInt32)))] (.int (0 : Int32)) := V36
  have N36 := Fr.snoc X36 N35 G_b34
  have Z36 : n0 ≤ h36.size := by rw [W36.size]; exact Z35
  refine g_iloadN X36 hx 21 (hb hby at_20) rfl rfl ?_
  refine g_iconst X36 hx 22 (1 : Int32) (hb hby at_21) (by decide) rfl ?_
  refine g_iushr X36 hx 23 ((fl.toUInt32 >>> ((1 : Int32) &&& 31).toUInt32).toInt32) (hb hby at_22) rfl rfl ?_
  refine g_iconst X36 hx 24 (3 : Int32) (hb hby at_23) (by decide) rfl ?_
  refine g_irem X36 hx 25 (((fl.toUInt32 >>> ((1 : Int32) &&& 31).toUInt32).toInt32) % (3 : Int32)) (hb hby at_24) (by decide) rfl rfl ?_
  have hto := own_modb _ 3 (own_ushr1 fl) (by decide)
  generalize (((fl.toUInt32 >>> ((1 : Int32) &&& 31).toUInt32).toInt32) % (3 : Int32)) = to at hto ⊢
  refine g_istore X36 hx 27 #[.val (.long n), .second, .val (.int fl), .val (.int pre), .val (.int x), .val (.ref b34), .val (.int to), .unset, .unset, .unset, .unset, .unset, .unset, .unset, .unset, .unset, .unset, .unset, .unset, .unset, .unset] (hb hby at_25) rfl rfl ?_
  refine g_iloadN X36 hx 28 (hb hby at_27) rfl rfl ?_
  refine g_iconst X36 hx 29 (1 : Int32) (hb hby at_28) (by decide) rfl ?_
  refine g_iand X36 hx 30 (fl &&& (1 : Int32)) (hb hby at_29) rfl rfl ?_
  by_cases hc37 : (fl &&& (1 : Int32)) = (0 : Int32)
  · refine g_ifT X36 hx 38 (hb hby at_30) ((if0 _ _).trans (teq hc37).1) (by decide) (by decide) ?_
    refine g_bipush X36 hx 40 (10 : Int32) (hb hby at_38) (by decide) rfl ?_
    refine g_istore X36 hx 42 #[.val (.long n), .second, .val (.int fl), .val (.int pre), .val (.int x), .val (.ref b34), .val (.int to), .val (.int (10 : Int32)), .unset, .unset, .unset, .unset, .unset, .unset, .unset, .unset, .unset, .unset, .unset, .unset, .unset] (hb hby at_40) rfl rfl ?_
    refine g_iload X36 hx 44 (hb hby at_42) rfl rfl ?_
    refine g_iconst X36 hx 45 (3 : Int32) (hb hby at_44) (by decide) rfl ?_
    refine g_iand X36 hx 46 (x &&& (3 : Int32)) (hb hby at_45) rfl rfl ?_
    refine g_istore X36 hx 48 #[.val (.long n), .second, .val (.int fl), .val (.int pre), .val (.int x), .val (.ref b34), .val (.int to), .val (.int (10 : Int32)), .val (.int (x &&& (3 : Int32))), .unset, .unset, .unset, .unset, .unset, .unset, .unset, .unset, .unset, .unset, .unset, .unset] (hb hby at_46) rfl rfl ?_
    refine g_iload X36 hx 50 (hb hby at_48) rfl rfl ?_
    by_cases hc38 : (x &&& (3 : Int32)) = (0 : Int32)
    · refine g_ifF X36 hx 53 (hb hby at_50) ((if0 _ _).trans (teq hc38).2) rfl ?_
      refine g_bipush X36 hx 55 (10 : Int32) (hb hby at_53) (by decide) rfl ?_
      refine g_goto X36 hx 74 (hb hby at_55) (by decide) (by decide) ?_
      refine g_istore X36 hx 76 #[.val (.long n), .second, .val (.int fl), .val (.int pre), .val (.int x), .val (.ref b34), .val (.int to), .val (.int (10 : Int32)), .val (.int (x &&& (3 : Int32))), .val (.int (10 : Int32)), .unset, .unset, .unset, .unset, .unset, .unset, .unset, .unset, .unset, .unset, .unset] (hb hby at_74) rfl rfl ?_
      exact tail76 (10 : Int32) (10 : Int32) to b34 _ _ _ _ _ _ X36 e36 N36 (by decide) (by decide) (own_three to hto.1 hto.2) Z36 V_b34
    · refine g_ifT X36 hx 58 (hb hby at_50) ((if0 _ _).trans (feq hc38).2) (by decide) (by decide) ?_
      refine g_iload X36 hx 60 (hb hby at_58) rfl rfl ?_
      refine g_iconst X36 hx 61 (1 : Int32) (hb hby at_60) (by decide) rfl ?_
      by_cases hc39 : (x &&& (3 : Int32)) = (1 : Int32)
      · refine g_icF X36 hx 64 (hb hby at_61) (teq hc39).2 rfl ?_
        refine g_bipush X36 hx 66 (13 : Int32) (hb hby at_64) (by decide) rfl ?_
        refine g_goto X36 hx 74 (hb hby at_66) (by decide) (by decide) ?_
        refine g_istore X36 hx 76 #[.val (.long n), .second, .val (.int fl), .val (.int pre), .val (.int x), .val (.ref b34), .val (.int to), .val (.int (10 : Int32)), .val (.int (x &&& (3 : Int32))), .val (.int (13 : Int32)), .unset, .unset, .unset, .unset, .unset, .unset, .unset, .unset, .unset, .unset, .unset] (hb hby at_74) rfl rfl ?_
        exact tail76 (10 : Int32) (13 : Int32) to b34 _ _ _ _ _ _ X36 e36 N36 (by decide) (by decide) (own_three to hto.1 hto.2) Z36 V_b34
      · refine g_icT X36 hx 69 (hb hby at_61) (feq hc39).2 (by decide) (by decide) ?_
        refine g_iload X36 hx 71 (hb hby at_69) rfl rfl ?_
        refine g_iconst X36 hx 72 (2 : Int32) (hb hby at_71) (by decide) rfl ?_
        refine g_iushr X36 hx 73 ((x.toUInt32 >>> ((2 : Int32) &&& 31).toUInt32).toInt32) (hb hby at_72) rfl rfl ?_
        refine g_i2c X36 hx 74 (((x.toUInt32 >>> ((2 : Int32) &&& 31).toUInt32).toInt32).toUInt32.toUInt16.toUInt32.toInt32) (hb hby at_73) rfl rfl ?_
        refine g_istore X36 hx 76 #[.val (.long n), .second, .val (.int fl), .val (.int pre), .val (.int x), .val (.ref b34), .val (.int to), .val (.int (10 : Int32)), .val (.int (x &&& (3 : Int32))), .val (.int (((x.toUInt32 >>> ((2 : Int32) &&& 31).toUInt32).toInt32).toUInt32.toUInt16.toUInt32.toInt32)), .unset, .unset, .unset, .unset, .unset, .unset, .unset, .unset, .unset, .unset, .unset] (hb hby at_74) rfl rfl ?_
        exact tail76 (10 : Int32) (((x.toUInt32 >>> ((2 : Int32) &&& 31).toUInt32).toInt32).toUInt32.toUInt16.toUInt32.toInt32) to b34 _ _ _ _ _ _ X36 e36 N36 (by decide) (own_nar2 _) (own_three to hto.1 hto.2) Z36 V_b34
  · refine g_ifF X36 hx 33 (hb hby at_30) ((if0 _ _).trans (feq hc37).1) rfl ?_
    refine g_bipush X36 hx 35 (13 : Int32) (hb hby at_33) (by decide) rfl ?_
    refine g_goto X36 hx 40 (hb hby at_35) (by decide) (by decide) ?_
    refine g_istore X36 hx 42 #[.val (.long n), .second, .val (.int fl), .val (.int pre), .val (.int x), .val (.ref b34), .val (.int to), .val (.int (13 : Int32)), .unset, .unset, .unset, .unset, .unset, .unset, .unset, .unset, .unset, .unset, .unset, .unset, .unset] (hb hby at_40) rfl rfl ?_
    refine g_iload X36 hx 44 (hb hby at_42) rfl rfl ?_
    refine g_iconst X36 hx 45 (3 : Int32) (hb hby at_44) (by decide) rfl ?_
    refine g_iand X36 hx 46 (x &&& (3 : Int32)) (hb hby at_45) rfl rfl ?_
    refine g_istore X36 hx 48 #[.val (.long n), .second, .val (.int fl), .val (.int pre), .val (.int x), .val (.ref b34), .val (.int to), .val (.int (13 : Int32)), .val (.int (x &&& (3 : Int32))), .unset, .unset, .unset, .unset, .unset, .unset, .unset, .unset, .unset, .unset, .unset, .unset] (hb hby at_46) rfl rfl ?_
    refine g_iload X36 hx 50 (hb hby at_48) rfl rfl ?_
    by_cases hc40 : (x &&& (3 : Int32)) = (0 : Int32)
    · refine g_ifF X36 hx 53 (hb hby at_50) ((if0 _ _).trans (teq hc40).2) rfl ?_
      refine g_bipush X36 hx 55 (10 : Int32) (hb hby at_53) (by decide) rfl ?_
      refine g_goto X36 hx 74 (hb hby at_55) (by decide) (by decide) ?_
      refine g_istore X36 hx 76 #[.val (.long n), .second, .val (.int fl), .val (.int pre), .val (.int x), .val (.ref b34), .val (.int to), .val (.int (13 : Int32)), .val (.int (x &&& (3 : Int32))), .val (.int (10 : Int32)), .unset, .unset, .unset, .unset, .unset, .unset, .unset, .unset, .unset, .unset, .unset] (hb hby at_74) rfl rfl ?_
      exact tail76 (13 : Int32) (10 : Int32) to b34 _ _ _ _ _ _ X36 e36 N36 (by decide) (by decide) (own_three to hto.1 hto.2) Z36 V_b34
    · refine g_ifT X36 hx 58 (hb hby at_50) ((if0 _ _).trans (feq hc40).2) (by decide) (by decide) ?_
      refine g_iload X36 hx 60 (hb hby at_58) rfl rfl ?_
      refine g_iconst X36 hx 61 (1 : Int32) (hb hby at_60) (by decide) rfl ?_
      by_cases hc41 : (x &&& (3 : Int32)) = (1 : Int32)
      · refine g_icF X36 hx 64 (hb hby at_61) (teq hc41).2 rfl ?_
        refine g_bipush X36 hx 66 (13 : Int32) (hb hby at_64) (by decide) rfl ?_
        refine g_goto X36 hx 74 (hb hby at_66) (by decide) (by decide) ?_
        refine g_istore X36 hx 76 #[.val (.long n), .second, .val (.int fl), .val (.int pre), .val (.int x), .val (.ref b34), .val (.int to), .val (.int (13 : Int32)), .val (.int (x &&& (3 : Int32))), .val (.int (13 : Int32)), .unset, .unset, .unset, .unset, .unset, .unset, .unset, .unset, .unset, .unset, .unset] (hb hby at_74) rfl rfl ?_
        exact tail76 (13 : Int32) (13 : Int32) to b34 _ _ _ _ _ _ X36 e36 N36 (by decide) (by decide) (own_three to hto.1 hto.2) Z36 V_b34
      · refine g_icT X36 hx 69 (hb hby at_61) (feq hc41).2 (by decide) (by decide) ?_
        refine g_iload X36 hx 71 (hb hby at_69) rfl rfl ?_
        refine g_iconst X36 hx 72 (2 : Int32) (hb hby at_71) (by decide) rfl ?_
        refine g_iushr X36 hx 73 ((x.toUInt32 >>> ((2 : Int32) &&& 31).toUInt32).toInt32) (hb hby at_72) rfl rfl ?_
        refine g_i2c X36 hx 74 (((x.toUInt32 >>> ((2 : Int32) &&& 31).toUInt32).toInt32).toUInt32.toUInt16.toUInt32.toInt32) (hb hby at_73) rfl rfl ?_
        refine g_istore X36 hx 76 #[.val (.long n), .second, .val (.int fl), .val (.int pre), .val (.int x), .val (.ref b34), .val (.int to), .val (.int (13 : Int32)), .val (.int (x &&& (3 : Int32))), .val (.int (((x.toUInt32 >>> ((2 : Int32) &&& 31).toUInt32).toInt32).toUInt32.toUInt16.toUInt32.toInt32)), .unset, .unset, .unset, .unset, .unset, .unset, .unset, .unset, .unset, .unset, .unset] (hb hby at_74) rfl rfl ?_
        exact tail76 (13 : Int32) (((x.toUInt32 >>> ((2 : Int32) &&& 31).toUInt32).toInt32).toUInt32.toUInt16.toUInt32.toInt32) to b34 _ _ _ _ _ _ X36 e36 N36 (by decide) (own_nar2 _) (own_three to hto.1 hto.2) Z36 V_b34
set_option maxRecDepth 65536 in
set_option maxHeartbeats 40000000 in
theorem comes_1 {Post : Tables → Env → Array Value → State → Outcome → State → Prop} (hpost : ∀ tb e args s v u, (limb_1_1.after args s (.returned v) u = true ∧ limb_1_2.after args s (.returned v) u = true ∧ True) → FrameEnd s (.returned v) u (Jvm.fieldLocs frame_1_writes args s ++ Jvm.arrayLocs frame_1_arrays args s ++ Jvm.staticLocs frame_1_statics s) 16 128 → Post tb e args s (.returned v) u) :
    ArmFor flags0 classFile x code maxLocals ret World_1 tables_1 room_1 Calls_1 rest_1 Pre_1 Post := by
  intro l hfl _ _ p e ha hc hk s m args below hf hA hF happ hP
  obtain ⟨hcalls, hrest, hpre⟩ := hP
  obtain ⟨-, -, -, hnamed, -, -, -, hat⟩ := (Spec.applies_iff hf).mp happ
  obtain ⟨hg, hn⟩ := and_e (Cond.before_iff.mp (show (Jvm.Cond.and given_1 narrow_1).before args s = true from hpre))
  obtain ⟨ga1, gb1⟩ := and_e hg
  obtain ⟨ga2, gb2⟩ := and_e gb1
  obtain ⟨ga3, gb3⟩ := and_e gb2
  obtain ⟨ga4, gb4⟩ := and_e gb3
  obtain ⟨w0, w1, w2, w3, rfl⟩ : ∃ w0 w1 w2 w3 : Value, args = #[w0, w1, w2, w3] := by
    have hs : args.size = 4 := by simpa [Cond.value, given_1] using ga1
    obtain ⟨L⟩ := args
    match L, hs with
    | [w0, w1, w2, w3], _ => exact ⟨w0, w1, w2, w3, rfl⟩
  have hw := fun d (hd : d ∈ tables_1) => atoms_spec (ws := Jvm.Cond.code x code maxLocals ret :: tables_1) hat d (List.mem_cons_of_mem _ hd)
  have hfit : Fit s := fun {y c} hc i hi => by
    obtain ⟨ha, rfl⟩ := Array.getElem?_eq_some_iff.mp hc
    have q := List.all_eq_true.mp ((Array.all_eq_true_iff_forall_mem.mp hF) _ (Array.getElem_mem ha)) i (List.mem_range.mpr hi)
    simpa [Array.getElem?_eq_getElem hi] using q
  obtain ⟨i0, ei0⟩ := isL_v ga2
  obtain rfl : w0 = (.long i0) := Option.some.inj ei0
  obtain ⟨i1, ei1⟩ := is_v ga3
  obtain rfl : w1 = (.int i1) := Option.some.inj ei1
  obtain ⟨i2, ei2⟩ := is_v ga4
  obtain rfl : w2 = (.int i2) := Option.some.inj ei2
  obtain ⟨i3, ei3⟩ := is_v gb4
  obtain rfl : w3 = (.int i3) := Option.some.inj ei3
  obtain ⟨n, o, h1, h2, h3, _, L, rfl, ⟨rfl, N⟩, hq⟩ := rm0 l s _ hw i0 i1 i2 i3  s.heap s.heap.size (Nat.le_refl _)  p e ha hc hk s m _ below hf ((Spec.applies_iff_loose hf).mp happ).1 ⟨rfl, State.Warmed39.refl s, rfl⟩ trivial
  refine ⟨n, _, h1, h2, h3, hpost _ _ _ _ _ _ ⟨Cond.after_iff.mpr rfl, Cond.after_iff.mpr (eq_i res_at (Term.int_eval (1)) rfl), trivial⟩ ⟨hq.1, hq.2.1, (hq.2.2.sift fun y hy => Or.inr (N y hy)).mono (by decide) (by decide)⟩⟩
theorem main_1_1 : Claimed_1_1 := comes_1 fun _ _ _ _ _ _ h hF => ⟨h.1, hF⟩
theorem main_1_2 : Claimed_1_2 := comes_1 fun _ _ _ _ _ _ h hF => ⟨h.2.1, hF⟩
end Jvm.Pilot.@@N@@
namespace Jvm.Pilot.@@N@@
open Jvm Jvm.ClassFile Sem Op Lib Jvm.Free Jvm.Stand Jvm.Pilot.@@N@@.Jvm.D
/-! MADE BY PROGRAM (witnessworld.py) out of the Statement's table words and the real class files: 14 classes; the members and pool entries that the words name. The judged class is class 1, her method 1. -/
namespace start1
open Jvm.ClassFile
def u (s : String) : CpInfo := .utf8 (stringToUtf16 s)
/-- a pool by its gaps: so many unusable entries, then the entry; so many at the end -/
def gap : Nat → List CpInfo → List CpInfo
  | 0, r => r
  | n + 1, r => .unusable :: gap n r
def poolList (es : List (Nat × CpInfo)) (last : Nat) : List CpInfo := es.foldr (fun e r => gap e.1 (e.2 :: r)) (gap last [])
def pool (es : List (Nat × CpInfo)) (last : Nat) : Array CpInfo := ⟨poolList es last⟩
def fileOf (pool : Array CpInfo) (this : Nat) (attrs : Array Attribute := #[]) (ms : Array MethodInfo := #[]) (fl : Nat := 33) (sup : Nat := 0) (ifs : Array Nat := #[]) (fds : Array FieldInfo := #[]) : ClassFile where
  minorVersion := 0
  majorVersion := 65
  constantPool := pool
  accessFlags := fl
  thisClass := this
  superClass := sup
  interfaces := ifs
  fields := fds
  methods := ms
  attributes := attrs
def plain (name : String) (sup : Option ClassId) : Class where
  name := name
  kind := .ordinary
  loader := none
  accessFlags := 33
  super := sup
  interfaces := #[]
  cf := none
  fields := #[]
  methods := #[]
  instanceTypes := #[]
  staticTypes := #[]
  resolved := #[]
  callSites := []
  init := .initialized
  statics := none
  mirror := none

def pool0 : Array CpInfo := pool [(5, u "<init>"), (0, u "()V"), (1, .class_ 10), (1, u "java/lang/Object")] 113

def k0c0 : Code := { maxStack := 0, maxLocals := 1, code := object_method_1_code, exceptionTable := #[], attributes := #[] }
def k0m0 : Method := { name := "<init>", desc := "()V", sig := { parameters := [], returnType := none }, accessFlags := 1, code := some k0c0 }
/-- java/lang/Object -/
def k0 : Class := { plain "java/lang/Object" none with
  accessFlags := 33
  interfaces := #[]
  cf := some (fileOf pool0 8 #[] #[{ accessFlags := 1, nameIndex := 5, descriptorIndex := 6, attributes := #[] }] 33 0 #[] #[])
  fields := #[]
  methods := #[k0m0]
  instanceTypes := #[]
  staticTypes := #[]
  resolved := Array.replicate 124 none
  statics := none }

def pool1 : Array CpInfo := pool [(2, .class_ 4), (0, .nameAndType 5 6), (0, u "java/lang/Object"), (0, u "<init>"), (0, u "()V"), (0, .class_ 8), (0, u "gleanwell/Position"), (0, .methodref 7 3), (0, .methodref 7 11), (0, .nameAndType 12 13), (0, u "pass"), (0, u "([CII)V"), (0, .methodref 7 15), (0, .nameAndType 16 17), (0, u "line"), (0, u "()J"), (0, .methodref 7 19), (0, .nameAndType 20 21), (0, u "beginLine"), (0, u "(JC)V"), (0, .methodref 7 23), (0, .nameAndType 24 17), (0, u "column"), (0, .methodref 7 26), (0, .nameAndType 27 28), (0, u "last"), (0, u "()C"), (0, .long 2), (1, .class_ 32), (0, u "gleanwell/PositionBeginLinePinLaw"), (2, u "law"), (0, u "(JIII)Z")] 5

def k1m0 : Method := { name := "<init>", desc := "()V", sig := { parameters := [], returnType := none }, accessFlags := 1, code := none }
def k1c1 : Code := { maxStack := 6, maxLocals := 21, code := code, exceptionTable := #[], attributes := #[] }
def k1m1 : Method := { name := "law", desc := "(JIII)Z", sig := { parameters := [.long, .int, .int, .int], returnType := some .boolean }, accessFlags := 9, code := some k1c1 }
/-- gleanwell/PositionBeginLinePinLaw -/
def k1 : Class := { plain "gleanwell/PositionBeginLinePinLaw" (some 0) with
  accessFlags := 49
  interfaces := #[]
  cf := some (fileOf pool1 31 #[] #[{ accessFlags := 1, nameIndex := 5, descriptorIndex := 6, attributes := #[] }, { accessFlags := 9, nameIndex := 35, descriptorIndex := 36, attributes := #[] }] 49 2 #[] #[])
  fields := #[]
  methods := #[k1m0, k1m1]
  instanceTypes := #[]
  staticTypes := #[]
  resolved := Array.replicate 42 none
  statics := none }

def pool2 : Array CpInfo := pool [(1, .methodref 2 3), (0, .class_ 4), (0, .nameAndType 5 6), (0, u "java/lang/Object"), (0, u "<init>"), (0, u "()V"), (0, .fieldref 8 9), (0, .class_ 10), (0, .nameAndType 11 12), (0, u "gleanwell/Position"), (0, u "line"), (0, u "J"), (0, .fieldref 8 14), (0, .nameAndType 15 12), (0, u "column"), (0, .fieldref 8 17), (0, .nameAndType 18 19), (0, u "last"), (0, u "C"), (1, .methodref 8 22), (0, .nameAndType 23 24), (0, u "isTerminator"), (0, u "(C)Z"), (0, .methodref 8 26), (0, .nameAndType 27 28), (0, u "before"), (0, u "([CII)C"), (0, .methodref 8 30), (0, .nameAndType 31 32), (0, u "endsLine"), (0, u "(CC)Z"), (0, .methodref 34 35), (0, .class_ 36), (0, .nameAndType 37 24), (0, u "java/lang/Character"), (0, u "isLowSurrogate"), (0, .methodref 34 39), (0, .nameAndType 40 24), (0, u "isHighSurrogate"), (2, u "()J"), (1, u "()C"), (0, u "beginLine"), (0, u "(JC)V"), (2, u "pass"), (0, u "([CII)V")] 4

def k2c0 : Code := { maxStack := 3, maxLocals := 1, code := prog_33_method_1_code, exceptionTable := #[], attributes := #[] }
def k2m0 : Method := { name := "<init>", desc := "()V", sig := { parameters := [], returnType := none }, accessFlags := 0, code := some k2c0 }
def k2c1 : Code := { maxStack := 2, maxLocals := 1, code := prog_33_method_2_code, exceptionTable := #[], attributes := #[] }
def k2m1 : Method := { name := "line", desc := "()J", sig := { parameters := [], returnType := some .long }, accessFlags := 0, code := some k2c1 }
def k2c2 : Code := { maxStack := 2, maxLocals := 1, code := prog_33_method_3_code, exceptionTable := #[], attributes := #[] }
def k2m2 : Method := { name := "column", desc := "()J", sig := { parameters := [], returnType := some .long }, accessFlags := 0, code := some k2c2 }
def k2c3 : Code := { maxStack := 2, maxLocals := 1, code := prog_33_method_4_code, exceptionTable := #[], attributes := #[] }
def k2m3 : Method := { name := "isTerminator", desc := "(C)Z", sig := { parameters := [.char], returnType := some .boolean }, accessFlags := 8, code := some k2c3 }
def k2c4 : Code := { maxStack := 2, maxLocals := 2, code := prog_33_method_5_code, exceptionTable := #[], attributes := #[] }
def k2m4 : Method := { name := "endsLine", desc := "(CC)Z", sig := { parameters := [.char, .char], returnType := some .boolean }, accessFlags := 8, code := some k2c4 }
def k2c5 : Code := { maxStack := 1, maxLocals := 1, code := prog_33_method_6_code, exceptionTable := #[], attributes := #[] }
def k2m5 : Method := { name := "last", desc := "()C", sig := { parameters := [], returnType := some .char }, accessFlags := 0, code := some k2c5 }
def k2c6 : Code := { maxStack := 5, maxLocals := 4, code := prog_33_method_7_code, exceptionTable := #[], attributes := #[] }
def k2m6 : Method := { name := "beginLine", desc := "(JC)V", sig := { parameters := [.long, .char], returnType := none }, accessFlags := 0, code := some k2c6 }
def k2c7 : Code := { maxStack := 5, maxLocals := 11, code := prog_33_method_9_code, exceptionTable := #[], attributes := #[] }
def k2m7 : Method := { name := "pass", desc := "([CII)V", sig := { parameters := [(.array .char), .int, .int], returnType := none }, accessFlags := 0, code := some k2c7 }
def k2c8 : Code := { maxStack := 3, maxLocals := 4, code := prog_33_method_10_code, exceptionTable := #[], attributes := #[] }
def k2m8 : Method := { name := "before", desc := "([CII)C", sig := { parameters := [(.array .char), .int, .int], returnType := some .char }, accessFlags := 2, code := some k2c8 }
/-- gleanwell/Position -/
def k2 : Class := { plain "gleanwell/Position" (some 0) with
  accessFlags := 48
  interfaces := #[]
  cf := some (fileOf pool2 8 #[] #[{ accessFlags := 0, nameIndex := 5, descriptorIndex := 6, attributes := #[] }, { accessFlags := 0, nameIndex := 11, descriptorIndex := 43, attributes := #[] }, { accessFlags := 0, nameIndex := 15, descriptorIndex := 43, attributes := #[] }, { accessFlags := 8, nameIndex := 23, descriptorIndex := 24, attributes := #[] }, { accessFlags := 8, nameIndex := 31, descriptorIndex := 32, attributes := #[] }, { accessFlags := 0, nameIndex := 18, descriptorIndex := 45, attributes := #[] }, { accessFlags := 0, nameIndex := 46, descriptorIndex := 47, attributes := #[] }, { accessFlags := 0, nameIndex := 50, descriptorIndex := 51, attributes := #[] }, { accessFlags := 2, nameIndex := 27, descriptorIndex := 28, attributes := #[] }] 48 2 #[] #[{ accessFlags := 2, nameIndex := 11, descriptorIndex := 12, attributes := #[] }, { accessFlags := 2, nameIndex := 15, descriptorIndex := 12, attributes := #[] }, { accessFlags := 2, nameIndex := 18, descriptorIndex := 19, attributes := #[] }])
  fields := #[{ name := "line", type := .long, accessFlags := 2, slot := 0, constantValue := 0 }, { name := "column", type := .long, accessFlags := 2, slot := 1, constantValue := 0 }, { name := "last", type := .char, accessFlags := 2, slot := 2, constantValue := 0 }]
  methods := #[k2m0, k2m1, k2m2, k2m3, k2m4, k2m5, k2m6, k2m7, k2m8]
  instanceTypes := #[.long, .long, .char]
  staticTypes := #[]
  resolved := Array.replicate 56 none
  statics := none }

def pool3 : Array CpInfo := pool [(1, .class_ 2), (0, u "java/io/Serializable"), (0, .class_ 4), (0, u "java/lang/Object")] 2

/-- java/io/Serializable -/
def k3 : Class := { plain "java/io/Serializable" (some 0) with
  accessFlags := 1537
  interfaces := #[]
  cf := some (fileOf pool3 1 #[] #[] 1537 3 #[] #[])
  fields := #[]
  methods := #[]
  instanceTypes := #[]
  staticTypes := #[]
  resolved := Array.replicate 7 none
  statics := none }

def pool4 : Array CpInfo := pool [(1, .class_ 2), (0, u "java/lang/Comparable"), (0, .class_ 4), (0, u "java/lang/Object")] 7

/-- java/lang/Comparable -/
def k4 : Class := { plain "java/lang/Comparable" (some 0) with
  accessFlags := 1537
  interfaces := #[]
  cf := some (fileOf pool4 1 #[] #[] 1537 3 #[] #[])
  fields := #[]
  methods := #[]
  instanceTypes := #[]
  staticTypes := #[]
  resolved := Array.replicate 12 none
  statics := none }

def pool5 : Array CpInfo := pool [(1, .class_ 2), (0, u "java/lang/constant/Constable"), (0, .class_ 4), (0, u "java/lang/Object")] 6

/-- java/lang/constant/Constable -/
def k5 : Class := { plain "java/lang/constant/Constable" (some 0) with
  accessFlags := 1537
  interfaces := #[]
  cf := some (fileOf pool5 1 #[] #[] 1537 3 #[] #[])
  fields := #[]
  methods := #[]
  instanceTypes := #[]
  staticTypes := #[]
  resolved := Array.replicate 11 none
  statics := none }

def pool6 : Array CpInfo := pool [(1, .class_ 2), (0, u "java/lang/Character"), (18, u "value"), (0, u "C"), (19, .class_ 44), (1, u "java/lang/Object"), (3, .class_ 50), (1, u "java/lang/Character$CharacterCache"), (24, .integer 55296), (0, .integer 56320), (0, .integer 57344), (2, u "isHighSurrogate"), (0, u "(C)Z"), (2, u "isLowSurrogate"), (199, u "$assertionsDisabled"), (0, u "Z"), (21, .class_ 309), (1, u "java/lang/Character$UnicodeBlock"), (73, u "TYPE"), (0, u "Ljava/lang/Class;"), (0, .class_ 386), (0, u "java/io/Serializable"), (0, .class_ 388), (0, u "java/lang/Comparable"), (0, .class_ 390), (0, u "java/lang/constant/Constable"), (0, u "MIN_RADIX"), (0, u "I"), (2, u "MAX_RADIX"), (1, u "MIN_VALUE"), (1, u "MAX_VALUE"), (3, u "UNASSIGNED"), (0, u "B"), (0, u "UPPERCASE_LETTER"), (1, u "LOWERCASE_LETTER"), (0, u "TITLECASE_LETTER"), (1, u "MODIFIER_LETTER"), (1, u "OTHER_LETTER"), (1, u "NON_SPACING_MARK"), (1, u "ENCLOSING_MARK"), (1, u "COMBINING_SPACING_MARK"), (1, u "DECIMAL_DIGIT_NUMBER"), (1, u "LETTER_NUMBER"), (1, u "OTHER_NUMBER"), (1, u "SPACE_SEPARATOR"), (1, u "LINE_SEPARATOR"), (1, u "PARAGRAPH_SEPARATOR"), (1, u "CONTROL"), (1, u "FORMAT"), (1, u "PRIVATE_USE"), (1, u "SURROGATE"), (1, u "DASH_PUNCTUATION"), (1, u "START_PUNCTUATION"), (1, u "END_PUNCTUATION"), (1, u "CONNECTOR_PUNCTUATION"), (1, u "OTHER_PUNCTUATION"), (1, u "MATH_SYMBOL"), (1, u "CURRENCY_SYMBOL"), (1, u "MODIFIER_SYMBOL"), (1, u "OTHER_SYMBOL"), (1, u "INITIAL_QUOTE_PUNCTUATION"), (1, u "FINAL_QUOTE_PUNCTUATION"), (1, u "ERROR"), (1, u "DIRECTIONALITY_UNDEFINED"), (0, u "DIRECTIONALITY_LEFT_TO_RIGHT"), (0, u "DIRECTIONALITY_RIGHT_TO_LEFT"), (0, u "DIRECTIONALITY_RIGHT_TO_LEFT_ARABIC"), (0, u "DIRECTIONALITY_EUROPEAN_NUMBER"), (0, u "DIRECTIONALITY_EUROPEAN_NUMBER_SEPARATOR"), (0, u "DIRECTIONALITY_EUROPEAN_NUMBER_TERMINATOR"), (0, u "DIRECTIONALITY_ARABIC_NUMBER"), (0, u "DIRECTIONALITY_COMMON_NUMBER_SEPARATOR"), (0, u "DIRECTIONALITY_NONSPACING_MARK"), (0, u "DIRECTIONALITY_BOUNDARY_NEUTRAL"), (0, u "DIRECTIONALITY_PARAGRAPH_SEPARATOR"), (0, u "DIRECTIONALITY_SEGMENT_SEPARATOR"), (0, u "DIRECTIONALITY_WHITESPACE"), (0, u "DIRECTIONALITY_OTHER_NEUTRALS"), (0, u "DIRECTIONALITY_LEFT_TO_RIGHT_EMBEDDING"), (0, u "DIRECTIONALITY_LEFT_TO_RIGHT_OVERRIDE"), (0, u "DIRECTIONALITY_RIGHT_TO_LEFT_EMBEDDING"), (0, u "DIRECTIONALITY_RIGHT_TO_LEFT_OVERRIDE"), (1, u "DIRECTIONALITY_POP_DIRECTIONAL_FORMAT"), (0, u "DIRECTIONALITY_LEFT_TO_RIGHT_ISOLATE"), (0, u "DIRECTIONALITY_RIGHT_TO_LEFT_ISOLATE"), (0, u "DIRECTIONALITY_FIRST_STRONG_ISOLATE"), (0, u "DIRECTIONALITY_POP_DIRECTIONAL_ISOLATE"), (0, u "MIN_HIGH_SURROGATE"), (0, u "MAX_HIGH_SURROGATE"), (1, u "MIN_LOW_SURROGATE"), (0, u "MAX_LOW_SURROGATE"), (1, u "MIN_SURROGATE"), (0, u "MAX_SURROGATE"), (0, u "MIN_SUPPLEMENTARY_CODE_POINT"), (0, u "MIN_CODE_POINT"), (0, u "MAX_CODE_POINT"), (1, u "serialVersionUID"), (0, u "J"), (2, u "SIZE"), (0, u "BYTES"), (88, .class_ 596), (0, u "java/lang/Character$UnicodeScript"), (0, .class_ 598), (0, u "java/lang/Character$Subset")] 5

def k6c0 : Code := { maxStack := 2, maxLocals := 1, code := jdk_89_method_14_code, exceptionTable := #[], attributes := #[] }
def k6m0 : Method := { name := "isHighSurrogate", desc := "(C)Z", sig := { parameters := [.char], returnType := some .boolean }, accessFlags := 9, code := some k6c0 }
def k6c1 : Code := { maxStack := 2, maxLocals := 1, code := jdk_89_method_15_code, exceptionTable := #[], attributes := #[] }
def k6m1 : Method := { name := "isLowSurrogate", desc := "(C)Z", sig := { parameters := [.char], returnType := some .boolean }, accessFlags := 9, code := some k6c1 }
/-- java/lang/Character -/
def k6 : Class := { plain "java/lang/Character" (some 0) with
  accessFlags := 49
  interfaces := #[3, 4, 5]
  cf := some (fileOf pool6 1 #[.nestMembers #[48, 595, 307, 597]] #[{ accessFlags := 9, nameIndex := 80, descriptorIndex := 81, attributes := #[] }, { accessFlags := 9, nameIndex := 84, descriptorIndex := 81, attributes := #[] }] 49 42 #[385, 387, 389] #[{ accessFlags := 25, nameIndex := 391, descriptorIndex := 392, attributes := #[] }, { accessFlags := 25, nameIndex := 395, descriptorIndex := 392, attributes := #[] }, { accessFlags := 25, nameIndex := 397, descriptorIndex := 22, attributes := #[] }, { accessFlags := 25, nameIndex := 399, descriptorIndex := 22, attributes := #[] }, { accessFlags := 25, nameIndex := 383, descriptorIndex := 384, attributes := #[] }, { accessFlags := 25, nameIndex := 403, descriptorIndex := 404, attributes := #[] }, { accessFlags := 25, nameIndex := 405, descriptorIndex := 404, attributes := #[] }, { accessFlags := 25, nameIndex := 407, descriptorIndex := 404, attributes := #[] }, { accessFlags := 25, nameIndex := 408, descriptorIndex := 404, attributes := #[] }, { accessFlags := 25, nameIndex := 410, descriptorIndex := 404, attributes := #[] }, { accessFlags := 25, nameIndex := 412, descriptorIndex := 404, attributes := #[] }, { accessFlags := 25, nameIndex := 414, descriptorIndex := 404, attributes := #[] }, { accessFlags := 25, nameIndex := 416, descriptorIndex := 404, attributes := #[] }, { accessFlags := 25, nameIndex := 418, descriptorIndex := 404, attributes := #[] }, { accessFlags := 25, nameIndex := 420, descriptorIndex := 404, attributes := #[] }, { accessFlags := 25, nameIndex := 422, descriptorIndex := 404, attributes := #[] }, { accessFlags := 25, nameIndex := 424, descriptorIndex := 404, attributes := #[] }, { accessFlags := 25, nameIndex := 426, descriptorIndex := 404, attributes := #[] }, { accessFlags := 25, nameIndex := 428, descriptorIndex := 404, attributes := #[] }, { accessFlags := 25, nameIndex := 430, descriptorIndex := 404, attributes := #[] }, { accessFlags := 25, nameIndex := 432, descriptorIndex := 404, attributes := #[] }, { accessFlags := 25, nameIndex := 434, descriptorIndex := 404, attributes := #[] }, { accessFlags := 25, nameIndex := 436, descriptorIndex := 404, attributes := #[] }, { accessFlags := 25, nameIndex := 438, descriptorIndex := 404, attributes := #[] }, { accessFlags := 25, nameIndex := 440, descriptorIndex := 404, attributes := #[] }, { accessFlags := 25, nameIndex := 442, descriptorIndex := 404, attributes := #[] }, { accessFlags := 25, nameIndex := 444, descriptorIndex := 404, attributes := #[] }, { accessFlags := 25, nameIndex := 446, descriptorIndex := 404, attributes := #[] }, { accessFlags := 25, nameIndex := 448, descriptorIndex := 404, attributes := #[] }, { accessFlags := 25, nameIndex := 450, descriptorIndex := 404, attributes := #[] }, { accessFlags := 25, nameIndex := 452, descriptorIndex := 404, attributes := #[] }, { accessFlags := 25, nameIndex := 454, descriptorIndex := 404, attributes := #[] }, { accessFlags := 25, nameIndex := 456, descriptorIndex := 404, attributes := #[] }, { accessFlags := 25, nameIndex := 458, descriptorIndex := 404, attributes := #[] }, { accessFlags := 25, nameIndex := 460, descriptorIndex := 404, attributes := #[] }, { accessFlags := 24, nameIndex := 462, descriptorIndex := 392, attributes := #[] }, { accessFlags := 25, nameIndex := 464, descriptorIndex := 404, attributes := #[] }, { accessFlags := 25, nameIndex := 465, descriptorIndex := 404, attributes := #[] }, { accessFlags := 25, nameIndex := 466, descriptorIndex := 404, attributes := #[] }, { accessFlags := 25, nameIndex := 467, descriptorIndex := 404, attributes := #[] }, { accessFlags := 25, nameIndex := 468, descriptorIndex := 404, attributes := #[] }, { accessFlags := 25, nameIndex := 469, descriptorIndex := 404, attributes := #[] }, { accessFlags := 25, nameIndex := 470, descriptorIndex := 404, attributes := #[] }, { accessFlags := 25, nameIndex := 471, descriptorIndex := 404, attributes := #[] }, { accessFlags := 25, nameIndex := 472, descriptorIndex := 404, attributes := #[] }, { accessFlags := 25, nameIndex := 473, descriptorIndex := 404, attributes := #[] }, { accessFlags := 25, nameIndex := 474, descriptorIndex := 404, attributes := #[] }, { accessFlags := 25, nameIndex := 475, descriptorIndex := 404, attributes := #[] }, { accessFlags := 25, nameIndex := 476, descriptorIndex := 404, attributes := #[] }, { accessFlags := 25, nameIndex := 477, descriptorIndex := 404, attributes := #[] }, { accessFlags := 25, nameIndex := 478, descriptorIndex := 404, attributes := #[] }, { accessFlags := 25, nameIndex := 479, descriptorIndex := 404, attributes := #[] }, { accessFlags := 25, nameIndex := 480, descriptorIndex := 404, attributes := #[] }, { accessFlags := 25, nameIndex := 481, descriptorIndex := 404, attributes := #[] }, { accessFlags := 25, nameIndex := 482, descriptorIndex := 404, attributes := #[] }, { accessFlags := 25, nameIndex := 484, descriptorIndex := 404, attributes := #[] }, { accessFlags := 25, nameIndex := 485, descriptorIndex := 404, attributes := #[] }, { accessFlags := 25, nameIndex := 486, descriptorIndex := 404, attributes := #[] }, { accessFlags := 25, nameIndex := 487, descriptorIndex := 404, attributes := #[] }, { accessFlags := 25, nameIndex := 488, descriptorIndex := 404, attributes := #[] }, { accessFlags := 25, nameIndex := 489, descriptorIndex := 22, attributes := #[] }, { accessFlags := 25, nameIndex := 490, descriptorIndex := 22, attributes := #[] }, { accessFlags := 25, nameIndex := 492, descriptorIndex := 22, attributes := #[] }, { accessFlags := 25, nameIndex := 493, descriptorIndex := 22, attributes := #[] }, { accessFlags := 25, nameIndex := 495, descriptorIndex := 22, attributes := #[] }, { accessFlags := 25, nameIndex := 496, descriptorIndex := 22, attributes := #[] }, { accessFlags := 25, nameIndex := 497, descriptorIndex := 392, attributes := #[] }, { accessFlags := 25, nameIndex := 498, descriptorIndex := 392, attributes := #[] }, { accessFlags := 25, nameIndex := 499, descriptorIndex := 392, attributes := #[] }, { accessFlags := 18, nameIndex := 21, descriptorIndex := 22, attributes := #[] }, { accessFlags := 26, nameIndex := 501, descriptorIndex := 502, attributes := #[] }, { accessFlags := 25, nameIndex := 505, descriptorIndex := 392, attributes := #[] }, { accessFlags := 25, nameIndex := 506, descriptorIndex := 392, attributes := #[] }, { accessFlags := 4120, nameIndex := 284, descriptorIndex := 285, attributes := #[] }])
  fields := #[{ name := "MIN_RADIX", type := .int, accessFlags := 25, slot := 0, constantValue := 0 }, { name := "MAX_RADIX", type := .int, accessFlags := 25, slot := 1, constantValue := 0 }, { name := "MIN_VALUE", type := .char, accessFlags := 25, slot := 2, constantValue := 0 }, { name := "MAX_VALUE", type := .char, accessFlags := 25, slot := 3, constantValue := 0 }, { name := "TYPE", type := (.object "java/lang/Class"), accessFlags := 25, slot := 4, constantValue := 0 }, { name := "UNASSIGNED", type := .byte, accessFlags := 25, slot := 5, constantValue := 0 }, { name := "UPPERCASE_LETTER", type := .byte, accessFlags := 25, slot := 6, constantValue := 0 }, { name := "LOWERCASE_LETTER", type := .byte, accessFlags := 25, slot := 7, constantValue := 0 }, { name := "TITLECASE_LETTER", type := .byte, accessFlags := 25, slot := 8, constantValue := 0 }, { name := "MODIFIER_LETTER", type := .byte, accessFlags := 25, slot := 9, constantValue := 0 }, { name := "OTHER_LETTER", type := .byte, accessFlags := 25, slot := 10, constantValue := 0 }, { name := "NON_SPACING_MARK", type := .byte, accessFlags := 25, slot := 11, constantValue := 0 }, { name := "ENCLOSING_MARK", type := .byte, accessFlags := 25, slot := 12, constantValue := 0 }, { name := "COMBINING_SPACING_MARK", type := .byte, accessFlags := 25, slot := 13, constantValue := 0 }, { name := "DECIMAL_DIGIT_NUMBER", type := .byte, accessFlags := 25, slot := 14, constantValue := 0 }, { name := "LETTER_NUMBER", type := .byte, accessFlags := 25, slot := 15, constantValue := 0 }, { name := "OTHER_NUMBER", type := .byte, accessFlags := 25, slot := 16, constantValue := 0 }, { name := "SPACE_SEPARATOR", type := .byte, accessFlags := 25, slot := 17, constantValue := 0 }, { name := "LINE_SEPARATOR", type := .byte, accessFlags := 25, slot := 18, constantValue := 0 }, { name := "PARAGRAPH_SEPARATOR", type := .byte, accessFlags := 25, slot := 19, constantValue := 0 }, { name := "CONTROL", type := .byte, accessFlags := 25, slot := 20, constantValue := 0 }, { name := "FORMAT", type := .byte, accessFlags := 25, slot := 21, constantValue := 0 }, { name := "PRIVATE_USE", type := .byte, accessFlags := 25, slot := 22, constantValue := 0 }, { name := "SURROGATE", type := .byte, accessFlags := 25, slot := 23, constantValue := 0 }, { name := "DASH_PUNCTUATION", type := .byte, accessFlags := 25, slot := 24, constantValue := 0 }, { name := "START_PUNCTUATION", type := .byte, accessFlags := 25, slot := 25, constantValue := 0 }, { name := "END_PUNCTUATION", type := .byte, accessFlags := 25, slot := 26, constantValue := 0 }, { name := "CONNECTOR_PUNCTUATION", type := .byte, accessFlags := 25, slot := 27, constantValue := 0 }, { name := "OTHER_PUNCTUATION", type := .byte, accessFlags := 25, slot := 28, constantValue := 0 }, { name := "MATH_SYMBOL", type := .byte, accessFlags := 25, slot := 29, constantValue := 0 }, { name := "CURRENCY_SYMBOL", type := .byte, accessFlags := 25, slot := 30, constantValue := 0 }, { name := "MODIFIER_SYMBOL", type := .byte, accessFlags := 25, slot := 31, constantValue := 0 }, { name := "OTHER_SYMBOL", type := .byte, accessFlags := 25, slot := 32, constantValue := 0 }, { name := "INITIAL_QUOTE_PUNCTUATION", type := .byte, accessFlags := 25, slot := 33, constantValue := 0 }, { name := "FINAL_QUOTE_PUNCTUATION", type := .byte, accessFlags := 25, slot := 34, constantValue := 0 }, { name := "ERROR", type := .int, accessFlags := 24, slot := 35, constantValue := 0 }, { name := "DIRECTIONALITY_UNDEFINED", type := .byte, accessFlags := 25, slot := 36, constantValue := 0 }, { name := "DIRECTIONALITY_LEFT_TO_RIGHT", type := .byte, accessFlags := 25, slot := 37, constantValue := 0 }, { name := "DIRECTIONALITY_RIGHT_TO_LEFT", type := .byte, accessFlags := 25, slot := 38, constantValue := 0 }, { name := "DIRECTIONALITY_RIGHT_TO_LEFT_ARABIC", type := .byte, accessFlags := 25, slot := 39, constantValue := 0 }, { name := "DIRECTIONALITY_EUROPEAN_NUMBER", type := .byte, accessFlags := 25, slot := 40, constantValue := 0 }, { name := "DIRECTIONALITY_EUROPEAN_NUMBER_SEPARATOR", type := .byte, accessFlags := 25, slot := 41, constantValue := 0 }, { name := "DIRECTIONALITY_EUROPEAN_NUMBER_TERMINATOR", type := .byte, accessFlags := 25, slot := 42, constantValue := 0 }, { name := "DIRECTIONALITY_ARABIC_NUMBER", type := .byte, accessFlags := 25, slot := 43, constantValue := 0 }, { name := "DIRECTIONALITY_COMMON_NUMBER_SEPARATOR", type := .byte, accessFlags := 25, slot := 44, constantValue := 0 }, { name := "DIRECTIONALITY_NONSPACING_MARK", type := .byte, accessFlags := 25, slot := 45, constantValue := 0 }, { name := "DIRECTIONALITY_BOUNDARY_NEUTRAL", type := .byte, accessFlags := 25, slot := 46, constantValue := 0 }, { name := "DIRECTIONALITY_PARAGRAPH_SEPARATOR", type := .byte, accessFlags := 25, slot := 47, constantValue := 0 }, { name := "DIRECTIONALITY_SEGMENT_SEPARATOR", type := .byte, accessFlags := 25, slot := 48, constantValue := 0 }, { name := "DIRECTIONALITY_WHITESPACE", type := .byte, accessFlags := 25, slot := 49, constantValue := 0 }, { name := "DIRECTIONALITY_OTHER_NEUTRALS", type := .byte, accessFlags := 25, slot := 50, constantValue := 0 }, { name := "DIRECTIONALITY_LEFT_TO_RIGHT_EMBEDDING", type := .byte, accessFlags := 25, slot := 51, constantValue := 0 }, { name := "DIRECTIONALITY_LEFT_TO_RIGHT_OVERRIDE", type := .byte, accessFlags := 25, slot := 52, constantValue := 0 }, { name := "DIRECTIONALITY_RIGHT_TO_LEFT_EMBEDDING", type := .byte, accessFlags := 25, slot := 53, constantValue := 0 }, { name := "DIRECTIONALITY_RIGHT_TO_LEFT_OVERRIDE", type := .byte, accessFlags := 25, slot := 54, constantValue := 0 }, { name := "DIRECTIONALITY_POP_DIRECTIONAL_FORMAT", type := .byte, accessFlags := 25, slot := 55, constantValue := 0 }, { name := "DIRECTIONALITY_LEFT_TO_RIGHT_ISOLATE", type := .byte, accessFlags := 25, slot := 56, constantValue := 0 }, { name := "DIRECTIONALITY_RIGHT_TO_LEFT_ISOLATE", type := .byte, accessFlags := 25, slot := 57, constantValue := 0 }, { name := "DIRECTIONALITY_FIRST_STRONG_ISOLATE", type := .byte, accessFlags := 25, slot := 58, constantValue := 0 }, { name := "DIRECTIONALITY_POP_DIRECTIONAL_ISOLATE", type := .byte, accessFlags := 25, slot := 59, constantValue := 0 }, { name := "MIN_HIGH_SURROGATE", type := .char, accessFlags := 25, slot := 60, constantValue := 0 }, { name := "MAX_HIGH_SURROGATE", type := .char, accessFlags := 25, slot := 61, constantValue := 0 }, { name := "MIN_LOW_SURROGATE", type := .char, accessFlags := 25, slot := 62, constantValue := 0 }, { name := "MAX_LOW_SURROGATE", type := .char, accessFlags := 25, slot := 63, constantValue := 0 }, { name := "MIN_SURROGATE", type := .char, accessFlags := 25, slot := 64, constantValue := 0 }, { name := "MAX_SURROGATE", type := .char, accessFlags := 25, slot := 65, constantValue := 0 }, { name := "MIN_SUPPLEMENTARY_CODE_POINT", type := .int, accessFlags := 25, slot := 66, constantValue := 0 }, { name := "MIN_CODE_POINT", type := .int, accessFlags := 25, slot := 67, constantValue := 0 }, { name := "MAX_CODE_POINT", type := .int, accessFlags := 25, slot := 68, constantValue := 0 }, { name := "value", type := .char, accessFlags := 18, slot := 0, constantValue := 0 }, { name := "serialVersionUID", type := .long, accessFlags := 26, slot := 69, constantValue := 0 }, { name := "SIZE", type := .int, accessFlags := 25, slot := 70, constantValue := 0 }, { name := "BYTES", type := .int, accessFlags := 25, slot := 71, constantValue := 0 }, { name := "$assertionsDisabled", type := .boolean, accessFlags := 4120, slot := 72, constantValue := 0 }]
  methods := #[k6m0, k6m1]
  instanceTypes := #[.char]
  staticTypes := #[.int, .int, .char, .char, (.object "java/lang/Class"), .byte, .byte, .byte, .byte, .byte, .byte, .byte, .byte, .byte, .byte, .byte, .byte, .byte, .byte, .byte, .byte, .byte, .byte, .byte, .byte, .byte, .byte, .byte, .byte, .byte, .byte, .byte, .byte, .byte, .byte, .int, .byte, .byte, .byte, .byte, .byte, .byte, .byte, .byte, .byte, .byte, .byte, .byte, .byte, .byte, .byte, .byte, .byte, .byte, .byte, .byte, .byte, .byte, .byte, .byte, .char, .char, .char, .char, .char, .char, .int, .int, .int, .long, .int, .int, .boolean]
  resolved := Array.replicate 604 none
  statics := none }

def pool7 : Array CpInfo := pool [(1, u "java/lang/Cloneable"), (0, .class_ 1), (0, u "java/lang/Object"), (0, .class_ 3)] 3

/-- java/lang/Cloneable -/
def k7 : Class := { plain "java/lang/Cloneable" (some 0) with
  accessFlags := 1537
  interfaces := #[]
  cf := some (fileOf pool7 2 #[] #[] 1537 4 #[] #[])
  fields := #[]
  methods := #[]
  instanceTypes := #[]
  staticTypes := #[]
  resolved := Array.replicate 8 none
  statics := none }

/-- the primitive byte -/
def k8 : Class := { plain "byte" none with kind := .primitive 'B', accessFlags := 0x411 }
/-- [B -/
def k9 : Class := { plain "[B" (some 0) with kind := .array 8 .byte, interfaces := #[7, 3], accessFlags := 1041 }

/-- the primitive char -/
def k10 : Class := { plain "char" none with kind := .primitive 'C', accessFlags := 0x411 }
/-- [C -/
def k11 : Class := { plain "[C" (some 0) with kind := .array 10 .char, interfaces := #[7, 3], accessFlags := 1041 }

/-- the primitive int -/
def k12 : Class := { plain "int" none with kind := .primitive 'I', accessFlags := 0x411 }
/-- [I -/
def k13 : Class := { plain "[I" (some 0) with kind := .array 12 .int, interfaces := #[7, 3], accessFlags := 1041 }

def heap : Heap := #[]
def classes : Array Class := #[k0, k1, k2, k3, k4, k5, k6, k7, k8, k9, k10, k11, k12, k13]
def interned : List (Array UInt16 × Addr) := []
def slotsUsed : Nat := 0
def theMethod : MethodId := ⟨1, 1⟩
def args0 : Array Value := #[.long 5, .int 9, .int 3, .int 2]
def aboutOver (below : List Frame) : State where
  vm := { classes := classes, interned := interned.toArray }
  heap := heap
  slotsUsed := slotsUsed
  threads := #[{ frames := .invoking theMethod args0 :: below }]
def below0 : List Frame := [.native { method := ⟨0, 0⟩, args := #[] }]
def about1 : State := aboutOver below0
def p0 : Program := .bare "" "" ""
def e0 : Env := launch0.env 0 0 0
theorem w_frames : about1.frames = Frame.invoking theMethod args0 :: below0 := rfl
set_option maxRecDepth 65536 in
theorem w_args : argsFit about1.vm theMethod args0 = true := by decide +kernel
set_option maxRecDepth 65536 in
theorem w_heap : heapFits about1 = true := by decide +kernel
set_option maxRecDepth 65536 in
theorem w_runnable : about1.curStatus? = some .runnable := by decide +kernel
set_option maxRecDepth 65536 in
theorem w_alone : about1.alone = true := by decide +kernel
set_option maxRecDepth 65536 in
theorem w_named : about1.methodNamed? x = some theMethod := by decide +kernel
set_option maxRecDepth 65536 in
theorem w_hears : about1.hears theMethod below0 = true := by decide +kernel
set_option maxRecDepth 65536 in
theorem w_ripe : about1.ripe theMethod args0 below0 = true := by decide +kernel
theorem w_running : about1.status = .running := rfl
set_option maxRecDepth 65536 in
theorem w_room : about1.hasRoom e0.platform room_1 = true :=
  launch0.hasRoom_least _ room_1 (by decide +kernel) (by decide +kernel) (by decide +kernel) (by decide +kernel) (by decide +kernel) (by decide +kernel)
theorem allAtoms_all (ts : List Jvm.Cond) (a : Array Jvm.Value) (st : Jvm.State) : (allAtoms ts).before a st = ts.all (fun c => c.before a st) := by
  induction ts with
  | nil => rfl
  | cons c t ih =>
    show (Jvm.Cond.and c (allAtoms t)).before a st = _
    rw [Jvm.Cond.before_and, ih, List.all_cons]
def words1 : List Jvm.Cond := Jvm.Cond.code x code maxLocals ret :: tables_1
/-- a 'code' word, met by the world's own term for the bytes: nothing is compared byte by byte -/
theorem code_word {y : MethodName} {bytes : ByteArray} {mx : Nat} {rt : Option FieldType} {a : Array Value} {s : State} {m : MethodId} {meth : Method} {c : Code} (h1 : s.methodNamed? y = some m) (h2 : s.vm.method? m = some meth) (h3 : meth.code = some c) (h4 : c.code = bytes)
    (h5 : (c.maxLocals == mx && c.exceptionTable.isEmpty && decide (c.maxStack ≤ mostOperands) && decide (meth.sig.returnType = rt) && !meth.locks && decide (parseMethodDescriptor y.desc = some meth.sig)) = true) : (Jvm.Cond.code y bytes mx rt).before a s = true := by
  simp only [Bool.and_eq_true, beq_iff_eq, Bool.not_eq_true', decide_eq_true_eq] at h5
  obtain ⟨⟨⟨⟨⟨g1, g2⟩, g3⟩, g4⟩, g5⟩, g6⟩ := h5
  simp [Cond.before, Cond.holds, Cond.value, h1, h2, h3, h4, g1, g2, g3, g4, g5, g6]
def isCode : Jvm.Cond → Bool
  | .code _ _ _ _ => true
  | _ => false
theorem all_split {L : List Jvm.Cond} {P : Jvm.Cond → Bool} (h1 : L.all (fun c => isCode c || P c) = true) (h2 : ∀ c ∈ L.filter isCode, P c = true) : L.all P = true := by
  refine List.all_eq_true.mpr fun c hc => ?_
  have h := List.all_eq_true.mp h1 c hc
  rcases Bool.eq_false_or_eq_true (isCode c) with hi | hi
  · exact h2 c (List.mem_filter.mpr ⟨hc, hi⟩)
  · simpa [hi] using h
set_option maxRecDepth 65536 in
theorem w_c0 : (Jvm.Cond.code x code maxLocals ret).before args0 about1 = true := code_word (m := ⟨1, 1⟩) (meth := k1m1) (c := k1c1) (by decide +kernel) rfl rfl rfl (by decide +kernel)
set_option maxRecDepth 65536 in
theorem w_c1 : (Jvm.Cond.code ({ cls := "gleanwell/Position", name := "<init>", desc := "()V" } : Jvm.MethodName) prog_33_method_1_code (1 : Nat) (Option.none : Option Jvm.ClassFile.FieldType)).before args0 about1 = true := code_word (m := ⟨2, 0⟩) (meth := k2m0) (c := k2c0) (by decide +kernel) rfl rfl rfl (by decide +kernel)
set_option maxRecDepth 65536 in
theorem w_c2 : (Jvm.Cond.code ({ cls := "java/lang/Object", name := "<init>", desc := "()V" } : Jvm.MethodName) object_method_1_code (1 : Nat) (Option.none : Option Jvm.ClassFile.FieldType)).before args0 about1 = true := code_word (m := ⟨0, 0⟩) (meth := k0m0) (c := k0c0) (by decide +kernel) rfl rfl rfl (by decide +kernel)
set_option maxRecDepth 65536 in
theorem w_c3 : (Jvm.Cond.code ({ cls := "gleanwell/Position", name := "pass", desc := "([CII)V" } : Jvm.MethodName) prog_33_method_9_code (11 : Nat) (Option.none : Option Jvm.ClassFile.FieldType)).before args0 about1 = true := code_word (m := ⟨2, 7⟩) (meth := k2m7) (c := k2c7) (by decide +kernel) rfl rfl rfl (by decide +kernel)
set_option maxRecDepth 65536 in
theorem w_c4 : (Jvm.Cond.code ({ cls := "gleanwell/Position", name := "isTerminator", desc := "(C)Z" } : Jvm.MethodName) prog_33_method_4_code (1 : Nat) (Option.some Jvm.ClassFile.FieldType.boolean)).before args0 about1 = true := code_word (m := ⟨2, 3⟩) (meth := k2m3) (c := k2c3) (by decide +kernel) rfl rfl rfl (by decide +kernel)
set_option maxRecDepth 65536 in
theorem w_c5 : (Jvm.Cond.code ({ cls := "java/lang/Character", name := "isLowSurrogate", desc := "(C)Z" } : Jvm.MethodName) jdk_89_method_15_code (1 : Nat) (Option.some Jvm.ClassFile.FieldType.boolean)).before args0 about1 = true := code_word (m := ⟨6, 1⟩) (meth := k6m1) (c := k6c1) (by decide +kernel) rfl rfl rfl (by decide +kernel)
set_option maxRecDepth 65536 in
theorem w_c6 : (Jvm.Cond.code ({ cls := "gleanwell/Position", name := "line", desc := "()J" } : Jvm.MethodName) prog_33_method_2_code (1 : Nat) (Option.some Jvm.ClassFile.FieldType.long)).before args0 about1 = true := code_word (m := ⟨2, 1⟩) (meth := k2m1) (c := k2c1) (by decide +kernel) rfl rfl rfl (by decide +kernel)
set_option maxRecDepth 65536 in
theorem w_c7 : (Jvm.Cond.code ({ cls := "gleanwell/Position", name := "beginLine", desc := "(JC)V" } : Jvm.MethodName) prog_33_method_7_code (4 : Nat) (Option.none : Option Jvm.ClassFile.FieldType)).before args0 about1 = true := code_word (m := ⟨2, 6⟩) (meth := k2m6) (c := k2c6) (by decide +kernel) rfl rfl rfl (by decide +kernel)
set_option maxRecDepth 65536 in
theorem w_c8 : (Jvm.Cond.code ({ cls := "gleanwell/Position", name := "column", desc := "()J" } : Jvm.MethodName) prog_33_method_3_code (1 : Nat) (Option.some Jvm.ClassFile.FieldType.long)).before args0 about1 = true := code_word (m := ⟨2, 2⟩) (meth := k2m2) (c := k2c2) (by decide +kernel) rfl rfl rfl (by decide +kernel)
set_option maxRecDepth 65536 in
theorem w_c9 : (Jvm.Cond.code ({ cls := "gleanwell/Position", name := "last", desc := "()C" } : Jvm.MethodName) prog_33_method_6_code (1 : Nat) (Option.some Jvm.ClassFile.FieldType.char)).before args0 about1 = true := code_word (m := ⟨2, 5⟩) (meth := k2m5) (c := k2c5) (by decide +kernel) rfl rfl rfl (by decide +kernel)
set_option maxRecDepth 65536 in
theorem w_c10 : (Jvm.Cond.code ({ cls := "gleanwell/Position", name := "before", desc := "([CII)C" } : Jvm.MethodName) prog_33_method_10_code (4 : Nat) (Option.some Jvm.ClassFile.FieldType.char)).before args0 about1 = true := code_word (m := ⟨2, 8⟩) (meth := k2m8) (c := k2c8) (by decide +kernel) rfl rfl rfl (by decide +kernel)
set_option maxRecDepth 65536 in
theorem w_c11 : (Jvm.Cond.code ({ cls := "gleanwell/Position", name := "endsLine", desc := "(CC)Z" } : Jvm.MethodName) prog_33_method_5_code (2 : Nat) (Option.some Jvm.ClassFile.FieldType.boolean)).before args0 about1 = true := code_word (m := ⟨2, 4⟩) (meth := k2m4) (c := k2c4) (by decide +kernel) rfl rfl rfl (by decide +kernel)
set_option maxRecDepth 65536 in
theorem w_c12 : (Jvm.Cond.code ({ cls := "java/lang/Character", name := "isHighSurrogate", desc := "(C)Z" } : Jvm.MethodName) jdk_89_method_14_code (1 : Nat) (Option.some Jvm.ClassFile.FieldType.boolean)).before args0 about1 = true := code_word (m := ⟨6, 0⟩) (meth := k6m0) (c := k6c0) (by decide +kernel) rfl rfl rfl (by decide +kernel)
def codes1 : List Jvm.Cond := [Jvm.Cond.code x code maxLocals ret, Jvm.Cond.code ({ cls := "gleanwell/Position", name := "<init>", desc := "()V" } : Jvm.MethodName) prog_33_method_1_code (1 : Nat) (Option.none : Option Jvm.ClassFile.FieldType), Jvm.Cond.code ({ cls := "java/lang/Object", name := "<init>", desc := "()V" } : Jvm.MethodName) object_method_1_code (1 : Nat) (Option.none : Option Jvm.ClassFile.FieldType), Jvm.Cond.code ({ cls := "gleanwell/Position", name := "pass", desc := "([CII)V" } : Jvm.MethodName) prog_33_method_9_code (11 : Nat) (Option.none : Option Jvm.ClassFile.FieldType), Jvm.Cond.code ({ cls := "gleanwell/Position", name := "isTerminator", desc := "(C)Z" } : Jvm.MethodName) prog_33_method_4_code (1 : Nat) (Option.some Jvm.ClassFile.FieldType.boolean), Jvm.Cond.code ({ cls := "java/lang/Character", name := "isLowSurrogate", desc := "(C)Z" } : Jvm.MethodName) jdk_89_method_15_code (1 : Nat) (Option.some Jvm.ClassFile.FieldType.boolean), Jvm.Cond.code ({ cls := "gleanwell/Position", name := "line", desc := "()J" } : Jvm.MethodName) prog_33_method_2_code (1 : Nat) (Option.some Jvm.ClassFile.FieldType.long), Jvm.Cond.code ({ cls := "gleanwell/Position", name := "beginLine", desc := "(JC)V" } : Jvm.MethodName) prog_33_method_7_code (4 : Nat) (Option.none : Option Jvm.ClassFile.FieldType), Jvm.Cond.code ({ cls := "gleanwell/Position", name := "column", desc := "()J" } : Jvm.MethodName) prog_33_method_3_code (1 : Nat) (Option.some Jvm.ClassFile.FieldType.long), Jvm.Cond.code ({ cls := "gleanwell/Position", name := "last", desc := "()C" } : Jvm.MethodName) prog_33_method_6_code (1 : Nat) (Option.some Jvm.ClassFile.FieldType.char), Jvm.Cond.code ({ cls := "gleanwell/Position", name := "before", desc := "([CII)C" } : Jvm.MethodName) prog_33_method_10_code (4 : Nat) (Option.some Jvm.ClassFile.FieldType.char), Jvm.Cond.code ({ cls := "gleanwell/Position", name := "endsLine", desc := "(CC)Z" } : Jvm.MethodName) prog_33_method_5_code (2 : Nat) (Option.some Jvm.ClassFile.FieldType.boolean), Jvm.Cond.code ({ cls := "java/lang/Character", name := "isHighSurrogate", desc := "(C)Z" } : Jvm.MethodName) jdk_89_method_14_code (1 : Nat) (Option.some Jvm.ClassFile.FieldType.boolean)]
set_option maxRecDepth 65536 in
theorem codes_eq : words1.filter isCode = codes1 := rfl
theorem w_codes : ∀ c ∈ words1.filter isCode, c.before args0 about1 = true := by
  rw [codes_eq]
  intro c hc
  simp only [codes1, List.mem_cons, List.not_mem_nil, or_false] at hc
  rcases hc with rfl | rfl | rfl | rfl | rfl | rfl | rfl | rfl | rfl | rfl | rfl | rfl | rfl
  · exact w_c0
  · exact w_c1
  · exact w_c2
  · exact w_c3
  · exact w_c4
  · exact w_c5
  · exact w_c6
  · exact w_c7
  · exact w_c8
  · exact w_c9
  · exact w_c10
  · exact w_c11
  · exact w_c12
set_option maxRecDepth 65536 in
theorem w_t1 : (words1.take 24).all (fun c => isCode c || c.before args0 about1) = true := by decide +kernel
set_option maxRecDepth 65536 in
theorem w_t2 : ((words1.drop 24).take 24).all (fun c => isCode c || c.before args0 about1) = true := by decide +kernel
set_option maxRecDepth 65536 in
theorem w_t3 : ((words1.drop 24).drop 24).all (fun c => isCode c || c.before args0 about1) = true := by decide +kernel
theorem w_tables : (allAtoms (Jvm.Cond.code x code maxLocals ret :: tables_1)).before args0 about1 = true := by
  rw [allAtoms_all]
  show words1.all (fun c => c.before args0 about1) = true
  refine all_split ?_ w_codes
  rw [← List.take_append_drop 24 words1, List.all_append, w_t1, ← List.take_append_drop 24 (words1.drop 24), List.all_append, w_t2, w_t3]
  rfl
set_option maxRecDepth 65536 in
theorem w_case : (Jvm.Cond.and given_1 narrow_1).before args0 about1 = true := by decide +kernel
theorem w_applies : (headSpec (Jvm.Cond.code x code maxLocals ret :: tables_1) room_1).applies x e0.platform about1 = true :=
  (Spec.applies_iff w_frames).mpr ⟨w_running, w_runnable, w_alone, w_named, w_hears, w_ripe, w_room, w_tables⟩
theorem atStart : AtStart classFile x code maxLocals ret World_1 tables_1 room_1 Calls_1 rest_1 Pre_1 launch0 p0 e0 about1 theMethod args0 below0 :=
  ⟨lists_1, trivial, launch0.admits_env _ _ _, launch0.least_env, fairChoices_fair.cas, fairChoices_fair.clock, w_frames, w_args, w_heap, w_applies, trivial, trivial, w_case⟩
end start1
theorem witness_1 : WitnessClaimed_1 := ⟨start1.p0, start1.e0, start1.about1, start1.theMethod, start1.args0, start1.below0, start1.atStart⟩
end Jvm.Pilot.@@N@@
