import JvmDerived
import JvmDerived.Pilot.@@N@@Statement
import JvmDerived.Pilot.@@N@@Code
set_option linter.unusedVariables false
set_option linter.unusedSimpArgs false
namespace Jvm.Pilot.@@N@@
open Jvm Jvm.ClassFile Sem Op Lib Jvm.Free Jvm.Stand Jvm.LawKit Jvm.RoadKit Bundle Jvm.Pilot.@@N@@.Jvm.D
section OwnKit
variable {p : Program} {l : Launch} {e : Env} {R : Room} {s : State} {m : MethodId} {args : Array Value} {below : List Frame} {meth : Method} {c : Code} {T : State} {locs : List Loc} {cells slots : Nat} {Z : State} {a0 : Array Value} {h : Heap} {pc : Nat} {Ls : Array Slot} {S : List Value} {Q : Option Value → Heap → List Loc → Prop} {K J : Nat} {Fn : Outcome → State → List Loc → Prop}
/-- from here the body comes to its return, and then Q holds -/
def Go (p : Program) (e : Env) (below : List Frame) (Fn : Outcome → State → List Loc → Prop) (Q : Option Value → Heap → List Loc → Prop) (T : State) (g : JFrame) : Prop :=
  ∃ s₂ o, Steps p.tables e below (T.setTop g) s₂ ∧ s₂.status = .running ∧ Ended s₂ below o ∧ ∃ v L, o = .returned v ∧ Q v s₂.heap L ∧ Fn o s₂ L
theorem Go.st {T' : State} {g g' : JFrame} (st : ∀ t, Steps p.tables e below (T'.setTop g') t → Steps p.tables e below (T.setTop g) t) (k : Go p e below Fn Q T' g') : Go p e below Fn Q T g := by
  obtain ⟨s2, o, h1, h2⟩ := k
  exact ⟨s2, o, st _ h1, h2⟩
theorem own_w {d : Jvm.Cond} (hw : ∀ d ∈ tables_1, d.before a0 Z = true) (i : Nat) (h : tables_1[i]? = some d) : d.before a0 Z = true := hw _ (List.mem_of_getElem? h)
/-- a body's contract, at the heap h0 -/
def OwnMet (l : Launch) (Z : State) (y : MethodName) (bytes : ByteArray) (maxL : Nat) (ret : Option FieldType) (ws : List Jvm.Cond) (rm : Room) (as' : List Value) (h0 : Heap) (Qc : Option Value → Heap → List Loc → Prop) : Prop :=
  MetFree l y (head1 (Jvm.Cond.code y bytes maxL ret :: ws) rm) (fun a U => a = as'.toArray ∧ Z.Warmed39 U.vm ∧ U.heap = h0) (fun _ _ _ _ _ => True) (fun _ U o U' => ∃ v L, o = .returned v ∧ Qc v U'.heap L ∧ FrameEnd U o U' L rm.cells rm.slots)
theorem own_body {y : MethodName} {bytes : ByteArray} {maxL : Nat} {ret : Option FieldType} {ws : List Jvm.Cond} {rm : Room} {as' : List Value} {h0 : Heap} {Qc : Option Value → Heap → List Loc → Prop} {Ls : Array Slot} (hpl : plainFor y = true) (hef : ∀ m, entryFrame m as'.toArray maxL = mkF m 0 Ls [])
    (k : ∀ (p : Program) (e : Env) (s : State) (m : MethodId) (below : List Frame) (meth : Method) (c : Code) (T : State), p.tables.exec = Jvm.exec → c.code = bytes → c.maxLocals = maxL → s.vm.findClass y.cls = some m.cls → meth.name = y.name → meth.sig.returnType = ret → meth.locks = false → Z.Warmed39 s.vm → Stand p l e rm s m as'.toArray below meth c T [] 0 0 → T.heap = h0 → Go p e below (fun o t L => FrameEnd s o t L rm.cells rm.slots) Qc T (mkF m 0 Ls [])) : OwnMet l Z y bytes maxL ret ws rm as' h0 Qc := by
  refine MetFree.of_bodySF hpl hisR ?_
  intro p e s m args below meth c s₁ Bd hml0 hP hK
  obtain ⟨rfl, hZ, hh⟩ := hP
  have e0 : s₁.heap = h0 := by rw [← hh, Bd.state]; rfl
  have g := k p e s m below meth c s₁ Bd.exec Bd.bytes hml0 (findClass_of_methodNamed Bd.named) (name_of_methodNamed Bd.named Bd.method).1 Bd.returns (BodyLoose.notSynchronized Bd) hZ (Stand.of_body Bd) e0
  rw [hef]
  exact g
theorem Go.mono {Q' : Option Value → Heap → List Loc → Prop} {g : JFrame} (k : Go p e below Fn Q' T g) (hq : ∀ v h L, Q' v h L → Q v h L) : Go p e below Fn Q T g := by
  obtain ⟨s2, o, h1, h2, h3, v, L, h4, h5, h6⟩ := k
  exact ⟨s2, o, h1, h2, h3, v, L, h4, hq _ _ _ h5, h6⟩

theorem g_iloadN (X : Stand p l e R s m args below meth c T locs cells slots) (hx : p.tables.exec = Jvm.exec) (q : Nat) {k : Fin 4} {v : Int32} (hd : decode c.code pc = .ok (.iload_n k, 1)) (hl : Ls[k.val]? = some (.val (.int v))) (hq : pc + 1 = q) (k : Go p e below Fn Q T (mkF m q Ls (.int v :: S))) : Go p e below Fn Q T (mkF m pc Ls (S)) := by
  subst hq; exact k.st fun _ z => XS.iloadN X.here hx rfl hd hl z
theorem g_iload (X : Stand p l e R s m args below meth c T locs cells slots) (hx : p.tables.exec = Jvm.exec) (q : Nat) {k : Nat} {v : Int32} (hd : decode c.code pc = .ok (.iload k, 2)) (hl : Ls[k]? = some (.val (.int v))) (hq : pc + 2 = q) (k : Go p e below Fn Q T (mkF m q Ls (.int v :: S))) : Go p e below Fn Q T (mkF m pc Ls (S)) := by
  subst hq; exact k.st fun _ z => XS.iload X.here hx rfl hd hl z
theorem g_istoreN (X : Stand p l e R s m args below meth c T locs cells slots) (hx : p.tables.exec = Jvm.exec) (q : Nat) {k : Fin 4} {v : Int32} (l' : Array Slot) (hd : decode c.code pc = .ok (.istore_n k, 1)) (hl : storeLocals Ls k.val (.int v) = some l') (hq : pc + 1 = q) (k : Go p e below Fn Q T (mkF m q l' (S))) : Go p e below Fn Q T (mkF m pc Ls (.int v :: S)) := by
  subst hq; exact k.st fun _ z => XS.istoreN X.here hx rfl hd rfl hl z
theorem g_istore (X : Stand p l e R s m args below meth c T locs cells slots) (hx : p.tables.exec = Jvm.exec) (q : Nat) {k : Nat} {v : Int32} (l' : Array Slot) (hd : decode c.code pc = .ok (.istore k, 2)) (hl : storeLocals Ls k (.int v) = some l') (hq : pc + 2 = q) (k : Go p e below Fn Q T (mkF m q l' (S))) : Go p e below Fn Q T (mkF m pc Ls (.int v :: S)) := by
  subst hq; exact k.st fun _ z => XS.istore X.here hx rfl hd rfl hl z
theorem g_lloadN (X : Stand p l e R s m args below meth c T locs cells slots) (hx : p.tables.exec = Jvm.exec) (q : Nat) {k : Fin 4} {v : Int64} (hd : decode c.code pc = .ok (.lload_n k, 1)) (hl : Ls[k.val]? = some (.val (.long v))) (hq : pc + 1 = q) (k : Go p e below Fn Q T (mkF m q Ls (.long v :: S))) : Go p e below Fn Q T (mkF m pc Ls (S)) := by
  subst hq; exact k.st fun _ z => XS.lloadN X.here hx rfl hd hl z
theorem g_lload (X : Stand p l e R s m args below meth c T locs cells slots) (hx : p.tables.exec = Jvm.exec) (q : Nat) {k : Nat} {v : Int64} (hd : decode c.code pc = .ok (.lload k, 2)) (hl : Ls[k]? = some (.val (.long v))) (hq : pc + 2 = q) (k : Go p e below Fn Q T (mkF m q Ls (.long v :: S))) : Go p e below Fn Q T (mkF m pc Ls (S)) := by
  subst hq; exact k.st fun _ z => XS.lload X.here hx rfl hd hl z
theorem g_lstoreN (X : Stand p l e R s m args below meth c T locs cells slots) (hx : p.tables.exec = Jvm.exec) (q : Nat) {k : Fin 4} {v : Int64} (l' : Array Slot) (hd : decode c.code pc = .ok (.lstore_n k, 1)) (hl : storeLocals Ls k.val (.long v) = some l') (hq : pc + 1 = q) (k : Go p e below Fn Q T (mkF m q l' (S))) : Go p e below Fn Q T (mkF m pc Ls (.long v :: S)) := by
  subst hq; exact k.st fun _ z => XS.lstoreN X.here hx rfl hd rfl hl z
theorem g_lstore (X : Stand p l e R s m args below meth c T locs cells slots) (hx : p.tables.exec = Jvm.exec) (q : Nat) {k : Nat} {v : Int64} (l' : Array Slot) (hd : decode c.code pc = .ok (.lstore k, 2)) (hl : storeLocals Ls k (.long v) = some l') (hq : pc + 2 = q) (k : Go p e below Fn Q T (mkF m q l' (S))) : Go p e below Fn Q T (mkF m pc Ls (.long v :: S)) := by
  subst hq; exact k.st fun _ z => XS.lstore X.here hx rfl hd rfl hl z
theorem g_aloadN (X : Stand p l e R s m args below meth c T locs cells slots) (hx : p.tables.exec = Jvm.exec) (q : Nat) {k : Fin 4} {v : Value} (hd : decode c.code pc = .ok (.aload_n k, 1)) (hl : Ls[k.val]? = some (.val v)) (hv : v.isRef = true) (hq : pc + 1 = q) (k : Go p e below Fn Q T (mkF m q Ls (v :: S))) : Go p e below Fn Q T (mkF m pc Ls (S)) := by
  subst hq; exact k.st fun _ z => XS.aloadN X.here hx rfl hd hl hv z
theorem g_aload (X : Stand p l e R s m args below meth c T locs cells slots) (hx : p.tables.exec = Jvm.exec) (q : Nat) {k : Nat} {v : Value} (hd : decode c.code pc = .ok (.aload k, 2)) (hl : Ls[k]? = some (.val v)) (hv : v.isRef = true) (hq : pc + 2 = q) (k : Go p e below Fn Q T (mkF m q Ls (v :: S))) : Go p e below Fn Q T (mkF m pc Ls (S)) := by
  subst hq; exact k.st fun _ z => XS.aload X.here hx rfl hd hl hv z
theorem g_astoreN (X : Stand p l e R s m args below meth c T locs cells slots) (hx : p.tables.exec = Jvm.exec) (q : Nat) {k : Fin 4} {v : Value} (l' : Array Slot) (hd : decode c.code pc = .ok (.astore_n k, 1)) (hv : v.isRef = true) (hl : storeLocals Ls k.val v = some l') (hq : pc + 1 = q) (k : Go p e below Fn Q T (mkF m q l' (S))) : Go p e below Fn Q T (mkF m pc Ls (v :: S)) := by
  subst hq; exact k.st fun _ z => XS.astoreN X.here hx rfl hd rfl hv hl z
theorem g_astore (X : Stand p l e R s m args below meth c T locs cells slots) (hx : p.tables.exec = Jvm.exec) (q : Nat) {k : Nat} {v : Value} (l' : Array Slot) (hd : decode c.code pc = .ok (.astore k, 2)) (hv : v.isRef = true) (hl : storeLocals Ls k v = some l') (hq : pc + 2 = q) (k : Go p e below Fn Q T (mkF m q l' (S))) : Go p e below Fn Q T (mkF m pc Ls (v :: S)) := by
  subst hq; exact k.st fun _ z => XS.astore X.here hx rfl hd rfl hv hl z
theorem g_iconst (X : Stand p l e R s m args below meth c T locs cells slots) (hx : p.tables.exec = Jvm.exec) (q : Nat) {i : Int} (v : Int32) (hd : decode c.code pc = .ok (.iconst i, 1)) (hv : Int32.ofInt i = v) (hq : pc + 1 = q) (k : Go p e below Fn Q T (mkF m q Ls (.int v :: S))) : Go p e below Fn Q T (mkF m pc Ls (S)) := by
  subst hq; exact k.st fun _ z => XS.iconst X.here hx rfl hd (hv ▸ z)
theorem g_bipush (X : Stand p l e R s m args below meth c T locs cells slots) (hx : p.tables.exec = Jvm.exec) (q : Nat) {i : Int} (v : Int32) (hd : decode c.code pc = .ok (.bipush i, 2)) (hv : (Int8.ofInt i).toInt32 = v) (hq : pc + 2 = q) (k : Go p e below Fn Q T (mkF m q Ls (.int v :: S))) : Go p e below Fn Q T (mkF m pc Ls (S)) := by
  subst hq; exact k.st fun _ z => XS.bipush X.here hx rfl hd (hv ▸ z)
theorem g_sipush (X : Stand p l e R s m args below meth c T locs cells slots) (hx : p.tables.exec = Jvm.exec) (q : Nat) {i : Int} (v : Int32) (hd : decode c.code pc = .ok (.sipush i, 3)) (hv : (Int16.ofInt i).toInt32 = v) (hq : pc + 3 = q) (k : Go p e below Fn Q T (mkF m q Ls (.int v :: S))) : Go p e below Fn Q T (mkF m pc Ls (S)) := by
  subst hq; exact k.st fun _ z => XS.sipush X.here hx rfl hd (hv ▸ z)
theorem g_lconst (X : Stand p l e R s m args below meth c T locs cells slots) (hx : p.tables.exec = Jvm.exec) (q : Nat) {k : Fin 2} (v : Int64) (hd : decode c.code pc = .ok (.lconst k, 1)) (hv : Int64.ofNat k = v) (hq : pc + 1 = q) (k : Go p e below Fn Q T (mkF m q Ls (.long v :: S))) : Go p e below Fn Q T (mkF m pc Ls (S)) := by
  subst hq; exact k.st fun _ z => XS.lconst X.here hx rfl hd (hv ▸ z)
theorem g_aconst_null (X : Stand p l e R s m args below meth c T locs cells slots) (hx : p.tables.exec = Jvm.exec) (q : Nat)  (hd : decode c.code pc = .ok (.aconst_null, 1))  (hq : pc + 1 = q) (k : Go p e below Fn Q T (mkF m q Ls (.null :: S))) : Go p e below Fn Q T (mkF m pc Ls (S)) := by
  subst hq; exact k.st fun _ z => XS.aconstNull X.here hx rfl hd z
theorem g_iadd (X : Stand p l e R s m args below meth c T locs cells slots) (hx : p.tables.exec = Jvm.exec) (q : Nat) {x y : Int32} (w : Int32) (hd : decode c.code pc = .ok (.iadd, 1)) (hv : x + y = w) (hq : pc + 1 = q) (k : Go p e below Fn Q T (mkF m q Ls (.int w :: S))) : Go p e below Fn Q T (mkF m pc Ls (.int y :: .int x :: S)) := by
  subst hq; exact k.st fun _ z => XS.iadd X.here hx rfl hd rfl (hv ▸ z)
theorem g_isub (X : Stand p l e R s m args below meth c T locs cells slots) (hx : p.tables.exec = Jvm.exec) (q : Nat) {x y : Int32} (w : Int32) (hd : decode c.code pc = .ok (.isub, 1)) (hv : x - y = w) (hq : pc + 1 = q) (k : Go p e below Fn Q T (mkF m q Ls (.int w :: S))) : Go p e below Fn Q T (mkF m pc Ls (.int y :: .int x :: S)) := by
  subst hq; exact k.st fun _ z => XS.isub X.here hx rfl hd rfl (hv ▸ z)
theorem g_imul (X : Stand p l e R s m args below meth c T locs cells slots) (hx : p.tables.exec = Jvm.exec) (q : Nat) {x y : Int32} (w : Int32) (hd : decode c.code pc = .ok (.imul, 1)) (hv : x * y = w) (hq : pc + 1 = q) (k : Go p e below Fn Q T (mkF m q Ls (.int w :: S))) : Go p e below Fn Q T (mkF m pc Ls (.int y :: .int x :: S)) := by
  subst hq; exact k.st fun _ z => XS.imul X.here hx rfl hd rfl (hv ▸ z)
theorem g_iand (X : Stand p l e R s m args below meth c T locs cells slots) (hx : p.tables.exec = Jvm.exec) (q : Nat) {x y : Int32} (w : Int32) (hd : decode c.code pc = .ok (.iand, 1)) (hv : x &&& y = w) (hq : pc + 1 = q) (k : Go p e below Fn Q T (mkF m q Ls (.int w :: S))) : Go p e below Fn Q T (mkF m pc Ls (.int y :: .int x :: S)) := by
  subst hq; exact k.st fun _ z => XS.iand X.here hx rfl hd rfl (hv ▸ z)
theorem g_ior (X : Stand p l e R s m args below meth c T locs cells slots) (hx : p.tables.exec = Jvm.exec) (q : Nat) {x y : Int32} (w : Int32) (hd : decode c.code pc = .ok (.ior, 1)) (hv : x ||| y = w) (hq : pc + 1 = q) (k : Go p e below Fn Q T (mkF m q Ls (.int w :: S))) : Go p e below Fn Q T (mkF m pc Ls (.int y :: .int x :: S)) := by
  subst hq; exact k.st fun _ z => XS.ior X.here hx rfl hd rfl (hv ▸ z)
theorem g_ixor (X : Stand p l e R s m args below meth c T locs cells slots) (hx : p.tables.exec = Jvm.exec) (q : Nat) {x y : Int32} (w : Int32) (hd : decode c.code pc = .ok (.ixor, 1)) (hv : x ^^^ y = w) (hq : pc + 1 = q) (k : Go p e below Fn Q T (mkF m q Ls (.int w :: S))) : Go p e below Fn Q T (mkF m pc Ls (.int y :: .int x :: S)) := by
  subst hq; exact k.st fun _ z => XS.ixor X.here hx rfl hd rfl (hv ▸ z)
theorem g_ishl (X : Stand p l e R s m args below meth c T locs cells slots) (hx : p.tables.exec = Jvm.exec) (q : Nat) {x y : Int32} (w : Int32) (hd : decode c.code pc = .ok (.ishl, 1)) (hv : x <<< (y &&& 31) = w) (hq : pc + 1 = q) (k : Go p e below Fn Q T (mkF m q Ls (.int w :: S))) : Go p e below Fn Q T (mkF m pc Ls (.int y :: .int x :: S)) := by
  subst hq; exact k.st fun _ z => XS.ishl X.here hx rfl hd rfl (hv ▸ z)
theorem g_ishr (X : Stand p l e R s m args below meth c T locs cells slots) (hx : p.tables.exec = Jvm.exec) (q : Nat) {x y : Int32} (w : Int32) (hd : decode c.code pc = .ok (.ishr, 1)) (hv : x >>> (y &&& 31) = w) (hq : pc + 1 = q) (k : Go p e below Fn Q T (mkF m q Ls (.int w :: S))) : Go p e below Fn Q T (mkF m pc Ls (.int y :: .int x :: S)) := by
  subst hq; exact k.st fun _ z => XS.ishr X.here hx rfl hd rfl (hv ▸ z)
theorem g_iushr (X : Stand p l e R s m args below meth c T locs cells slots) (hx : p.tables.exec = Jvm.exec) (q : Nat) {x y : Int32} (w : Int32) (hd : decode c.code pc = .ok (.iushr, 1)) (hv : (x.toUInt32 >>> (y &&& 31).toUInt32).toInt32 = w) (hq : pc + 1 = q) (k : Go p e below Fn Q T (mkF m q Ls (.int w :: S))) : Go p e below Fn Q T (mkF m pc Ls (.int y :: .int x :: S)) := by
  subst hq; exact k.st fun _ z => XS.iushr X.here hx rfl hd rfl (hv ▸ z)
theorem g_ladd (X : Stand p l e R s m args below meth c T locs cells slots) (hx : p.tables.exec = Jvm.exec) (q : Nat) {x y : Int64} (w : Int64) (hd : decode c.code pc = .ok (.ladd, 1)) (hv : x + y = w) (hq : pc + 1 = q) (k : Go p e below Fn Q T (mkF m q Ls (.long w :: S))) : Go p e below Fn Q T (mkF m pc Ls (.long y :: .long x :: S)) := by
  subst hq; exact k.st fun _ z => XS.ladd X.here hx rfl hd rfl (hv ▸ z)
theorem g_lsub (X : Stand p l e R s m args below meth c T locs cells slots) (hx : p.tables.exec = Jvm.exec) (q : Nat) {x y : Int64} (w : Int64) (hd : decode c.code pc = .ok (.lsub, 1)) (hv : x - y = w) (hq : pc + 1 = q) (k : Go p e below Fn Q T (mkF m q Ls (.long w :: S))) : Go p e below Fn Q T (mkF m pc Ls (.long y :: .long x :: S)) := by
  subst hq; exact k.st fun _ z => XS.lsub X.here hx rfl hd rfl (hv ▸ z)
theorem g_lmul (X : Stand p l e R s m args below meth c T locs cells slots) (hx : p.tables.exec = Jvm.exec) (q : Nat) {x y : Int64} (w : Int64) (hd : decode c.code pc = .ok (.lmul, 1)) (hv : x * y = w) (hq : pc + 1 = q) (k : Go p e below Fn Q T (mkF m q Ls (.long w :: S))) : Go p e below Fn Q T (mkF m pc Ls (.long y :: .long x :: S)) := by
  subst hq; exact k.st fun _ z => XS.lmul X.here hx rfl hd rfl (hv ▸ z)
theorem g_land (X : Stand p l e R s m args below meth c T locs cells slots) (hx : p.tables.exec = Jvm.exec) (q : Nat) {x y : Int64} (w : Int64) (hd : decode c.code pc = .ok (.land, 1)) (hv : x &&& y = w) (hq : pc + 1 = q) (k : Go p e below Fn Q T (mkF m q Ls (.long w :: S))) : Go p e below Fn Q T (mkF m pc Ls (.long y :: .long x :: S)) := by
  subst hq; exact k.st fun _ z => XS.land X.here hx rfl hd rfl (hv ▸ z)
theorem g_lor (X : Stand p l e R s m args below meth c T locs cells slots) (hx : p.tables.exec = Jvm.exec) (q : Nat) {x y : Int64} (w : Int64) (hd : decode c.code pc = .ok (.lor, 1)) (hv : x ||| y = w) (hq : pc + 1 = q) (k : Go p e below Fn Q T (mkF m q Ls (.long w :: S))) : Go p e below Fn Q T (mkF m pc Ls (.long y :: .long x :: S)) := by
  subst hq; exact k.st fun _ z => XS.lor X.here hx rfl hd rfl (hv ▸ z)
theorem g_lxor (X : Stand p l e R s m args below meth c T locs cells slots) (hx : p.tables.exec = Jvm.exec) (q : Nat) {x y : Int64} (w : Int64) (hd : decode c.code pc = .ok (.lxor, 1)) (hv : x ^^^ y = w) (hq : pc + 1 = q) (k : Go p e below Fn Q T (mkF m q Ls (.long w :: S))) : Go p e below Fn Q T (mkF m pc Ls (.long y :: .long x :: S)) := by
  subst hq; exact k.st fun _ z => XS.lxor X.here hx rfl hd rfl (hv ▸ z)
theorem g_lshl (X : Stand p l e R s m args below meth c T locs cells slots) (hx : p.tables.exec = Jvm.exec) (q : Nat) {x : Int64} {y : Int32} (w : Int64) (hd : decode c.code pc = .ok (.lshl, 1)) (hv : x <<< (y &&& 0x3f).toInt64 = w) (hq : pc + 1 = q) (k : Go p e below Fn Q T (mkF m q Ls (.long w :: S))) : Go p e below Fn Q T (mkF m pc Ls (.int y :: .long x :: S)) := by
  subst hq; exact k.st fun _ z => XS.lshl X.here hx rfl hd rfl (hv ▸ z)
theorem g_lshr (X : Stand p l e R s m args below meth c T locs cells slots) (hx : p.tables.exec = Jvm.exec) (q : Nat) {x : Int64} {y : Int32} (w : Int64) (hd : decode c.code pc = .ok (.lshr, 1)) (hv : x >>> (y &&& 0x3f).toInt64 = w) (hq : pc + 1 = q) (k : Go p e below Fn Q T (mkF m q Ls (.long w :: S))) : Go p e below Fn Q T (mkF m pc Ls (.int y :: .long x :: S)) := by
  subst hq; exact k.st fun _ z => XS.lshr X.here hx rfl hd rfl (hv ▸ z)
theorem g_lushr (X : Stand p l e R s m args below meth c T locs cells slots) (hx : p.tables.exec = Jvm.exec) (q : Nat) {x : Int64} {y : Int32} (w : Int64) (hd : decode c.code pc = .ok (.lushr, 1)) (hv : (x.toUInt64 >>> (y &&& 0x3f).toInt64.toUInt64).toInt64 = w) (hq : pc + 1 = q) (k : Go p e below Fn Q T (mkF m q Ls (.long w :: S))) : Go p e below Fn Q T (mkF m pc Ls (.int y :: .long x :: S)) := by
  subst hq; exact k.st fun _ z => XS.lushr X.here hx rfl hd rfl (hv ▸ z)
theorem g_lcmp (X : Stand p l e R s m args below meth c T locs cells slots) (hx : p.tables.exec = Jvm.exec) (q : Nat) {x y : Int64} (hd : decode c.code pc = .ok (.lcmp, 1))  (hq : pc + 1 = q) (k : Go p e below Fn Q T (mkF m q Ls (.int (lcmpW x y) :: S))) : Go p e below Fn Q T (mkF m pc Ls (.long y :: .long x :: S)) := by
  subst hq; exact k.st fun _ z => XS.lcmp X.here hx rfl hd rfl z
theorem g_idiv (X : Stand p l e R s m args below meth c T locs cells slots) (hx : p.tables.exec = Jvm.exec) (q : Nat) {x y : Int32} (w : Int32) (hd : decode c.code pc = .ok (.idiv, 1)) (hy : y ≠ 0) (hv : x / y = w) (hq : pc + 1 = q) (k : Go p e below Fn Q T (mkF m q Ls (.int w :: S))) : Go p e below Fn Q T (mkF m pc Ls (.int y :: .int x :: S)) := by
  subst hq; exact k.st fun _ z => XS.idiv X.here hx rfl hd rfl hy (hv ▸ z)
theorem g_irem (X : Stand p l e R s m args below meth c T locs cells slots) (hx : p.tables.exec = Jvm.exec) (q : Nat) {x y : Int32} (w : Int32) (hd : decode c.code pc = .ok (.irem, 1)) (hy : y ≠ 0) (hv : x % y = w) (hq : pc + 1 = q) (k : Go p e below Fn Q T (mkF m q Ls (.int w :: S))) : Go p e below Fn Q T (mkF m pc Ls (.int y :: .int x :: S)) := by
  subst hq; exact k.st fun _ z => iremM X hx rfl hd rfl hy (hv ▸ z)
theorem g_ldiv (X : Stand p l e R s m args below meth c T locs cells slots) (hx : p.tables.exec = Jvm.exec) (q : Nat) {x y : Int64} (w : Int64) (hd : decode c.code pc = .ok (.ldiv, 1)) (hy : y ≠ 0) (hv : x / y = w) (hq : pc + 1 = q) (k : Go p e below Fn Q T (mkF m q Ls (.long w :: S))) : Go p e below Fn Q T (mkF m pc Ls (.long y :: .long x :: S)) := by
  subst hq; exact k.st fun _ z => XS.ldiv X.here hx rfl hd rfl hy (hv ▸ z)
theorem g_ineg (X : Stand p l e R s m args below meth c T locs cells slots) (hx : p.tables.exec = Jvm.exec) (q : Nat) {x : Int32} (w : Int32) (hd : decode c.code pc = .ok (.ineg, 1)) (hv : -x = w) (hq : pc + 1 = q) (k : Go p e below Fn Q T (mkF m q Ls (.int w :: S))) : Go p e below Fn Q T (mkF m pc Ls (.int x :: S)) := by
  subst hq; exact k.st fun _ z => XS.ineg X.here hx rfl hd rfl (hv ▸ z)
theorem g_lneg (X : Stand p l e R s m args below meth c T locs cells slots) (hx : p.tables.exec = Jvm.exec) (q : Nat) {x : Int64} (w : Int64) (hd : decode c.code pc = .ok (.lneg, 1)) (hv : -x = w) (hq : pc + 1 = q) (k : Go p e below Fn Q T (mkF m q Ls (.long w :: S))) : Go p e below Fn Q T (mkF m pc Ls (.long x :: S)) := by
  subst hq; exact k.st fun _ z => XS.lneg X.here hx rfl hd rfl (hv ▸ z)
theorem g_i2l (X : Stand p l e R s m args below meth c T locs cells slots) (hx : p.tables.exec = Jvm.exec) (q : Nat) {x : Int32} (w : Int64) (hd : decode c.code pc = .ok (.i2l, 1)) (hv : x.toInt64 = w) (hq : pc + 1 = q) (k : Go p e below Fn Q T (mkF m q Ls (.long w :: S))) : Go p e below Fn Q T (mkF m pc Ls (.int x :: S)) := by
  subst hq; exact k.st fun _ z => XS.i2l X.here hx rfl hd rfl (hv ▸ z)
theorem g_l2i (X : Stand p l e R s m args below meth c T locs cells slots) (hx : p.tables.exec = Jvm.exec) (q : Nat) {x : Int64} (w : Int32) (hd : decode c.code pc = .ok (.l2i, 1)) (hv : x.toInt32 = w) (hq : pc + 1 = q) (k : Go p e below Fn Q T (mkF m q Ls (.int w :: S))) : Go p e below Fn Q T (mkF m pc Ls (.long x :: S)) := by
  subst hq; exact k.st fun _ z => XS.l2i X.here hx rfl hd rfl (hv ▸ z)
theorem g_i2c (X : Stand p l e R s m args below meth c T locs cells slots) (hx : p.tables.exec = Jvm.exec) (q : Nat) {x : Int32} (w : Int32) (hd : decode c.code pc = .ok (.i2c, 1)) (hv : x.toUInt32.toUInt16.toUInt32.toInt32 = w) (hq : pc + 1 = q) (k : Go p e below Fn Q T (mkF m q Ls (.int w :: S))) : Go p e below Fn Q T (mkF m pc Ls (.int x :: S)) := by
  subst hq; exact k.st fun _ z => XS.i2c X.here hx rfl hd rfl (hv ▸ z)
theorem g_i2b (X : Stand p l e R s m args below meth c T locs cells slots) (hx : p.tables.exec = Jvm.exec) (q : Nat) {x : Int32} (w : Int32) (hd : decode c.code pc = .ok (.i2b, 1)) (hv : x.toInt8.toInt32 = w) (hq : pc + 1 = q) (k : Go p e below Fn Q T (mkF m q Ls (.int w :: S))) : Go p e below Fn Q T (mkF m pc Ls (.int x :: S)) := by
  subst hq; exact k.st fun _ z => XS.i2b X.here hx rfl hd rfl (hv ▸ z)
theorem g_i2s (X : Stand p l e R s m args below meth c T locs cells slots) (hx : p.tables.exec = Jvm.exec) (q : Nat) {x : Int32} (w : Int32) (hd : decode c.code pc = .ok (.i2s, 1)) (hv : x.toInt16.toInt32 = w) (hq : pc + 1 = q) (k : Go p e below Fn Q T (mkF m q Ls (.int w :: S))) : Go p e below Fn Q T (mkF m pc Ls (.int x :: S)) := by
  subst hq; exact k.st fun _ z => XS.i2s X.here hx rfl hd rfl (hv ▸ z)
theorem g_dup (X : Stand p l e R s m args below meth c T locs cells slots) (hx : p.tables.exec = Jvm.exec) (q : Nat) {v : Value} (hd : decode c.code pc = .ok (.dup, 1)) (hc : v.category = 1) (hq : pc + 1 = q) (k : Go p e below Fn Q T (mkF m q Ls (v :: v :: S))) : Go p e below Fn Q T (mkF m pc Ls (v :: S)) := by
  subst hq; exact k.st fun _ z => XS.dup X.here hx rfl hd rfl hc z
theorem g_pop (X : Stand p l e R s m args below meth c T locs cells slots) (hx : p.tables.exec = Jvm.exec) (q : Nat) {v : Value} (hd : decode c.code pc = .ok (.pop, 1)) (hc : v.category = 1) (hq : pc + 1 = q) (k : Go p e below Fn Q T (mkF m q Ls (S))) : Go p e below Fn Q T (mkF m pc Ls (v :: S)) := by
  subst hq; exact k.st fun _ z => XS.pop X.here hx rfl hd rfl hc z
theorem g_dup_x1 (X : Stand p l e R s m args below meth c T locs cells slots) (hx : p.tables.exec = Jvm.exec) (q : Nat) {v w : Value} (hd : decode c.code pc = .ok (.dup_x1, 1)) (hc : v.category = 1) (hc' : w.category = 1) (hq : pc + 1 = q) (k : Go p e below Fn Q T (mkF m q Ls (v :: w :: v :: S))) : Go p e below Fn Q T (mkF m pc Ls (v :: w :: S)) := by
  subst hq; exact k.st fun _ z => XS.dupX1 X.here hx rfl hd rfl hc hc' z
theorem g_dup2L (X : Stand p l e R s m args below meth c T locs cells slots) (hx : p.tables.exec = Jvm.exec) (q : Nat) {x : Int64} (hd : decode c.code pc = .ok (.dup2, 1))  (hq : pc + 1 = q) (k : Go p e below Fn Q T (mkF m q Ls (.long x :: .long x :: S))) : Go p e below Fn Q T (mkF m pc Ls (.long x :: S)) := by
  subst hq; exact k.st fun _ z => Jvm.Free.XT.dup2L X.here hx rfl hd rfl z
theorem g_dup2 (X : Stand p l e R s m args below meth c T locs cells slots) (hx : p.tables.exec = Jvm.exec) (q : Nat) {v w : Value} (hd : decode c.code pc = .ok (.dup2, 1)) (hc : v.category = 1) (hc' : w.category = 1) (hq : pc + 1 = q) (k : Go p e below Fn Q T (mkF m q Ls (v :: w :: v :: w :: S))) : Go p e below Fn Q T (mkF m pc Ls (v :: w :: S)) := by
  subst hq; exact k.st fun _ z => Jvm.Free.XT.dup2 X.here hx rfl hd rfl hc hc' z
theorem g_iinc (X : Stand p l e R s m args below meth c T locs cells slots) (hx : p.tables.exec = Jvm.exec) (q : Nat) {k : Nat} {cst : Int} {x : Int32} (w : Int32) (l' : Array Slot) (hd : decode c.code pc = .ok (.iinc k cst, 3)) (hl : Ls[k]? = some (.val (.int x))) (hv : x + Int32.ofInt cst = w) (hl' : storeLocals Ls k (.int w) = some l') (hq : pc + 3 = q) (k : Go p e below Fn Q T (mkF m q l' (S))) : Go p e below Fn Q T (mkF m pc Ls (S)) := by
  subst hq; exact k.st fun _ z => XS.iinc X.here hx rfl hd hl (hv ▸ hl') z
theorem g_ldcI (X : Stand p l e R s m args below meth c T locs cells slots) (hx : p.tables.exec = Jvm.exec) (q : Nat) (hZ : Z.Warmed39 s.vm) {own : String} {index : Nat} {v : Int32} (hown : s.vm.findClass own = some m.cls) (w1 : (Jvm.Cond.constant own index v).before a0 Z = true) (hd : decode c.code pc = .ok (.ldc index, 2))  (hq : pc + 2 = q) (k : Go p e below Fn Q T (mkF m q Ls (.int v :: S))) : Go p e below Fn Q T (mkF m pc Ls (S)) := by
  subst hq; exact k.st fun _ z => X.ldcInt hx hown (mvT hZ w1) (g := mkF m pc Ls S) rfl hd _ z
theorem g_ldc2J (X : Stand p l e R s m args below meth c T locs cells slots) (hx : p.tables.exec = Jvm.exec) (q : Nat) (hZ : Z.Warmed39 s.vm) {own : String} {index : Nat} {v : Int64} (hown : s.vm.findClass own = some m.cls) (w1 : (Jvm.Cond.constantLong own index v).before a0 Z = true) (hd : decode c.code pc = .ok (.ldc2_w index, 3))  (hq : pc + 3 = q) (k : Go p e below Fn Q T (mkF m q Ls (.long v :: S))) : Go p e below Fn Q T (mkF m pc Ls (S)) := by
  subst hq; exact k.st fun _ z => X.ldc2Long hx hown (mvT hZ w1) (g := mkF m pc Ls S) rfl hd _ z
theorem g_goto (X : Stand p l e R s m args below meth c T locs cells slots) (hx : p.tables.exec = Jvm.exec) (q : Nat)  {o : Int} (hd : decode c.code pc = .ok (.goto o, 3))  (ho : 0 ≤ (pc : Int) + o) (hp : ((pc : Int) + o).toNat = q) (k : Go p e below Fn Q T (mkF m q Ls S)) : Go p e below Fn Q T (mkF m pc Ls (S)) := k.st fun _ z => XS.goto X.here hx rfl rfl hd ho hp z
theorem g_ifT (X : Stand p l e R s m args below meth c T locs cells slots) (hx : p.tables.exec = Jvm.exec) (q : Nat) {cd : ClassFile.Cond} {x : Int32} {o : Int} (hd : decode c.code pc = .ok (.ifCond cd o, 3)) (hc : ifCond.holds cd x = true) (ho : 0 ≤ (pc : Int) + o) (hp : ((pc : Int) + o).toNat = q) (k : Go p e below Fn Q T (mkF m q Ls S)) : Go p e below Fn Q T (mkF m pc Ls (.int x :: S)) := k.st fun _ z => XS.ifYes X.here hx rfl rfl hd rfl hc ho hp z
theorem g_ifF (X : Stand p l e R s m args below meth c T locs cells slots) (hx : p.tables.exec = Jvm.exec) (q : Nat) {cd : ClassFile.Cond} {x : Int32} {o : Int} (hd : decode c.code pc = .ok (.ifCond cd o, 3)) (hc : ifCond.holds cd x = false) (hq : pc + 3 = q) (k : Go p e below Fn Q T (mkF m q Ls S)) : Go p e below Fn Q T (mkF m pc Ls (.int x :: S)) := by
  subst hq; exact k.st fun _ z => XS.ifNo X.here hx rfl hd rfl hc z
theorem g_icT (X : Stand p l e R s m args below meth c T locs cells slots) (hx : p.tables.exec = Jvm.exec) (q : Nat) {cd : ClassFile.Cond} {x y : Int32} {o : Int} (hd : decode c.code pc = .ok (.if_icmp cd o, 3)) (hc : if_icmp.holds cd x y = true) (ho : 0 ≤ (pc : Int) + o) (hp : ((pc : Int) + o).toNat = q) (k : Go p e below Fn Q T (mkF m q Ls S)) : Go p e below Fn Q T (mkF m pc Ls (.int y :: .int x :: S)) := k.st fun _ z => XS.icmpYes X.here hx rfl rfl hd rfl hc ho hp z
theorem g_icF (X : Stand p l e R s m args below meth c T locs cells slots) (hx : p.tables.exec = Jvm.exec) (q : Nat) {cd : ClassFile.Cond} {x y : Int32} {o : Int} (hd : decode c.code pc = .ok (.if_icmp cd o, 3)) (hc : if_icmp.holds cd x y = false) (hq : pc + 3 = q) (k : Go p e below Fn Q T (mkF m q Ls S)) : Go p e below Fn Q T (mkF m pc Ls (.int y :: .int x :: S)) := by
  subst hq; exact k.st fun _ z => XS.icmpNo X.here hx rfl hd rfl hc z
theorem g_ifnullT (X : Stand p l e R s m args below meth c T locs cells slots) (hx : p.tables.exec = Jvm.exec) (q : Nat)  {o : Int} (hd : decode c.code pc = .ok (.ifnull o, 3))  (ho : 0 ≤ (pc : Int) + o) (hp : ((pc : Int) + o).toNat = q) (k : Go p e below Fn Q T (mkF m q Ls S)) : Go p e below Fn Q T (mkF m pc Ls (.null :: S)) := k.st fun _ z => XS.ifnullYes X.here hx rfl rfl hd rfl ho hp z
theorem g_ifnullF (X : Stand p l e R s m args below meth c T locs cells slots) (hx : p.tables.exec = Jvm.exec) (q : Nat) {b : Addr} {o : Int} (hd : decode c.code pc = .ok (.ifnull o, 3))  (hq : pc + 3 = q) (k : Go p e below Fn Q T (mkF m q Ls S)) : Go p e below Fn Q T (mkF m pc Ls (.ref b :: S)) := by
  subst hq; exact k.st fun _ z => XS.ifnullNo X.here hx rfl hd rfl z
theorem g_ifnonnullT (X : Stand p l e R s m args below meth c T locs cells slots) (hx : p.tables.exec = Jvm.exec) (q : Nat) {b : Addr} {o : Int} (hd : decode c.code pc = .ok (.ifnonnull o, 3))  (ho : 0 ≤ (pc : Int) + o) (hp : ((pc : Int) + o).toNat = q) (k : Go p e below Fn Q T (mkF m q Ls S)) : Go p e below Fn Q T (mkF m pc Ls (.ref b :: S)) := k.st fun _ z => XS.ifnonnullYes X.here hx rfl rfl hd rfl ho hp z
theorem g_ifnonnullF (X : Stand p l e R s m args below meth c T locs cells slots) (hx : p.tables.exec = Jvm.exec) (q : Nat)  {o : Int} (hd : decode c.code pc = .ok (.ifnonnull o, 3))  (hq : pc + 3 = q) (k : Go p e below Fn Q T (mkF m q Ls S)) : Go p e below Fn Q T (mkF m pc Ls (.null :: S)) := by
  subst hq; exact k.st fun _ z => XS.ifnonnullNo X.here hx rfl hd rfl z
theorem g_ac (X : Stand p l e R s m args below meth c T locs cells slots) (hx : p.tables.exec = Jvm.exec) (q : Nat) {cd : ACond} {v w : Value} {o : Int} (same : Bool) (hd : decode c.code pc = .ok (.if_acmp cd o, 3)) (h1 : v.isRef = true) (h2 : w.isRef = true) (hs : decide (v = w) = same) (ho : 0 ≤ (pc : Int) + o) (hp : q = if acV cd same = true then ((pc : Int) + o).toNat else pc + 3) (k : Go p e below Fn Q T (mkF m q Ls S)) : Go p e below Fn Q T (mkF m pc Ls (w :: v :: S)) := k.st fun _ z => Jvm.RoadKit.acmp X hx rfl h1 h2 rfl hd rfl hs ho hp z
theorem own_ltL {x y : Int64} (h : x < y) : ifCond.holds .lt (lcmpW x y) = true ∧ ifCond.holds .ge (lcmpW x y) = false ∧ ifCond.holds .gt (lcmpW y x) = true ∧ ifCond.holds .le (lcmpW y x) = false := by
  have h1 := (lw_lt x y).mpr h
  have h2 := (lw_gt y x).mpr h
  exact ⟨(if0 _ _).trans (tlt h1).1, (if0 _ _).trans (tlt h1).2.1, (if0 _ _).trans (tlt h2).2.2.1, (if0 _ _).trans (tlt h2).2.2.2⟩
theorem own_nltL {x y : Int64} (h : ¬ x < y) : ifCond.holds .lt (lcmpW x y) = false ∧ ifCond.holds .ge (lcmpW x y) = true ∧ ifCond.holds .gt (lcmpW y x) = false ∧ ifCond.holds .le (lcmpW y x) = true := by
  have h1 : ¬ lcmpW x y < 0 := fun q => h ((lw_lt x y).mp q)
  have h2 : ¬ 0 < lcmpW y x := fun q => h ((lw_gt y x).mp q)
  exact ⟨(if0 _ _).trans (flt h1).1, (if0 _ _).trans (flt h1).2.1, (if0 _ _).trans (flt h2).2.2.1, (if0 _ _).trans (flt h2).2.2.2⟩
theorem own_eqL {x y : Int64} (h : x = y) : ifCond.holds .eq (lcmpW x y) = true ∧ ifCond.holds .ne (lcmpW x y) = false := by
  have h1 := (lw_eq x y).mpr h
  exact ⟨(if0 _ _).trans (teq h1).1, (if0 _ _).trans (teq h1).2⟩
theorem own_neL {x y : Int64} (h : ¬ x = y) : ifCond.holds .eq (lcmpW x y) = false ∧ ifCond.holds .ne (lcmpW x y) = true := by
  have h1 : ¬ lcmpW x y = 0 := fun q => h ((lw_eq x y).mp q)
  exact ⟨(if0 _ _).trans (feq h1).1, (if0 _ _).trans (feq h1).2⟩
theorem g_ret (X : Stand p l e R s m args below meth c T locs cells slots) (hx : p.tables.exec = Jvm.exec) {t : FieldType} {i : Instr} {w : Value} (hret : meth.sig.returnType = some t) (hlk : meth.locks = false) (hn : narrow t w = w) (hi : (i = .ireturn ∧ (t = .int ∨ t = .boolean ∨ t = .byte ∨ t = .char ∨ t = .short) ∧ ∃ z, w = .int z) ∨ (i = .lreturn ∧ t = .long ∧ ∃ z, w = .long z) ∨ (i = .dreturn ∧ t = .double ∧ ∃ z, w = .double z) ∨ (i = .freturn ∧ t = .float ∧ ∃ z, w = .float z) ∨ (i = .areturn ∧ t.isReference = true ∧ w.isRef = true)) (hd : decode c.code pc = .ok (i, 1)) (hc : cells ≤ K) (hs : slots ≤ J) (hq : Q (some w) T.heap locs) : Go p e below (fun o t L => FrameEnd s o t L K J) Q T (mkF m pc Ls (w :: S)) := by
  obtain ⟨fs, hr, hrun, hended, hW, hsame⟩ := X.leave (v := some w) (fun h => by rw [hret] at h; cases h) hlk
  exact ⟨_, _, retOut X hx hret hn hi hd hr, hrun, hended, _, _, rfl, hq, ⟨_, rfl⟩, hW, hsame.mono hc hs⟩
theorem g_retI (X : Stand p l e R s m args below meth c T locs cells slots) (hx : p.tables.exec = Jvm.exec) {z : Int32} (hret : meth.sig.returnType = some .int) (hlk : meth.locks = false) (hd : decode c.code pc = .ok (.ireturn, 1)) (hc : cells ≤ K) (hs : slots ≤ J) (hq : Q (some (.int z)) T.heap locs) : Go p e below (fun o t L => FrameEnd s o t L K J) Q T (mkF m pc Ls (.int z :: S)) := g_ret X hx hret hlk rfl (Or.inl ⟨rfl, Or.inl rfl, _, rfl⟩) hd hc hs hq
theorem g_retZ (X : Stand p l e R s m args below meth c T locs cells slots) (hx : p.tables.exec = Jvm.exec) {z : Int32} (hret : meth.sig.returnType = some .boolean) (hlk : meth.locks = false) (hn : narrow .boolean (.int z) = .int z) (hd : decode c.code pc = .ok (.ireturn, 1)) (hc : cells ≤ K) (hs : slots ≤ J) (hq : Q (some (.int z)) T.heap locs) : Go p e below (fun o t L => FrameEnd s o t L K J) Q T (mkF m pc Ls (.int z :: S)) := g_ret X hx hret hlk hn (Or.inl ⟨rfl, Or.inr (Or.inl rfl), _, rfl⟩) hd hc hs hq
theorem g_retC (X : Stand p l e R s m args below meth c T locs cells slots) (hx : p.tables.exec = Jvm.exec) {z : Int32} (hret : meth.sig.returnType = some .char) (hlk : meth.locks = false) (hn : narrow .char (.int z) = .int z) (hd : decode c.code pc = .ok (.ireturn, 1)) (hc : cells ≤ K) (hs : slots ≤ J) (hq : Q (some (.int z)) T.heap locs) : Go p e below (fun o t L => FrameEnd s o t L K J) Q T (mkF m pc Ls (.int z :: S)) := g_ret X hx hret hlk hn (Or.inl ⟨rfl, Or.inr (Or.inr (Or.inr (Or.inl rfl))), _, rfl⟩) hd hc hs hq
theorem g_retB (X : Stand p l e R s m args below meth c T locs cells slots) (hx : p.tables.exec = Jvm.exec) {z : Int32} (hret : meth.sig.returnType = some .byte) (hlk : meth.locks = false) (hn : narrow .byte (.int z) = .int z) (hd : decode c.code pc = .ok (.ireturn, 1)) (hc : cells ≤ K) (hs : slots ≤ J) (hq : Q (some (.int z)) T.heap locs) : Go p e below (fun o t L => FrameEnd s o t L K J) Q T (mkF m pc Ls (.int z :: S)) := g_ret X hx hret hlk hn (Or.inl ⟨rfl, Or.inr (Or.inr (Or.inl rfl)), _, rfl⟩) hd hc hs hq
theorem g_retJ (X : Stand p l e R s m args below meth c T locs cells slots) (hx : p.tables.exec = Jvm.exec) {z : Int64} (hret : meth.sig.returnType = some .long) (hlk : meth.locks = false) (hd : decode c.code pc = .ok (.lreturn, 1)) (hc : cells ≤ K) (hs : slots ≤ J) (hq : Q (some (.long z)) T.heap locs) : Go p e below (fun o t L => FrameEnd s o t L K J) Q T (mkF m pc Ls (.long z :: S)) := g_ret X hx hret hlk rfl (Or.inr (Or.inl ⟨rfl, rfl, _, rfl⟩)) hd hc hs hq
theorem g_retA (X : Stand p l e R s m args below meth c T locs cells slots) (hx : p.tables.exec = Jvm.exec) {t : FieldType} {w : Value} (hret : meth.sig.returnType = some t) (hlk : meth.locks = false) (hr : t.isReference = true) (hw : w.isRef = true) (hn : narrow t w = w) (hd : decode c.code pc = .ok (.areturn, 1)) (hc : cells ≤ K) (hs : slots ≤ J) (hq : Q (some w) T.heap locs) : Go p e below (fun o t L => FrameEnd s o t L K J) Q T (mkF m pc Ls (w :: S)) := g_ret X hx hret hlk hn (Or.inr (Or.inr (Or.inr (Or.inr ⟨rfl, hr, hw⟩)))) hd hc hs hq
theorem g_retV (X : Stand p l e R s m args below meth c T locs cells slots) (hx : p.tables.exec = Jvm.exec) (hret : meth.sig.returnType = none) (hlk : meth.locks = false) (hd : decode c.code pc = .ok (.return_, 1)) (hc : cells ≤ K) (hs : slots ≤ J) (hq : Q none T.heap locs) : Go p e below (fun o t L => FrameEnd s o t L K J) Q T (mkF m pc Ls []) := by
  obtain ⟨fs, hr, hrun, hended, hW, hsame⟩ := X.leave (v := none) (fun _ => rfl) hlk
  exact ⟨_, _, X.returnOut hx hret hd hr, hrun, hended, _, _, rfl, hq, ⟨_, rfl⟩, hW, hsame.mono hc hs⟩
theorem g_getF (X : Stand p l e R s m args below meth c T locs cells slots) (hx : p.tables.exec = Jvm.exec) (q : Nat) (hZ : Z.Warmed39 s.vm) {own R0 O n d host : String} {index : Nat} (hown : s.vm.findClass own = some m.cls) (w1 : (Jvm.Cond.fieldLink own index R0 n d).before a0 Z = true ∨ (Jvm.Cond.fieldLinkNest own index R0 n d host).before a0 Z = true) (via : Via Z R0 O n d) (eT : T.heap = h) {a : Addr} {v : Value} (F : Fld Z h a O n d v) (hd : decode c.code pc = .ok (.getfield index, 3)) (hq : pc + 3 = q)
    (k : ∀ T', Stand p l e R s m args below meth c T' locs cells slots → T'.heap = h → Go p e below Fn Q T' (mkF m q Ls (v :: S))) : Go p e below Fn Q T (mkF m pc Ls (.ref a :: S)) := by
  obtain ⟨T', X', e', st⟩ := getF X hx hZ hown w1 via eT F (g := mkF m pc Ls (.ref a :: S)) rfl rfl hd
  subst hq; exact (k T' X' e').st st
theorem g_putF (X : Stand p l e R s m args below meth c T locs cells slots) (hx : p.tables.exec = Jvm.exec) (q : Nat) (hZ : Z.Warmed39 s.vm) {own R0 O n d host C : String} {index kk : Nat} {ty : FieldType} (hown : s.vm.findClass own = some m.cls) (w1 : (Jvm.Cond.fieldLink own index R0 n d).before a0 Z = true ∨ (Jvm.Cond.fieldLinkNest own index R0 n d host).before a0 Z = true) (via : Via Z R0 O n d) (eT : T.heap = h) {a : Addr} {v old : Value} (F : Fld Z h a O n d old) (E : Exa Z h a C)
    (L : (Jvm.Cond.lays C O n d).before a0 Z = true ∨ ((Jvm.Cond.laysFinal C O n d).before a0 Z = true ∧ own = O ∧ meth.name = "<init>")) (wi : (Jvm.Cond.instantiable C kk).before a0 Z = true) (hty : parseFieldDescriptor d = some ty) (hn : narrow ty v = v) (hf : fits ty v = true) (hd : decode c.code pc = .ok (.putfield index, 3)) (hq : pc + 3 = q)
    (k : ∀ T' h', Stand p l e R s m args below meth c T' (locs ++ [⟨a, Jvm.RoadKit.slotOf Z O n d⟩]) cells slots → T'.heap = h' → Wr h h' a (Jvm.RoadKit.slotOf Z O n d) v → Go p e below Fn Q T' (mkF m q Ls S)) : Go p e below Fn Q T (mkF m pc Ls (v :: .ref a :: S)) := by
  obtain ⟨T', h', X', e', W', st⟩ := putF X hx hZ hown w1 via eT F E L wi hty hn hf (g := mkF m pc Ls (v :: .ref a :: S)) rfl rfl hd
  subst hq; exact (k T' h' X' e' W').st st
theorem g_getS (X : Stand p l e R s m args below meth c T locs cells slots) (hx : p.tables.exec = Jvm.exec) (q : Nat) (hZ : Z.Warmed39 s.vm) {own R0 O n d host : String} {index : Nat} (hown : s.vm.findClass own = some m.cls) (w1 : (Jvm.Cond.fieldLink own index R0 n d).before a0 Z = true ∨ (Jvm.Cond.fieldLinkNest own index R0 n d host).before a0 Z = true) (via : Via Z R0 O n d) (eT : T.heap = h) {v : Value} (F : Sta Z h O n d v) (hd : decode c.code pc = .ok (.getstatic index, 3)) (hq : pc + 3 = q)
    (k : ∀ T', Stand p l e R s m args below meth c T' locs cells slots → T'.heap = h → Go p e below Fn Q T' (mkF m q Ls (v :: S))) : Go p e below Fn Q T (mkF m pc Ls S) := by
  obtain ⟨T', X', e', st⟩ := getS2 X hx hZ hown w1 via eT F (g := mkF m pc Ls S) rfl hd
  subst hq; exact (k T' X' e').st st
theorem g_new (X : Stand p l e R s m args below meth c T locs cells slots) (hx : p.tables.exec = Jvm.exec) (q : Nat) (hZ : Z.Warmed39 s.vm) {own C : String} {index n : Nat} (hown : s.vm.findClass own = some m.cls) (w1 : (Jvm.Cond.classLink own index C).before a0 Z = true) (wi : (Jvm.Cond.instantiable C n).before a0 Z = true) (wz : (Jvm.Cond.initialized C).before a0 Z = true) (eT : T.heap = h) (hd : decode c.code pc = .ok (.new index, 3)) (hc : cells + 1 ≤ R.cells) (hl : slots + n ≤ R.slots) (hq : pc + 3 = q)
    (k : ∀ T' h' b, b = h.size → Stand p l e R s m args below meth c T' locs (cells + 1) (slots + n) → T'.heap = h' → Ext h h' → Exa Z h' b C → (∀ {O nm d : String} {ty : FieldType}, Laid Z a0 C O nm d → parseFieldDescriptor d = some ty → Fld Z h' b O nm d (defaultValue ty)) → Go p e below Fn Q T' (mkF m q Ls (.ref b :: S))) : Go p e below Fn Q T (mkF m pc Ls S) := by
  obtain ⟨T', h', X', e', E', A', D', -, st⟩ := newO X hx hZ hown w1 wi wz eT (g := mkF m pc Ls S) rfl hd hc hl
  subst hq; exact (k T' h' _ rfl X' e' E' A' D').st st
theorem g_initO (X : Stand p l e R s m args below meth c T locs cells slots) (hx : p.tables.exec = Jvm.exec) (q : Nat) (hZ : Z.Warmed39 s.vm) {own : String} {index : Nat} (hown : s.vm.findClass own = some m.cls) (w1 : (Jvm.Cond.methodLink own index Lib.objectInit).before a0 Z = true) (w2 : (Jvm.Cond.instanceMethod Lib.objectInit).before a0 Z = true) (w3 : (Jvm.Cond.code Lib.objectInit ⟨#[0xb1]⟩ 1 none).before a0 Z = true) (eT : T.heap = h) (hml : Ls.size = c.maxLocals) {a : Addr} (hd : decode c.code pc = .ok (.invokespecial index, 3)) (hf : 1 ≤ R.frames) (W : Nat) (hW : (S.map fun v => v.category).sum ≤ W) (hl : W + 12 ≤ R.locals) (hq : pc + 3 = q)
    (k : ∀ T', Stand p l e R s m args below meth c T' locs cells slots → T'.heap = h → Go p e below Fn Q T' (mkF m q Ls S)) : Go p e below Fn Q T (mkF m pc Ls (.ref a :: S)) := by
  obtain ⟨T', X', e', st⟩ := initO X hx hZ hown w1 w2 w3 eT (g := mkF m pc Ls (.ref a :: S)) rfl hml rfl hd hf (W := W) (by show 2 * 0 + _ ≤ _; omega) hl
  subst hq; exact (k T' X' e').st st
theorem g_newP (X : Stand p l e R s m args below meth c T locs cells slots) (hx : p.tables.exec = Jvm.exec) (q : Nat) (hZ : Z.Warmed39 s.vm) {aty : ArrayType} (w1 : (Jvm.Cond.arrayClass (newarray.typeOf aty)).before a0 Z = true) (eT : T.heap = h) {n : Int32} (hd : decode c.code pc = .ok (.newarray aty, 2)) (hn : ¬ n < 0) (cap : Nat) (hcap : n.toNatClampNeg ≤ cap) (hb : cap * 8 ≤ 536870912) (hc : cells + 1 ≤ R.cells) (hl : slots + cap ≤ R.slots) (hq : pc + 2 = q)
    (k : ∀ T' h' b kA, b = h.size → Stand p l e R s m args below meth c T' locs (cells + 1) (slots + cap) → T'.heap = h' → Ext h h' → Arv Z h' b kA (newarray.typeOf aty) n [] (defaultValue (newarray.typeOf aty)) → Go p e below Fn Q T' (mkF m q Ls (.ref b :: S))) : Go p e below Fn Q T (mkF m pc Ls (.int n :: S)) := by
  obtain ⟨T', h', cA, X', e', E', A', st⟩ := newP X hx hZ w1 eT (g := mkF m pc Ls (.int n :: S)) rfl hd rfl hn hcap hb hc hl
  subst hq; exact (k T' h' _ cA rfl X' e' E' (Arv.new A' hn)).st st
theorem g_newR (X : Stand p l e R s m args below meth c T locs cells slots) (hx : p.tables.exec = Jvm.exec) (q : Nat) (hZ : Z.Warmed39 s.vm) {own C : String} {index : Nat} (hown : s.vm.findClass own = some m.cls) (w1 : (Jvm.Cond.classLink own index C).before a0 Z = true) (w2 : (Jvm.Cond.arrayOver (.object C)).before a0 Z = true) (eT : T.heap = h) {n : Int32} (hd : decode c.code pc = .ok (.anewarray index, 3)) (hn : ¬ n < 0) (cap : Nat) (hcap : n.toNatClampNeg ≤ cap) (hb : cap * 8 ≤ 536870912) (hc : cells + 1 ≤ R.cells) (hl : slots + cap ≤ R.slots) (hq : pc + 3 = q)
    (k : ∀ T' h' b kA, b = h.size → Stand p l e R s m args below meth c T' locs (cells + 1) (slots + cap) → T'.heap = h' → Ext h h' → Arv Z h' b kA (.object C) n [] .null → Ovr Z kA C → Go p e below Fn Q T' (mkF m q Ls (.ref b :: S))) : Go p e below Fn Q T (mkF m pc Ls (.int n :: S)) := by
  obtain ⟨T', h', cA, X', e', E', A', O', st⟩ := newR X hx hZ hown w1 w2 eT (g := mkF m pc Ls (.int n :: S)) rfl hd rfl hn hcap hb hc hl
  subst hq; exact (k T' h' _ cA rfl X' e' E' (Arv.new A' hn) O').st st
theorem g_iaload (X : Stand p l e R s m args below meth c T locs cells slots) (hx : p.tables.exec = Jvm.exec) (q : Nat) (hZ : Z.Warmed39 s.vm) (eT : T.heap = h) {a : Addr} {kA : ClassId} {n j : Int32} {vs : List Value} {dv v : Value} (V : Arv Z h a kA .int n vs dv) (hj : ¬ j < 0 ∧ j < n) (hv : vs.getD j.toNatClampNeg dv = v) (hd : decode c.code pc = .ok (.iaload, 1)) (hq : pc + 1 = q) (k : Go p e below Fn Q T (mkF m q Ls (v :: S))) : Go p e below Fn Q T (mkF m pc Ls (.int j :: .ref a :: S)) := by
  obtain ⟨cl, A, -, S', -, H', -⟩ := V
  subst hq
  exact k.st fun _ z => X.iaload hx (by rw [eT]; exact A.1) (State.isArrayOf_alike hZ.alike A.2.1) A.2.2 (inb_of S' hj) (H'.at (inb_of S' hj) hv) (g := mkF m pc Ls (.int j :: .ref a :: S)) rfl rfl hd _ z
theorem g_caload (X : Stand p l e R s m args below meth c T locs cells slots) (hx : p.tables.exec = Jvm.exec) (q : Nat) (hZ : Z.Warmed39 s.vm) (eT : T.heap = h) {a : Addr} {kA : ClassId} {n j : Int32} {vs : List Value} {dv v : Value} (V : Arv Z h a kA .char n vs dv) (hj : ¬ j < 0 ∧ j < n) (hv : vs.getD j.toNatClampNeg dv = v) (hd : decode c.code pc = .ok (.caload, 1)) (hq : pc + 1 = q) (k : Go p e below Fn Q T (mkF m q Ls (v :: S))) : Go p e below Fn Q T (mkF m pc Ls (.int j :: .ref a :: S)) := by
  obtain ⟨cl, A, -, S', -, H', -⟩ := V
  subst hq
  exact k.st fun _ z => X.caload hx (by rw [eT]; exact A.1) (State.isArrayOf_alike hZ.alike A.2.1) A.2.2 (inb_of S' hj) (H'.at (inb_of S' hj) hv) (g := mkF m pc Ls (.int j :: .ref a :: S)) rfl rfl hd _ z
theorem g_laload (X : Stand p l e R s m args below meth c T locs cells slots) (hx : p.tables.exec = Jvm.exec) (q : Nat) (hZ : Z.Warmed39 s.vm) (eT : T.heap = h) {a : Addr} {kA : ClassId} {n j : Int32} {vs : List Value} {dv v : Value} (V : Arv Z h a kA .long n vs dv) (hj : ¬ j < 0 ∧ j < n) (hv : vs.getD j.toNatClampNeg dv = v) (hd : decode c.code pc = .ok (.laload, 1)) (hq : pc + 1 = q) (k : Go p e below Fn Q T (mkF m q Ls (v :: S))) : Go p e below Fn Q T (mkF m pc Ls (.int j :: .ref a :: S)) := by
  obtain ⟨cl, A, -, S', -, H', -⟩ := V
  subst hq
  exact k.st fun _ z => X.laload hx (by rw [eT]; exact A.1) (State.isArrayOf_alike hZ.alike A.2.1) A.2.2 (inb_of S' hj) (H'.at (inb_of S' hj) hv) (g := mkF m pc Ls (.int j :: .ref a :: S)) rfl rfl hd _ z
theorem g_baload (X : Stand p l e R s m args below meth c T locs cells slots) (hx : p.tables.exec = Jvm.exec) (q : Nat) (hZ : Z.Warmed39 s.vm) (eT : T.heap = h) {a : Addr} {kA : ClassId} {n j : Int32} {vs : List Value} {dv v : Value} (V : Arv Z h a kA .byte n vs dv) (hj : ¬ j < 0 ∧ j < n) (hv : vs.getD j.toNatClampNeg dv = v) (hd : decode c.code pc = .ok (.baload, 1)) (hq : pc + 1 = q) (k : Go p e below Fn Q T (mkF m q Ls (v :: S))) : Go p e below Fn Q T (mkF m pc Ls (.int j :: .ref a :: S)) := by
  obtain ⟨cl, A, -, S', -, H', -⟩ := V
  subst hq
  exact k.st fun _ z => X.baloadBytes hx (by rw [eT]; exact A.1) (State.isArrayOf_alike hZ.alike A.2.1) A.2.2 (inb_of S' hj) (H'.at (inb_of S' hj) hv) (g := mkF m pc Ls (.int j :: .ref a :: S)) rfl rfl hd _ z
theorem g_aaload (X : Stand p l e R s m args below meth c T locs cells slots) (hx : p.tables.exec = Jvm.exec) (q : Nat) (hZ : Z.Warmed39 s.vm) (eT : T.heap = h) {a : Addr} {kA : ClassId} {C : String} {n j : Int32} {vs : List Value} {dv v : Value} (V : Arv Z h a kA (.object C) n vs dv) (hj : ¬ j < 0 ∧ j < n) (hv : vs.getD j.toNatClampNeg dv = v) (hd : decode c.code pc = .ok (.aaload, 1)) (hq : pc + 1 = q) (k : Go p e below Fn Q T (mkF m q Ls (v :: S))) : Go p e below Fn Q T (mkF m pc Ls (.int j :: .ref a :: S)) := by
  obtain ⟨cl, A, -, S', -, H', -⟩ := V
  subst hq
  exact k.st fun _ z => X.aaload hx (by rw [eT]; exact A.1) (State.isArrayOf_alike hZ.alike A.2.1) rfl A.2.2 (inb_of S' hj) (H'.at (inb_of S' hj) hv) (g := mkF m pc Ls (.int j :: .ref a :: S)) rfl rfl hd _ z
theorem g_arraylength (X : Stand p l e R s m args below meth c T locs cells slots) (hx : p.tables.exec = Jvm.exec) (q : Nat) (hZ : Z.Warmed39 s.vm) (eT : T.heap = h) {a : Addr} {kA : ClassId} {ty : FieldType} {n : Int32} {vs : List Value} {dv : Value} (V : Arv Z h a kA ty n vs dv) (hd : decode c.code pc = .ok (.arraylength, 1)) (hq : pc + 1 = q) (k : Go p e below Fn Q T (mkF m q Ls (.int n :: S))) : Go p e below Fn Q T (mkF m pc Ls (.ref a :: S)) := by
  obtain ⟨cl, A, -, S', N', -, -⟩ := V
  subst hq
  exact k.st fun _ z => X.arraylength hx (by rw [eT]; exact A.1) (State.isArrayOf_alike hZ.alike A.2.1) (g := mkF m pc Ls (.ref a :: S)) rfl rfl hd _ (by rw [len_of S' N']; exact z)
theorem g_aastore (X : Stand p l e R s m args below meth c T locs cells slots) (hx : p.tables.exec = Jvm.exec) (q : Nat) (hZ : Z.Warmed39 s.vm) (eT : T.heap = h) {a b : Addr} {kA : ClassId} {C : String} {n j : Int32} {vs : List Value} {dv : Value} (V : Arv Z h a kA (.object C) n vs dv) (O : Ovr Z kA C) (I : Ins Z h b C true) (i : Nat) (hi : j.toNatClampNeg = i) (hj : ¬ j < 0 ∧ j < n) (hl : i < vs.length) (hd : decode c.code pc = .ok (.aastore, 1)) (hq : pc + 1 = q)
    (k : ∀ T' h', Stand p l e R s m args below meth c T' (locs ++ [⟨a, j.toNatClampNeg⟩]) cells slots → T'.heap = h' → Wr h h' a j.toNatClampNeg (.ref b) → Arv Z h' a kA (.object C) n (vs.set i (.ref b)) dv → Go p e below Fn Q T' (mkF m q Ls S)) : Go p e below Fn Q T (mkF m pc Ls (.ref b :: .int j :: .ref a :: S)) := by
  obtain ⟨cl, A, q1, S', N', H', G'⟩ := V
  subst hq
  obtain ⟨T', h', X', e', W', st⟩ := stR X hx hZ eT A (j := j) (inb_of S' hj) rfl (Sto.ofV A q1 O I) (g := mkF m pc Ls (.ref b :: .int j :: .ref a :: S)) rfl rfl hd
  exact (k T' h' X' e' W' (Arv.set A q1 S' N' H' G' rfl W' i hi hl)).st st
theorem g_iastore (X : Stand p l e R s m args below meth c T locs cells slots) (hx : p.tables.exec = Jvm.exec) (q : Nat) (hZ : Z.Warmed39 s.vm) (eT : T.heap = h) {a : Addr} {kA : ClassId} {n j x : Int32} {vs : List Value} {dv : Value} (V : Arv Z h a kA .int n vs dv) (i : Nat) (hi : j.toNatClampNeg = i) (hj : ¬ j < 0 ∧ j < n) (hl : i < vs.length) (hd : decode c.code pc = .ok (.iastore, 1)) (hq : pc + 1 = q)
    (k : ∀ T' h', Stand p l e R s m args below meth c T' (locs ++ [⟨a, j.toNatClampNeg⟩]) cells slots → T'.heap = h' → Wr h h' a j.toNatClampNeg (.int x) → Arv Z h' a kA .int n (vs.set i (.int x)) dv → Go p e below Fn Q T' (mkF m q Ls S)) : Go p e below Fn Q T (mkF m pc Ls (.int x :: .int j :: .ref a :: S)) := by
  obtain ⟨cl, A, q1, S', N', H', G'⟩ := V
  subst hq
  obtain ⟨T', h', X', e', W', st⟩ := stI X hx hZ eT A (j := j) (inb_of S' hj) (g := mkF m pc Ls (.int x :: .int j :: .ref a :: S)) rfl rfl hd
  exact (k T' h' X' e' W' (Arv.set A q1 S' N' H' G' rfl W' i hi hl)).st st
theorem g_castore (X : Stand p l e R s m args below meth c T locs cells slots) (hx : p.tables.exec = Jvm.exec) (q : Nat) (hZ : Z.Warmed39 s.vm) (eT : T.heap = h) {a : Addr} {kA : ClassId} {n j x : Int32} {vs : List Value} {dv : Value} (V : Arv Z h a kA .char n vs dv) (i : Nat) (hi : j.toNatClampNeg = i) (hj : ¬ j < 0 ∧ j < n) (hl : i < vs.length) (hd : decode c.code pc = .ok (.castore, 1)) (hq : pc + 1 = q)
    (k : ∀ T' h', Stand p l e R s m args below meth c T' (locs ++ [⟨a, j.toNatClampNeg⟩]) cells slots → T'.heap = h' → Wr h h' a j.toNatClampNeg (.int (nar .char x)) → Arv Z h' a kA .char n (vs.set i (.int (nar .char x))) dv → Go p e below Fn Q T' (mkF m q Ls S)) : Go p e below Fn Q T (mkF m pc Ls (.int x :: .int j :: .ref a :: S)) := by
  obtain ⟨cl, A, q1, S', N', H', G'⟩ := V
  subst hq
  obtain ⟨T', h', X', e', W', st⟩ := stC X hx hZ eT A (j := j) (inb_of S' hj) (g := mkF m pc Ls (.int x :: .int j :: .ref a :: S)) rfl rfl hd
  exact (k T' h' X' e' W' (Arv.set A q1 S' N' H' G' (fits_nar_char _) W' i hi hl)).st st
theorem g_bastore (X : Stand p l e R s m args below meth c T locs cells slots) (hx : p.tables.exec = Jvm.exec) (q : Nat) (hZ : Z.Warmed39 s.vm) (eT : T.heap = h) {a : Addr} {kA : ClassId} {n j x : Int32} {vs : List Value} {dv : Value} (V : Arv Z h a kA .byte n vs dv) (i : Nat) (hi : j.toNatClampNeg = i) (hj : ¬ j < 0 ∧ j < n) (hl : i < vs.length) (hd : decode c.code pc = .ok (.bastore, 1)) (hq : pc + 1 = q)
    (k : ∀ T' h', Stand p l e R s m args below meth c T' (locs ++ [⟨a, j.toNatClampNeg⟩]) cells slots → T'.heap = h' → Wr h h' a j.toNatClampNeg (.int (nar .byte x)) → Arv Z h' a kA .byte n (vs.set i (.int (nar .byte x))) dv → Go p e below Fn Q T' (mkF m q Ls S)) : Go p e below Fn Q T (mkF m pc Ls (.int x :: .int j :: .ref a :: S)) := by
  obtain ⟨cl, A, q1, S', N', H', G'⟩ := V
  subst hq
  obtain ⟨T', h', X', e', W', st⟩ := stB X hx hZ eT A (j := j) (inb_of S' hj) (g := mkF m pc Ls (.int x :: .int j :: .ref a :: S)) rfl rfl hd
  exact (k T' h' X' e' W' (Arv.set A q1 S' N' H' G' (fits_nar_byte _) W' i hi hl)).st st
theorem g_callS (X : Stand p l e R s m args below meth c T locs cells slots) (hx : p.tables.exec = Jvm.exec) (q : Nat) (hZ : Z.Warmed39 s.vm) {own : String} {index : Nat} {y : MethodName} {bytes : ByteArray} {maxL : Nat} {ret : Option FieldType} {rm : Room} {Qc : Option Value → Heap → List Loc → Prop} (hown : s.vm.findClass own = some m.cls) (w1 : (Jvm.Cond.methodLink own index y).before a0 Z = true) (w2 : (Jvm.Cond.static y).before a0 Z = true) (w3 : (Jvm.Cond.initialized y.cls).before a0 Z = true) (w4 : (Jvm.Cond.code y bytes maxL ret).before a0 Z = true) (hy : y.cls ≠ "java/lang/invoke/MethodHandle" ∧ y.cls ≠ "java/lang/invoke/VarHandle") (argsL rest : List Value) (hM : OwnMet l Z y bytes maxL ret [] rm argsL h Qc)
    (eT : T.heap = h) (W : Nat) (hf : rm.frames + 1 ≤ R.frames) (hl : W + (maxL + 11) + rm.locals ≤ R.locals) (hc : cells + rm.cells ≤ R.cells) (hs : slots + rm.slots ≤ R.slots) (hml : Ls.size = c.maxLocals) (hlen : ∀ sig, parseMethodDescriptor y.desc = some sig → argsL.length = sig.parameters.length) (hd : decode c.code pc = .ok (.invokestatic index, 3)) (hst : S = argsL.reverse ++ rest) (hW : (rest.map fun v => v.category).sum ≤ W) (hq : pc + 3 = q) (k : ∀ v T' L', Stand p l e R s m args below meth c T' (locs ++ L') (cells + rm.cells) (slots + rm.slots) → Qc v T'.heap L' → Go p e below Fn Q T' (mkF m q Ls (v.toList ++ rest))) : Go p e below Fn Q T (mkF m pc Ls S) := by
  subst hst
  obtain ⟨v, _, ⟨T', L', k', n'⟩, -, X', ⟨Lc, hQ, l', y', z'⟩, st⟩ := Jvm.LawKit.callS X hx (y := y) hown (mvT hZ w1) (mvT hZ w2) (mvT hZ w3) (mvT hZ w4) hy (backOf (W := W) hM hZ w4 w3 hf hl) (g := mkF m pc Ls (argsL.reverse ++ rest)) rfl hml (argsL := argsL) (rest := rest) hlen rfl (by show 2 * 0 + _ ≤ _; omega) hd (fun _ _ => ⟨rfl, eT, hc, hs⟩)
  dsimp only [Pt.U, Pt.locs, Pt.cells, Pt.slots] at X' l' y' z' st hQ
  subst l' y' z' hq
  exact (k v T' Lc X' hQ).st st
theorem g_callI (X : Stand p l e R s m args below meth c T locs cells slots) (hx : p.tables.exec = Jvm.exec) (q : Nat) (hZ : Z.Warmed39 s.vm) {own : String} {index : Nat} {y : MethodName} {bytes : ByteArray} {maxL : Nat} {rm : Room} {Qc : Option Value → Heap → List Loc → Prop} (hy1 : y.name = "<init>") (hown : s.vm.findClass own = some m.cls) (w1 : (Jvm.Cond.methodLink own index y).before a0 Z = true) (w2 : (Jvm.Cond.instanceMethod y).before a0 Z = true) (w3 : (Jvm.Cond.initialized y.cls).before a0 Z = true) (w4 : (Jvm.Cond.code y bytes maxL none).before a0 Z = true) (hy : y.cls ≠ "java/lang/invoke/MethodHandle" ∧ y.cls ≠ "java/lang/invoke/VarHandle") (a : Addr) (argsL rest : List Value) (hM : OwnMet l Z y bytes maxL none [] rm (.ref a :: argsL) h Qc)
    (eT : T.heap = h) (W : Nat) (hf : rm.frames + 1 ≤ R.frames) (hl : W + (maxL + 11) + rm.locals ≤ R.locals) (hc : cells + rm.cells ≤ R.cells) (hs : slots + rm.slots ≤ R.slots) (hml : Ls.size = c.maxLocals) (hlen : ∀ sig, parseMethodDescriptor y.desc = some sig → argsL.length = sig.parameters.length) (hd : decode c.code pc = .ok (.invokespecial index, 3)) (hst : S = argsL.reverse ++ .ref a :: rest) (hW : (rest.map fun v => v.category).sum ≤ W) (hq : pc + 3 = q) (k : ∀ v T' L', Stand p l e R s m args below meth c T' (locs ++ L') (cells + rm.cells) (slots + rm.slots) → Qc v T'.heap L' → Go p e below Fn Q T' (mkF m q Ls (v.toList ++ rest))) : Go p e below Fn Q T (mkF m pc Ls S) := by
  subst hst
  obtain ⟨v, _, ⟨T', L', k', n'⟩, -, X', ⟨Lc, hQ, l', y', z'⟩, st⟩ := X.specialBack hx (y := y) hy1 hown (mvT hZ w1) (mvT hZ w2) (mvT hZ w4) hy (backOf (W := W) hM hZ w4 w3 hf hl) (g := mkF m pc Ls (argsL.reverse ++ .ref a :: rest)) rfl hml (Steps.refl _) (a := a) (argsL := argsL) (rest := rest) hlen rfl (by show 2 * 0 + _ ≤ _; omega) hd (fun _ _ => ⟨rfl, eT, hc, hs⟩)
  dsimp only [Pt.U, Pt.locs, Pt.cells, Pt.slots] at X' l' y' z' st hQ
  subst l' y' z' hq
  exact (k v T' Lc X' hQ).st fun _ z => st.trans z
theorem g_callV (X : Stand p l e R s m args below meth c T locs cells slots) (hx : p.tables.exec = Jvm.exec) (q : Nat) (hZ : Z.Warmed39 s.vm) {own C : String} {index : Nat} {y : MethodName} {bytes : ByteArray} {maxL : Nat} {ret : Option FieldType} {rm : Room} {Qc : Option Value → Heap → List Loc → Prop} (hown : s.vm.findClass own = some m.cls) (w1 : (Jvm.Cond.methodLink own index y).before a0 Z = true) (w2 : (Jvm.Cond.declares y).before a0 Z = true) (w5 : (Jvm.Cond.selects C y y).before a0 Z = true) (w6 : (Jvm.Cond.instanceMethod y).before a0 Z = true) (w3 : (Jvm.Cond.initialized y.cls).before a0 Z = true) (w4 : (Jvm.Cond.code y bytes maxL ret).before a0 Z = true) (hy : y.cls ≠ "java/lang/invoke/MethodHandle" ∧ y.cls ≠ "java/lang/invoke/VarHandle") (a : Addr) (E : Exa Z h a C) (argsL rest : List Value) (hM : OwnMet l Z y bytes maxL ret [] rm (.ref a :: argsL) h Qc)
    (eT : T.heap = h) (W : Nat) (hf : rm.frames + 1 ≤ R.frames) (hl : W + (maxL + 11) + rm.locals ≤ R.locals) (hc : cells + rm.cells ≤ R.cells) (hs : slots + rm.slots ≤ R.slots) (hml : Ls.size = c.maxLocals) (hlen : ∀ sig, parseMethodDescriptor y.desc = some sig → argsL.length = sig.parameters.length) (hd : decode c.code pc = .ok (.invokevirtual index, 3)) (hst : S = argsL.reverse ++ .ref a :: rest) (hW : (rest.map fun v => v.category).sum ≤ W) (hq : pc + 3 = q) (k : ∀ v T' L', Stand p l e R s m args below meth c T' (locs ++ L') (cells + rm.cells) (slots + rm.slots) → Qc v T'.heap L' → Go p e below Fn Q T' (mkF m q Ls (v.toList ++ rest))) : Go p e below Fn Q T (mkF m pc Ls S) := by
  subst hst
  obtain ⟨cq, kq, qa, qb, qc⟩ := isOf (T := T) hZ eT E
  obtain ⟨v, _, ⟨T', L', k', n'⟩, -, X', ⟨Lc, hQ, l', y', z'⟩, st⟩ := X.virtualBack hx (y := y) (z := y) hown (mvT hZ w1) (mvT hZ w2) (notFace_of_selects (args := #[]) (mvT hZ w5)) (mvT hZ w5) (mvT hZ w6) hy (backOf (W := W) hM hZ w4 w3 hf hl) qa qc (g := mkF m pc Ls (argsL.reverse ++ .ref a :: rest)) rfl hml (Steps.refl _) (argsL := argsL) (rest := rest) hlen rfl (by show 2 * 0 + _ ≤ _; omega) hd (fun _ _ => ⟨rfl, eT, hc, hs⟩)
  dsimp only [Pt.U, Pt.locs, Pt.cells, Pt.slots] at X' l' y' z' st hQ
  subst l' y' z' hq
  exact (k v T' Lc X' hQ).st fun _ z => st.trans z
theorem g_newPE (X : Stand p l e R s m args below meth c T locs cells slots) (hx : p.tables.exec = Jvm.exec) (q : Nat) (hZ : Z.Warmed39 s.vm) {aty : ArrayType} (w1 : (Jvm.Cond.arrayClass (newarray.typeOf aty)).before a0 Z = true) (eT : T.heap = h) {n : Int32} (hd : decode c.code pc = .ok (.newarray aty, 2)) (hn : ¬ n < 0) (cap : Nat) (hcap : n.toNatClampNeg ≤ cap) (hb : cap * 8 ≤ 536870912) (hc : cells + 1 ≤ R.cells) (hl : slots + cap ≤ R.slots) (ad : String) (had : "[" ++ (newarray.typeOf aty).toString = ad) (hq : pc + 2 = q)
    (k : ∀ T' h' b kA, b = h.size → Stand p l e R s m args below meth c T' locs (cells + 1) (slots + cap) → T'.heap = h' → Ext h h' → Arv Z h' b kA (newarray.typeOf aty) n [] (defaultValue (newarray.typeOf aty)) → Exa Z h' b ad → Go p e below Fn Q T' (mkF m q Ls (.ref b :: S))) : Go p e below Fn Q T (mkF m pc Ls (.int n :: S)) := by
  obtain ⟨T', h', cA, X', e', E', A', I', st⟩ := newPE X hx hZ w1 eT (g := mkF m pc Ls (.int n :: S)) rfl hd rfl hn hcap hb hc hl had
  subst hq; exact (k T' h' _ cA rfl X' e' E' (Arv.new A' hn) I').st st
theorem g_clone (X : Stand p l e R s m args below meth c T locs cells slots) (hx : p.tables.exec = Jvm.exec) (q : Nat) (hZ : Z.Warmed39 s.vm) {own ad : String} {index : Nat} (hown : s.vm.findClass own = some m.cls) (w1 : (Jvm.Cond.methodLink own index ⟨ad, "clone", "()Ljava/lang/Object;"⟩).before a0 Z = true) (w2 : (Jvm.Cond.sameMethod ad "java/lang/Object" "clone" "()Ljava/lang/Object;").before a0 Z = true) (w3 : (Jvm.Cond.native ⟨"java/lang/Object", "clone", "()Ljava/lang/Object;"⟩).before a0 Z = true) (w4 : (Jvm.Cond.instanceMethod ⟨"java/lang/Object", "clone", "()Ljava/lang/Object;"⟩).before a0 Z = true) (w5 : (Jvm.Cond.selects ad ⟨ad, "clone", "()Ljava/lang/Object;"⟩ ⟨"java/lang/Object", "clone", "()Ljava/lang/Object;"⟩).before a0 Z = true) (w6 : (Jvm.Cond.castable ad "java/lang/Cloneable").before a0 Z = true)
    (eT : T.heap = h) {a : Addr} {kA : ClassId} {ty : FieldType} {n : Int32} {vs : List Value} {dv : Value} (V : Arv Z h a kA ty n vs dv) (E : Exa Z h a ad) (hml : Ls.size = c.maxLocals) (hd : decode c.code pc = .ok (.invokevirtual index, 3)) (hf : 1 ≤ R.frames) (W cap : Nat) (hW : (S.map fun v => v.category).sum ≤ W) (hl : W + 14 ≤ R.locals) (hcap : n.toNatClampNeg ≤ cap) (hc : cells + 1 ≤ R.cells) (hsl : slots + cap ≤ R.slots) (hq : pc + 3 = q)
    (k : ∀ T' h' b, b = h.size → Stand p l e R s m args below meth c T' locs (cells + 1) (slots + cap) → T'.heap = h' → Ext h h' → Arv Z h' b kA ty n vs dv → Exa Z h' b ad → Go p e below Fn Q T' (mkF m q Ls (.ref b :: S))) : Go p e below Fn Q T (mkF m pc Ls (.ref a :: S)) := by
  obtain ⟨T', h', X', e', E', V', I', st⟩ := cloneH X hx hZ hown w1 w2 w3 w4 w5 w6 eT V.arh E (g := mkF m pc Ls (.ref a :: S)) rfl hml rfl hd hf (W := W) (by show 2 * 0 + _ ≤ _; omega) hl hcap hc hsl
  subst hq; exact (k T' h' _ rfl X' e' E' V' I').st st
theorem g_cast (X : Stand p l e R s m args below meth c T locs cells slots) (hx : p.tables.exec = Jvm.exec) (q : Nat) (hZ : Z.Warmed39 s.vm) {own C : String} {index : Nat} (hown : s.vm.findClass own = some m.cls) (w1 : (Jvm.Cond.classLink own index C).before a0 Z = true) (eT : T.heap = h) {a : Addr} (I : Ins Z h a C true) (hd : decode c.code pc = .ok (.checkcast index, 3)) (hq : pc + 3 = q)
    (k : ∀ T', Stand p l e R s m args below meth c T' locs cells slots → T'.heap = h → Go p e below Fn Q T' (mkF m q Ls (.ref a :: S))) : Go p e below Fn Q T (mkF m pc Ls (.ref a :: S)) := by
  obtain ⟨T', X', e', st⟩ := castY X hx hZ hown w1 eT I (g := mkF m pc Ls (.ref a :: S)) rfl rfl hd
  subst hq; exact (k T' X' e').st st
theorem g_callU (X : Stand p l e R s m args below meth c T locs cells slots) (hx : p.tables.exec = Jvm.exec) (q : Nat) (hZ : Z.Warmed39 s.vm) {own C owner : String} {index : Nat} {x y : MethodName} {bytes : ByteArray} {maxL : Nat} {ret : Option FieldType} {rm : Room} {Qc : Option Value → Heap → List Loc → Prop} (hown : s.vm.findClass own = some m.cls) (w1 : (Jvm.Cond.methodLink own index x).before a0 Z = true) (w2 : (Jvm.Cond.sameMethod x.cls owner x.name x.desc).before a0 Z = true) (w7 : (Jvm.Cond.declares ⟨owner, x.name, x.desc⟩).before a0 Z = true) (hy : owner ≠ "java/lang/invoke/MethodHandle" ∧ owner ≠ "java/lang/invoke/VarHandle") (w5 : (Jvm.Cond.selects C x y).before a0 Z = true) (w6 : (Jvm.Cond.instanceMethod y).before a0 Z = true) (w3 : (Jvm.Cond.initialized y.cls).before a0 Z = true) (w4 : (Jvm.Cond.code y bytes maxL ret).before a0 Z = true) (a : Addr) (E : Exa Z h a C) (argsL rest : List Value) (hM : OwnMet l Z y bytes maxL ret [] rm (.ref a :: argsL) h Qc)
    (eT : T.heap = h) (W : Nat) (hf : rm.frames + 1 ≤ R.frames) (hl : W + (maxL + 11) + rm.locals ≤ R.locals) (hc : cells + rm.cells ≤ R.cells) (hs : slots + rm.slots ≤ R.slots) (hml : Ls.size = c.maxLocals) (hlen : ∀ sig, parseMethodDescriptor x.desc = some sig → argsL.length = sig.parameters.length) (hd : decode c.code pc = .ok (.invokevirtual index, 3)) (hst : S = argsL.reverse ++ .ref a :: rest) (hW : (rest.map fun v => v.category).sum ≤ W) (hq : pc + 3 = q) (k : ∀ v T' L', Stand p l e R s m args below meth c T' (locs ++ L') (cells + rm.cells) (slots + rm.slots) → Qc v T'.heap L' → Go p e below Fn Q T' (mkF m q Ls (v.toList ++ rest))) : Go p e below Fn Q T (mkF m pc Ls S) := by
  subst hst
  obtain ⟨cq, kq, qa, qb, qc⟩ := isOf (T := T) hZ eT E
  obtain ⟨v, _, ⟨T', L', k', n'⟩, -, X', ⟨Lc, hQ, l', y', z'⟩, st⟩ := X.virtualBackUp hx (x := x) (y := y) hown (mvT hZ w1) (mvT hZ w2) (mvT hZ w7) hy (mvT hZ w5) (mvT hZ w6) (backOf (W := W) hM hZ w4 w3 hf hl) qa qc (g := mkF m pc Ls (argsL.reverse ++ .ref a :: rest)) rfl hml (Steps.refl _) (argsL := argsL) (rest := rest) hlen rfl (by show 2 * 0 + _ ≤ _; omega) hd (fun _ _ => ⟨rfl, eT, hc, hs⟩)
  dsimp only [Pt.U, Pt.locs, Pt.cells, Pt.slots] at X' l' y' z' st hQ
  subst l' y' z' hq
  exact (k v T' Lc X' hQ).st fun _ z => st.trans z
theorem g_callP (X : Stand p l e R s m args below meth c T locs cells slots) (hx : p.tables.exec = Jvm.exec) (q : Nat) (hZ : Z.Warmed39 s.vm) {own C0 : String} {index : Nat} {y y0 : MethodName} {bytes : ByteArray} {maxL : Nat} {ret : Option FieldType} {rm : Room} {Qc : Option Value → Heap → List Loc → Prop} (hown : s.vm.findClass own = some m.cls) (w1 : (Jvm.Cond.methodLink own index y).before a0 Z = true) (w6 : (Jvm.Cond.instanceMethod y).before a0 Z = true) (w8 : (Jvm.Cond.privateMethod y).before a0 Z = true) (w5 : (Jvm.Cond.selects C0 y0 y0).before a0 Z = true) (hc0 : y0.cls = y.cls) (w3 : (Jvm.Cond.initialized y.cls).before a0 Z = true) (w4 : (Jvm.Cond.code y bytes maxL ret).before a0 Z = true) (hy : y.cls ≠ "java/lang/invoke/MethodHandle" ∧ y.cls ≠ "java/lang/invoke/VarHandle") {C : String} (a : Addr) (E : Exa Z h a C) (argsL rest : List Value) (hM : OwnMet l Z y bytes maxL ret [] rm (.ref a :: argsL) h Qc)
    (eT : T.heap = h) (W : Nat) (hf : rm.frames + 1 ≤ R.frames) (hl : W + (maxL + 11) + rm.locals ≤ R.locals) (hc : cells + rm.cells ≤ R.cells) (hs : slots + rm.slots ≤ R.slots) (hml : Ls.size = c.maxLocals) (hlen : ∀ sig, parseMethodDescriptor y.desc = some sig → argsL.length = sig.parameters.length) (hd : decode c.code pc = .ok (.invokevirtual index, 3)) (hst : S = argsL.reverse ++ .ref a :: rest) (hW : (rest.map fun v => v.category).sum ≤ W) (hq : pc + 3 = q) (k : ∀ v T' L', Stand p l e R s m args below meth c T' (locs ++ L') (cells + rm.cells) (slots + rm.slots) → Qc v T'.heap L' → Go p e below Fn Q T' (mkF m q Ls (v.toList ++ rest))) : Go p e below Fn Q T (mkF m pc Ls S) := by
  subst hst
  have hpriv : s.PrivateAt y := Cond.privateMethod_at (mvP hZ w8 (args := #[]))
  have hsel : (Jvm.Cond.selects y.cls y y).before args s = true := by
    obtain ⟨c2, r2, m2, -, -, q3, -, kP, hkP, hkPi⟩ := Cond.selects_spec (mvT hZ w5 : (Jvm.Cond.selects C0 y0 y0).before args s = true)
    exact selects_self_of_private (hc0 ▸ findClass_of_methodNamed q3) hkP hkPi hpriv (mvT hZ w6) hy
  obtain ⟨cq, qa, qb⟩ := E.cell
  obtain ⟨v, _, ⟨T', L', k', n'⟩, -, X', ⟨Lc, hQ, l', y', z'⟩, st⟩ := X.privateBack hx (y := y) hown (mvT hZ w1) (mvT hZ w6) hsel hpriv (mvT hZ w4) hy (backOf (W := W) hM hZ w4 w3 hf hl) (g := mkF m pc Ls (argsL.reverse ++ .ref a :: rest)) rfl hml (Steps.refl _) (a := a) (by rw [eT]; exact qa) qb (argsL := argsL) (rest := rest) hlen rfl (by show 2 * 0 + _ ≤ _; omega) hd (fun _ _ => ⟨rfl, eT, hc, hs⟩)
  dsimp only [Pt.U, Pt.locs, Pt.cells, Pt.slots] at X' l' y' z' st hQ
  subst l' y' z' hq
  exact (k v T' Lc X' hQ).st fun _ z => st.trans z
theorem own_sta_keep {h' : Heap} {C n d : String} {v : Value} (F : Sta Z h C n d v) (Kp : Keep h h' []) : Sta Z h' C n d v := by
  obtain ⟨cf, i, k, f, st, cell, h1, h2, h3, h4, h5, r⟩ := F
  exact ⟨cf, i, k, f, st, cell, h1, h2, h3, h4, Kp.2.1 _ _ h5 nin0, r⟩
theorem own_plain {C : String} {x : Addr} (F : Exa Z h x C) : ∃ cl : Cell, h[x]? = some cl ∧ cl.vm.isStatics = false := by
  obtain ⟨c, _, h1, -, -, h4, -⟩ := F; exact ⟨c, h1, h4⟩
theorem own_sta_keep' {h' : Heap} {C n d : String} {v : Value} {x : Addr} (F : Sta Z h C n d v) (Kp : Keep h h' [x]) (hp : ∃ cl : Cell, h[x]? = some cl ∧ cl.vm.isStatics = false) : Sta Z h' C n d v := by
  obtain ⟨cf, i, k, f, st, cell, h1, h2, h3, h4, h5, h6, r⟩ := F
  obtain ⟨cl, q1, q2⟩ := hp
  have ne : st ≠ x := fun q => by rw [q] at h5; rw [q1] at h5; cases h5; rw [q2] at h6; cases h6
  exact ⟨cf, i, k, f, st, cell, h1, h2, h3, h4, Kp.2.1 _ _ h5 (ninS ne nin0), h6, r⟩
end OwnKit
theorem own_getD (ws : List Int32) (k : Nat) : (ws.map Value.int).getD k (.int (0 : Int32)) = .int (ws.getD k 0) := by
  simp only [List.getD_eq_getElem?_getD, List.getElem?_map]
  cases ws[k]? <;> rfl
theorem own_nn (a : Int32) : ¬ (a &&& (2147483647 : Int32)) < 0 := by
  rw [Int32.lt_iff_toInt_lt]
  show ¬ (a &&& 2147483647).toBitVec.toInt < 0
  rw [Int32.toBitVec_and, BitVec.toInt_neg_iff]
  rw [Nat.not_le, BitVec.toNat_and]
  have : a.toBitVec.toNat &&& (2147483647 : Int32).toBitVec.toNat ≤ (2147483647 : Int32).toBitVec.toNat := Nat.and_le_right
  have e : (2147483647 : Int32).toBitVec.toNat = 2147483647 := by decide
  omega
theorem own_nnL (a : Int64) : ¬ (a &&& (9223372036854775807 : Int64)) < 0 := by
  rw [Int64.lt_iff_toInt_lt]
  show ¬ (a &&& 9223372036854775807).toBitVec.toInt < 0
  rw [Int64.toBitVec_and, BitVec.toInt_neg_iff]
  rw [Nat.not_le, BitVec.toNat_and]
  have : a.toBitVec.toNat &&& (9223372036854775807 : Int64).toBitVec.toNat ≤ (9223372036854775807 : Int64).toBitVec.toNat := Nat.and_le_right
  have e : (9223372036854775807 : Int64).toBitVec.toNat = 9223372036854775807 := by decide
  omega
theorem own_modb (a n : Int32) (ha : ¬ a < 0) (hn : 0 < n) : ¬ a % n < 0 ∧ a % n < n := by
  rw [Int32.lt_iff_toInt_lt] at *
  rw [Int32.lt_iff_toInt_lt] at *
  rw [Int32.toInt_mod]
  have z : (0 : Int32).toInt = 0 := rfl
  rw [z] at *
  have h1 := Int.tmod_nonneg n.toInt (Int.not_lt.mp ha)
  have h2 := Int.tmod_lt_of_pos a.toInt hn
  omega
def own_j (n lp q : Int32) : Int32 := if q < n then q else lp + (q - lp) % (n - lp)
theorem own_sub (x y : Int32) (h1 : ¬ y < 0) (h2 : ¬ x < y) : (x - y).toInt = x.toInt - y.toInt := by
  rw [Int32.lt_iff_toInt_lt] at *
  have z : (0 : Int32).toInt = 0 := rfl
  rw [Int32.toInt_sub]
  have := x.le_toInt; have := x.toInt_lt; have := y.le_toInt; have := y.toInt_lt
  rw [Int.bmod_eq_of_le] <;> omega
theorem own_jv (n lp q : Int32) (hl0 : ¬ lp < 0) (hln : lp < n) (hq0 : ¬ q < 0) : (own_j n lp q).toInt = if q.toInt < n.toInt then q.toInt else lp.toInt + (q.toInt - lp.toInt) % (n.toInt - lp.toInt) := by
  unfold own_j
  by_cases h : q < n
  · rw [if_pos h, if_pos (Int32.lt_iff_toInt_lt.mp h)]
  · have e1 : (n - lp).toInt = n.toInt - lp.toInt := own_sub n lp hl0 (fun q => by rw [Int32.lt_iff_toInt_lt] at *; omega)
    have e2 : (q - lp).toInt = q.toInt - lp.toInt := own_sub q lp hl0 (fun q => by rw [Int32.lt_iff_toInt_lt] at *; omega)
    rw [if_neg h, if_neg (fun z => h (Int32.lt_iff_toInt_lt.mpr z))]
    rw [Int32.lt_iff_toInt_lt] at *
    have z : (0 : Int32).toInt = 0 := rfl
    have t : ((q - lp) % (n - lp)).toInt = (q.toInt - lp.toInt) % (n.toInt - lp.toInt) := by
      rw [Int32.toInt_mod, e1, e2, Int.tmod_eq_emod_of_nonneg (by omega)]
    have b1 := Int.emod_nonneg (q.toInt - lp.toInt) (b := n.toInt - lp.toInt) (by omega)
    have b2 := Int.emod_lt_of_pos (q.toInt - lp.toInt) (b := n.toInt - lp.toInt) (by omega)
    rw [Int32.toInt_add, t]
    have := n.toInt_lt
    rw [Int.bmod_eq_of_le] <;> omega
theorem own_jin (n lp q : Int32) (hl0 : ¬ lp < 0) (hln : lp < n) (hq0 : ¬ q < 0) : ¬ own_j n lp q < 0 ∧ own_j n lp q < n := by
  have e := own_jv n lp q hl0 hln hq0
  rw [Int32.lt_iff_toInt_lt, Int32.lt_iff_toInt_lt]
  rw [Int32.lt_iff_toInt_lt] at *
  have z : (0 : Int32).toInt = 0 := rfl
  have b1 := Int.emod_nonneg (q.toInt - lp.toInt) (b := n.toInt - lp.toInt) (by omega)
  have b2 := Int.emod_lt_of_pos (q.toInt - lp.toInt) (b := n.toInt - lp.toInt) (by omega)
  split at e <;> omega
theorem own_jper (n lp q : Int32) (hl0 : ¬ lp < 0) (hln : lp < n) (hq0 : ¬ q < 0) (hqn : ¬ q < n) : ¬ q - (n - lp) < 0 ∧ own_j n lp q = own_j n lp (q - (n - lp)) := by
  have e1 : (n - lp).toInt = n.toInt - lp.toInt := own_sub n lp hl0 (fun q => by rw [Int32.lt_iff_toInt_lt] at *; omega)
  have e2 : (q - (n - lp)).toInt = q.toInt - (n.toInt - lp.toInt) := by
    rw [← e1]; apply own_sub
    · rw [Int32.lt_iff_toInt_lt] at *
      have z : (0 : Int32).toInt = 0 := rfl
      omega
    · rw [Int32.lt_iff_toInt_lt] at *
      have z : (0 : Int32).toInt = 0 := rfl
      omega
  have z : (0 : Int32).toInt = 0 := rfl
  have hp : ¬ q - (n - lp) < 0 := by
    rw [Int32.lt_iff_toInt_lt] at *
    omega
  refine ⟨hp, ?_⟩
  rw [← Int32.toInt_inj, own_jv n lp q hl0 hln hq0, own_jv n lp _ hl0 hln hp, e2]
  rw [Int32.lt_iff_toInt_lt] at *
  rw [if_neg hqn]
  have k : (q.toInt - lp.toInt) % (n.toInt - lp.toInt) = (q.toInt - (n.toInt - lp.toInt) - lp.toInt) % (n.toInt - lp.toInt) := by
    rw [show q.toInt - (n.toInt - lp.toInt) - lp.toInt = (q.toInt - lp.toInt) - (n.toInt - lp.toInt) by omega, Int.sub_emod_right]
  split
  · rw [k, Int.emod_eq_of_lt (by omega) (by omega)]; omega
  · rw [k]
theorem own_nz (n lp : Int32) (h : lp < n) (hl0 : ¬ lp < 0) : ¬ n - lp = 0 := fun q => by
  have e1 : (n - lp).toInt = n.toInt - lp.toInt := own_sub n lp hl0 (fun q => by rw [Int32.lt_iff_toInt_lt] at *; omega)
  rw [q] at e1
  have z : (0 : Int32).toInt = 0 := rfl
  rw [Int32.lt_iff_toInt_lt] at h
  omega
theorem own_n4 (x : Int32) : (1 : Int32) + (x &&& 3) = 1 ∨ (1 : Int32) + (x &&& 3) = 2 ∨ (1 : Int32) + (x &&& 3) = 3 ∨ (1 : Int32) + (x &&& 3) = 4 := by
  have h : (x &&& 3) = 0 ∨ (x &&& 3) = 1 ∨ (x &&& 3) = 2 ∨ (x &&& 3) = 3 := by
    simp only [← Int32.toBitVec_inj, Int32.toBitVec_and]
    have a : (x.toBitVec &&& (3 : Int32).toBitVec).toNat ≤ 3 := by rw [BitVec.toNat_and]; exact Nat.and_le_right
    simp only [← BitVec.toNat_inj]
    have z0 : (0 : Int32).toBitVec.toNat = 0 := rfl
    have z1 : (1 : Int32).toBitVec.toNat = 1 := rfl
    have z2 : (2 : Int32).toBitVec.toNat = 2 := rfl
    have z3 : (3 : Int32).toBitVec.toNat = 3 := rfl
    omega
  rcases h with h | h | h | h <;> rw [h] <;> decide
theorem own_nnm (a m : Int32) (hm : ¬ m < 0) : ¬ (a &&& m) < 0 := by
  rw [Int32.lt_iff_toInt_lt] at *
  have z : (0 : Int32).toInt = 0 := rfl
  rw [z] at *
  have hm : ¬ m.toBitVec.toInt < 0 := hm
  show ¬ (a &&& m).toBitVec.toInt < 0
  rw [BitVec.toInt_neg_iff] at *
  rw [Int32.toBitVec_and, BitVec.toNat_and]
  have : a.toBitVec.toNat &&& m.toBitVec.toNat ≤ m.toBitVec.toNat := Nat.and_le_right
  omega
theorem own_pn0 : plainName "com/example/guarded_twins/guardedtwins/model/Lasso" = true := by first | (simp [plainName, overriddenIn]; done) | decide +kernel
theorem d1_0 : decode prog_59_method_1_code 0 = .ok (.aload_n 0, 1) := by decide +kernel
theorem d1_1 : decode prog_59_method_1_code 1 = .ok (.invokespecial 1, 3) := by decide +kernel
theorem d1_4 : decode prog_59_method_1_code 4 = .ok (.iload_n 2, 1) := by decide +kernel
theorem d1_5 : decode prog_59_method_1_code 5 = .ok (.ifCond .lt 9, 3) := by decide +kernel
theorem d1_8 : decode prog_59_method_1_code 8 = .ok (.iload_n 2, 1) := by decide +kernel
theorem d1_9 : decode prog_59_method_1_code 9 = .ok (.aload_n 1, 1) := by decide +kernel
theorem d1_10 : decode prog_59_method_1_code 10 = .ok (.arraylength, 1) := by decide +kernel
theorem d1_11 : decode prog_59_method_1_code 11 = .ok (.if_icmp .lt 19, 3) := by decide +kernel
theorem d1_30 : decode prog_59_method_1_code 30 = .ok (.aload_n 0, 1) := by decide +kernel
theorem d1_31 : decode prog_59_method_1_code 31 = .ok (.aload_n 1, 1) := by decide +kernel
theorem d1_32 : decode prog_59_method_1_code 32 = .ok (.invokevirtual 16, 3) := by decide +kernel
theorem d1_35 : decode prog_59_method_1_code 35 = .ok (.checkcast 17, 3) := by decide +kernel
theorem d1_38 : decode prog_59_method_1_code 38 = .ok (.putfield 22, 3) := by decide +kernel
theorem d1_41 : decode prog_59_method_1_code 41 = .ok (.aload_n 0, 1) := by decide +kernel
theorem d1_42 : decode prog_59_method_1_code 42 = .ok (.iload_n 2, 1) := by decide +kernel
theorem d1_43 : decode prog_59_method_1_code 43 = .ok (.putfield 27, 3) := by decide +kernel
theorem d1_46 : decode prog_59_method_1_code 46 = .ok (.return_, 1) := by decide +kernel
set_option maxRecDepth 65536 in
set_option maxHeartbeats 40000000 in
theorem rm1 (l : Launch) (Z : State) (a0 : Array Value) (hw : ∀ d ∈ tables_1, d.before a0 Z = true) (a b : Addr) (lp n : Int32) (ws : List Int32) (kA : ClassId) (u1 u2 : Value) (h0 : Heap) (n0 : Nat) (Z0 : n0 ≤ h0.size) (g_a : n0 ≤ a) (E_a : Exa Z h0 a "com/example/guarded_twins/guardedtwins/model/Lasso") (F_1 : Fld Z h0 a "com/example/guarded_twins/guardedtwins/model/Lasso" "values" "[I" u1) (F_2 : Fld Z h0 a "com/example/guarded_twins/guardedtwins/model/Lasso" "loop" "I" u2) (V_b : Arv Z h0 b kA .int n (ws.map Value.int) (.int (0 : Int32))) (E_b : Exa Z h0 b "[I") (hl0 : ¬ lp < 0) (hln : lp < n) (hn4 : n.toNatClampNeg ≤ 4) :
    OwnMet l Z (⟨"com/example/guarded_twins/guardedtwins/model/Lasso", "<init>", "([II)V"⟩ : MethodName) prog_59_method_1_code 3 none [] ({ frames := 1, cells := 1, slots := 4, locals := 16 } : Room) [(.ref a), (.ref b), (.int lp)] h0 (fun v h L => v = none ∧ Fr n0 L ∧ Keep h0 h [a] ∧ Exa Z h a "com/example/guarded_twins/guardedtwins/model/Lasso" ∧ ∃ bb, Fld Z h a "com/example/guarded_twins/guardedtwins/model/Lasso" "values" "[I" (.ref bb) ∧ Fld Z h a "com/example/guarded_twins/guardedtwins/model/Lasso" "loop" "I" (.int lp) ∧ Arv Z h bb kA .int n (ws.map Value.int) (.int (0 : Int32)) ∧ bb ≠ a) := by
  refine own_body (Ls := #[.val (.ref a), .val (.ref b), .val (.int lp)]) (plainFor_of_name own_pn0) (fun m => by first | (simp [entryFrame, mkF, argsToLocals, Value.category]; done) | rfl) (fun p e s m below meth c T0 hx hby hml hown hnm hret hlk hZ X0 e0 => ?_)
  have hown : s.vm.findClass "com/example/guarded_twins/guardedtwins/model/Lasso" = some m.cls := hown
  have N0 := Fr.nil n0
  have K0 := Keep.refl h0 [a]
  have ne_a_b : a ≠ b := ne_exa E_a E_b (by decide)
  refine g_aloadN X0 hx 1 (hb hby d1_0) rfl rfl rfl ?_
  refine g_initO X0 hx 4 hZ hown (own_w hw 7 rfl) (own_w hw 8 rfl) (own_w hw 9 rfl) e0 (by rw [hml]; rfl) (hb hby d1_1) (by decide) 0 (Nat.le_of_eq rfl) (by decide) rfl (fun T1 X1 e1 => ?_)
  refine g_iloadN X1 hx 5 (hb hby d1_4) rfl rfl ?_
  have hk2 : ¬ (lp < (0 : Int32)) := hl0
  refine g_ifF X1 hx 8 (hb hby d1_5) ((if0 _ _).trans (flt hk2).1) rfl ?_
  refine g_iloadN X1 hx 9 (hb hby d1_8) rfl rfl ?_
  refine g_aloadN X1 hx 10 (hb hby d1_9) rfl rfl rfl ?_
  refine g_arraylength X1 hx 11 hZ e1 V_b (hb hby d1_10) rfl ?_
  have hk3 : lp < n := hln
  refine g_icT X1 hx 30 (hb hby d1_11) (tlt hk3).1 (by decide) (by decide) ?_
  refine g_aloadN X1 hx 31 (hb hby d1_30) rfl rfl rfl ?_
  refine g_aloadN X1 hx 32 (hb hby d1_31) rfl rfl rfl ?_
  refine g_clone X1 hx 35 hZ hown (own_w hw 10 rfl) (own_w hw 11 rfl) (own_w hw 15 rfl) (own_w hw 13 rfl) (own_w hw 14 rfl) (own_w hw 16 rfl) e1 V_b E_b (by rw [hml]; rfl) (hb hby d1_32) (by decide) 1 4 (Nat.le_of_eq rfl) (by decide) hn4 (by decide) (by decide) rfl (fun T4 h4 b4 g4 X4 e4 E4 V4 I4 => ?_)
  have ne_a_b4 : a ≠ b4 := Nat.ne_of_lt (Nat.lt_of_lt_of_le E_a.lt (Nat.le_of_eq g4.symm))
  have ne_b_b4 : b ≠ b4 := Nat.ne_of_lt (Nat.lt_of_lt_of_le V_b.lt (Nat.le_of_eq g4.symm))
  have E_a := E_a.ext E4
  have F_1 := F_1.ext E4
  have F_2 := F_2.ext E4
  have V_b := V_b.ext E4
  have E_b := E_b.ext E4
  have G_b4 : n0 ≤ b4 := Nat.le_trans Z0 (Nat.le_of_eq g4.symm)
  have Z4 : n0 ≤ h4.size := Nat.le_trans Z0 E4.1
  have SZ_b4 : h0.size ≤ b4 := Nat.le_trans K0.1 (Nat.le_of_eq g4.symm)
  have K4 := K0.ext E4
  have V_b4 := V4
  refine g_cast X4 hx 38 hZ hown (own_w hw 17 rfl) e4 (Ins.self I4) (hb hby d1_35) rfl (fun T5 X5 e5 => ?_)
  refine g_putF X5 hx 41 hZ hown (host := "") (Or.inl (own_w hw 19 rfl)) Via.refl e5 F_1 E_a (Or.inr ⟨(own_w hw 20 rfl), rfl, hnm⟩) (own_w hw 2 rfl) (ty := (.array .int)) (by decide) rfl rfl (hb hby d1_38) rfl (fun T6 h6 X6 e6 W6 => ?_)
  have E_a := E_a.wr W6
  have F_1 := F_1.same W6
  have F_2 := F_2.other W6 (Or.inr (slot_ne (Or.inr (own_w hw 22 rfl)) (Or.inr (own_w hw 20 rfl)) (by decide) (t := .int) (t' := (.array .int)) (by decide) (by decide)))
  have V_b := V_b.other W6 (Ne.symm ne_a_b)
  have E_b := E_b.wr W6
  have V_b4 := V_b4.other W6 (Ne.symm ne_a_b4)
  have N6 := Fr.snoc X6 N0 g_a
  have Z6 : n0 ≤ h6.size := by rw [W6.size]; exact Z4
  have K6 := K4.wr W6 (Or.inl (List.mem_of_getElem? (i := 0) rfl))
  refine g_aloadN X6 hx 42 (hb hby d1_41) rfl rfl rfl ?_
  refine g_iloadN X6 hx 43 (hb hby d1_42) rfl rfl ?_
  refine g_putF X6 hx 46 hZ hown (host := "") (Or.inl (own_w hw 21 rfl)) Via.refl e6 F_2 E_a (Or.inr ⟨(own_w hw 22 rfl), rfl, hnm⟩) (own_w hw 2 rfl) (ty := .int) (by decide) rfl rfl (hb hby d1_43) rfl (fun T7 h7 X7 e7 W7 => ?_)
  have E_a := E_a.wr W7
  have F_1 := F_1.other W7 (Or.inr (slot_ne (Or.inr (own_w hw 20 rfl)) (Or.inr (own_w hw 22 rfl)) (by decide) (t := (.array .int)) (t' := .int) (by decide) (by decide)))
  have F_2 := F_2.same W7
  have V_b := V_b.other W7 (Ne.symm ne_a_b)
  have E_b := E_b.wr W7
  have V_b4 := V_b4.other W7 (Ne.symm ne_a_b4)
  have N7 := Fr.snoc X7 N6 g_a
  have Z7 : n0 ≤ h7.size := by rw [W7.size]; exact Z6
  have K7 := K6.wr W7 (Or.inl (List.mem_of_getElem? (i := 0) rfl))
  exact g_retV X7 hx hret hlk (hb hby d1_46) (by decide) (by decide) (by rw [e7]; exact ⟨rfl, N7, K7, E_a, b4, F_1, F_2, V_b4, Ne.symm ne_a_b4⟩)
theorem d3_0 : decode prog_59_method_4_code 0 = .ok (.iload_n 1, 1) := by decide +kernel
theorem d3_1 : decode prog_59_method_4_code 1 = .ok (.aload_n 0, 1) := by decide +kernel
theorem d3_2 : decode prog_59_method_4_code 2 = .ok (.getfield 22, 3) := by decide +kernel
theorem d3_5 : decode prog_59_method_4_code 5 = .ok (.arraylength, 1) := by decide +kernel
theorem d3_6 : decode prog_59_method_4_code 6 = .ok (.if_icmp .ge 12, 3) := by decide +kernel
theorem d3_9 : decode prog_59_method_4_code 9 = .ok (.aload_n 0, 1) := by decide +kernel
theorem d3_10 : decode prog_59_method_4_code 10 = .ok (.getfield 22, 3) := by decide +kernel
theorem d3_13 : decode prog_59_method_4_code 13 = .ok (.iload_n 1, 1) := by decide +kernel
theorem d3_14 : decode prog_59_method_4_code 14 = .ok (.iaload, 1) := by decide +kernel
theorem d3_15 : decode prog_59_method_4_code 15 = .ok (.goto 30, 3) := by decide +kernel
theorem d3_45 : decode prog_59_method_4_code 45 = .ok (.ireturn, 1) := by decide +kernel
theorem d3_18 : decode prog_59_method_4_code 18 = .ok (.aload_n 0, 1) := by decide +kernel
theorem d3_19 : decode prog_59_method_4_code 19 = .ok (.getfield 22, 3) := by decide +kernel
theorem d3_22 : decode prog_59_method_4_code 22 = .ok (.aload_n 0, 1) := by decide +kernel
theorem d3_23 : decode prog_59_method_4_code 23 = .ok (.getfield 27, 3) := by decide +kernel
theorem d3_26 : decode prog_59_method_4_code 26 = .ok (.iload_n 1, 1) := by decide +kernel
theorem d3_27 : decode prog_59_method_4_code 27 = .ok (.aload_n 0, 1) := by decide +kernel
theorem d3_28 : decode prog_59_method_4_code 28 = .ok (.getfield 27, 3) := by decide +kernel
theorem d3_31 : decode prog_59_method_4_code 31 = .ok (.isub, 1) := by decide +kernel
theorem d3_32 : decode prog_59_method_4_code 32 = .ok (.aload_n 0, 1) := by decide +kernel
theorem d3_33 : decode prog_59_method_4_code 33 = .ok (.getfield 22, 3) := by decide +kernel
theorem d3_36 : decode prog_59_method_4_code 36 = .ok (.arraylength, 1) := by decide +kernel
theorem d3_37 : decode prog_59_method_4_code 37 = .ok (.aload_n 0, 1) := by decide +kernel
theorem d3_38 : decode prog_59_method_4_code 38 = .ok (.getfield 27, 3) := by decide +kernel
theorem d3_41 : decode prog_59_method_4_code 41 = .ok (.isub, 1) := by decide +kernel
theorem d3_42 : decode prog_59_method_4_code 42 = .ok (.irem, 1) := by decide +kernel
theorem d3_43 : decode prog_59_method_4_code 43 = .ok (.iadd, 1) := by decide +kernel
theorem d3_44 : decode prog_59_method_4_code 44 = .ok (.iaload, 1) := by decide +kernel
set_option maxRecDepth 65536 in
set_option maxHeartbeats 40000000 in
theorem rm3 (l : Launch) (Z : State) (a0 : Array Value) (hw : ∀ d ∈ tables_1, d.before a0 Z = true) (a b : Addr) (q lp n : Int32) (ws : List Int32) (kA : ClassId) (h0 : Heap) (n0 : Nat) (Z0 : n0 ≤ h0.size) (F_1 : Fld Z h0 a "com/example/guarded_twins/guardedtwins/model/Lasso" "values" "[I" (.ref b)) (F_2 : Fld Z h0 a "com/example/guarded_twins/guardedtwins/model/Lasso" "loop" "I" (.int lp)) (V_b : Arv Z h0 b kA .int n (ws.map Value.int) (.int (0 : Int32))) (hl0 : ¬ lp < 0) (hln : lp < n) (hq0 : ¬ q < 0) :
    OwnMet l Z (⟨"com/example/guarded_twins/guardedtwins/model/Lasso", "get", "(I)I"⟩ : MethodName) prog_59_method_4_code 2 (some .int) [] ({ frames := 0, cells := 0, slots := 0, locals := 0 } : Room) [(.ref a), (.int q)] h0 (fun v h L => v = some (.int (ws.getD (own_j n lp q).toNatClampNeg 0)) ∧ Fr n0 L ∧ h = h0) := by
  refine own_body (Ls := #[.val (.ref a), .val (.int q)]) (plainFor_of_name own_pn0) (fun m => by first | (simp [entryFrame, mkF, argsToLocals, Value.category]; done) | rfl) (fun p e s m below meth c T0 hx hby hml hown hnm hret hlk hZ X0 e0 => ?_)
  have hown : s.vm.findClass "com/example/guarded_twins/guardedtwins/model/Lasso" = some m.cls := hown
  have N0 := Fr.nil n0
  have hnz42 := own_nz n lp hln hl0
  refine g_iloadN X0 hx 1 (hb hby d3_0) rfl rfl ?_
  refine g_aloadN X0 hx 2 (hb hby d3_1) rfl rfl rfl ?_
  refine g_getF X0 hx 5 hZ hown (host := "") (Or.inl (own_w hw 19 rfl)) Via.refl e0 F_1 (hb hby d3_2) rfl (fun T1 X1 e1 => ?_)
  refine g_arraylength X1 hx 6 hZ e1 V_b (hb hby d3_5) rfl ?_
  by_cases hc2 : q < n
  · refine g_icF X1 hx 9 (hb hby d3_6) (tlt hc2).2.1 rfl ?_
    refine g_aloadN X1 hx 10 (hb hby d3_9) rfl rfl rfl ?_
    refine g_getF X1 hx 13 hZ hown (host := "") (Or.inl (own_w hw 19 rfl)) Via.refl e1 F_1 (hb hby d3_10) rfl (fun T3 X3 e3 => ?_)
    refine g_iloadN X3 hx 14 (hb hby d3_13) rfl rfl ?_
    have hjin : ¬ q < 0 ∧ q < n := ⟨hq0, hc2⟩
    refine g_iaload X3 hx 15 hZ e3 V_b hjin (own_getD ws _) (hb hby d3_14) rfl ?_
    refine g_goto X3 hx 45 (hb hby d3_15) (by decide) (by decide) ?_
    exact g_retI X3 hx hret hlk (hb hby d3_45) (by decide) (by decide) ⟨by rw [show own_j n lp q = q from if_pos hc2], N0, e3⟩
  · refine g_icT X1 hx 18 (hb hby d3_6) (flt hc2).2.1 (by decide) (by decide) ?_
    refine g_aloadN X1 hx 19 (hb hby d3_18) rfl rfl rfl ?_
    refine g_getF X1 hx 22 hZ hown (host := "") (Or.inl (own_w hw 19 rfl)) Via.refl e1 F_1 (hb hby d3_19) rfl (fun T4 X4 e4 => ?_)
    refine g_aloadN X4 hx 23 (hb hby d3_22) rfl rfl rfl ?_
    refine g_getF X4 hx 26 hZ hown (host := "") (Or.inl (own_w hw 21 rfl)) Via.refl e4 F_2 (hb hby d3_23) rfl (fun T5 X5 e5 => ?_)
    refine g_iloadN X5 hx 27 (hb hby d3_26) rfl rfl ?_
    refine g_aloadN X5 hx 28 (hb hby d3_27) rfl rfl rfl ?_
    refine g_getF X5 hx 31 hZ hown (host := "") (Or.inl (own_w hw 21 rfl)) Via.refl e5 F_2 (hb hby d3_28) rfl (fun T6 X6 e6 => ?_)
    refine g_isub X6 hx 32 (q - lp) (hb hby d3_31) rfl rfl ?_
    refine g_aloadN X6 hx 33 (hb hby d3_32) rfl rfl rfl ?_
    refine g_getF X6 hx 36 hZ hown (host := "") (Or.inl (own_w hw 19 rfl)) Via.refl e6 F_1 (hb hby d3_33) rfl (fun T7 X7 e7 => ?_)
    refine g_arraylength X7 hx 37 hZ e7 V_b (hb hby d3_36) rfl ?_
    refine g_aloadN X7 hx 38 (hb hby d3_37) rfl rfl rfl ?_
    refine g_getF X7 hx 41 hZ hown (host := "") (Or.inl (own_w hw 21 rfl)) Via.refl e7 F_2 (hb hby d3_38) rfl (fun T8 X8 e8 => ?_)
    refine g_isub X8 hx 42 (n - lp) (hb hby d3_41) rfl rfl ?_
    refine g_irem X8 hx 43 ((q - lp) % (n - lp)) (hb hby d3_42) hnz42 rfl rfl ?_
    refine g_iadd X8 hx 44 (lp + ((q - lp) % (n - lp))) (hb hby d3_43) rfl rfl ?_
    have hj44 : own_j n lp q = (lp + ((q - lp) % (n - lp))) := if_neg hc2
    have hjin := own_jin n lp q hl0 hln hq0
    rw [hj44] at hjin
    refine g_iaload X8 hx 45 hZ e8 V_b hjin (own_getD ws _) (hb hby d3_44) rfl ?_
    exact g_retI X8 hx hret hlk (hb hby d3_45) (by decide) (by decide) ⟨by rw [show own_j n lp q = (lp + ((q - lp) % (n - lp))) from if_neg hc2], N0, e8⟩
theorem own_pn1 : plainName "com/example/guarded_twins/guardedtwins/model/LassoGetPinLaw" = true := by first | (simp [plainName, overriddenIn]; done) | decide +kernel
theorem own_pd0 : parseMethodDescriptor "([II)V" = some ⟨[(.array .int), .int], none⟩ := by decide +kernel
theorem own_pd1 : parseMethodDescriptor "(I)I" = some ⟨[.int], some .int⟩ := by decide +kernel
set_option maxRecDepth 65536 in
set_option maxHeartbeats 40000000 in
theorem rm0 (l : Launch) (Z : State) (a0 : Array Value) (hw : ∀ d ∈ tables_1, d.before a0 Z = true) (v0 v1 v2 v3 sh ps : Int32) (h0 : Heap) (n0 : Nat) (Z0 : n0 ≤ h0.size)  :
    OwnMet l Z x code maxLocals ret tables_1 room_1 [(.int v0), (.int v1), (.int v2), (.int v3), (.int sh), (.int ps)] h0 (fun v h L => v = some (.int 1) ∧ Fr n0 L) := by
  refine own_body (Ls := #[.val (.int v0), .val (.int v1), .val (.int v2), .val (.int v3), .val (.int sh), .val (.int ps), .unset, .unset, .unset, .unset, .unset, .unset, .unset]) (plainFor_of_name own_pn1) (fun m => by first | (simp [entryFrame, mkF, argsToLocals, Value.category, maxLocals]; done) | rfl) (fun p e s m below meth c T0 hx hby hml hown hnm hret hlk hZ X0 e0 => ?_)
  have hml : c.maxLocals = 13 := hml
  have hown : s.vm.findClass "com/example/guarded_twins/guardedtwins/model/LassoGetPinLaw" = some m.cls := hown
  have N0 := Fr.nil n0
  refine g_iconst X0 hx 1 (1 : Int32) (hb hby at_0) (by decide) rfl ?_
  refine g_iload X0 hx 3 (hb hby at_1) rfl rfl ?_
  refine g_iconst X0 hx 4 (3 : Int32) (hb hby at_3) (by decide) rfl ?_
  refine g_iand X0 hx 5 (sh &&& (3 : Int32)) (hb hby at_4) rfl rfl ?_
  refine g_iadd X0 hx 6 ((1 : Int32) + (sh &&& (3 : Int32))) (hb hby at_5) rfl rfl ?_
  have hn4 := own_n4 sh
  generalize ((1 : Int32) + (sh &&& (3 : Int32))) = n at hn4 ⊢
  rcases hn4 with rfl | rfl | rfl | rfl
  · refine g_istore X0 hx 8 #[.val (.int v0), .val (.int v1), .val (.int v2), .val (.int v3), .val (.int sh), .val (.int ps), .val (.int (1 : Int32)), .unset, .unset, .unset, .unset, .unset, .unset] (hb hby at_6) rfl rfl ?_
    refine g_iload X0 hx 10 (hb hby at_8) rfl rfl ?_
    refine g_iconst X0 hx 11 (2 : Int32) (hb hby at_10) (by decide) rfl ?_
    refine g_iushr X0 hx 12 ((sh.toUInt32 >>> ((2 : Int32) &&& 31).toUInt32).toInt32) (hb hby at_11) rfl rfl ?_
    refine g_iconst X0 hx 13 (3 : Int32) (hb hby at_12) (by decide) rfl ?_
    refine g_iand X0 hx 14 (((sh.toUInt32 >>> ((2 : Int32) &&& 31).toUInt32).toInt32) &&& (3 : Int32)) (hb hby at_13) rfl rfl ?_
    refine g_iload X0 hx 16 (hb hby at_14) rfl rfl ?_
    refine g_irem X0 hx 17 ((((sh.toUInt32 >>> ((2 : Int32) &&& 31).toUInt32).toInt32) &&& (3 : Int32)) % (1 : Int32)) (hb hby at_16) (by decide) rfl rfl ?_
    have hlp := own_modb _ (1 : Int32) (own_nnm ((sh.toUInt32 >>> ((2 : Int32) &&& 31).toUInt32).toInt32) 3 (by decide)) (by decide)
    generalize ((((sh.toUInt32 >>> ((2 : Int32) &&& 31).toUInt32).toInt32) &&& (3 : Int32)) % (1 : Int32)) = lp at hlp ⊢
    refine g_istore X0 hx 19 #[.val (.int v0), .val (.int v1), .val (.int v2), .val (.int v3), .val (.int sh), .val (.int ps), .val (.int (1 : Int32)), .val (.int lp), .unset, .unset, .unset, .unset, .unset] (hb hby at_17) rfl rfl ?_
    refine g_iload X0 hx 21 (hb hby at_19) rfl rfl ?_
    refine g_newPE X0 hx 23 hZ (own_w hw 0 rfl) e0 (hb hby at_21) (by decide) 1 (by decide) (by decide) (by decide) (by decide) "[I" (by decide) rfl (fun T1 h1 b1 k1 g1 X1 e1 E1 A1 I1 => ?_)
    have G_b1 : n0 ≤ b1 := Nat.le_trans Z0 (Nat.le_of_eq g1.symm)
    have Z1 : n0 ≤ h1.size := Nat.le_trans Z0 E1.1
    have E_b1 := I1
    have V_b1 : Arv Z h1 b1 k1 .int (1 : Int32) [(.int (0 : Int32))] (.int (0 : Int32)) := A1.pad (pad_rep [] (.int (0 : Int32)) 1)
    refine g_astore X1 hx 25 #[.val (.int v0), .val (.int v1), .val (.int v2), .val (.int v3), .val (.int sh), .val (.int ps), .val (.int (1 : Int32)), .val (.int lp), .val (.ref b1), .unset, .unset, .unset, .unset] (hb hby at_23) rfl rfl rfl ?_
    refine g_aload X1 hx 27 (hb hby at_25) rfl rfl rfl ?_
    refine g_iconst X1 hx 28 (0 : Int32) (hb hby at_27) (by decide) rfl ?_
    refine g_iloadN X1 hx 29 (hb hby at_28) rfl rfl ?_
    refine g_iastore X1 hx 30 hZ e1 V_b1 0 (by decide) ⟨by decide, by decide⟩ (Nat.le_of_ble_eq_true rfl) (hb hby at_29) rfl (fun T2 h2 X2 e2 W2 V2 => ?_)
    have E_b1 := E_b1.wr W2
    have V_b1 : Arv Z h2 b1 k1 .int (1 : Int32) [(.int v0)] (.int (0 : Int32)) := V2
    have N2 := Fr.snoc X2 N0 G_b1
    have Z2 : n0 ≤ h2.size := by rw [W2.size]; exact Z1
    refine g_iload X2 hx 32 (hb hby at_30) rfl rfl ?_
    refine g_iconst X2 hx 33 (1 : Int32) (hb hby at_32) (by decide) rfl ?_
    refine g_icT X2 hx 41 (hb hby at_33) (by decide) (by decide) (by decide) ?_
    refine g_iload X2 hx 43 (hb hby at_41) rfl rfl ?_
    refine g_iconst X2 hx 44 (2 : Int32) (hb hby at_43) (by decide) rfl ?_
    refine g_icT X2 hx 52 (hb hby at_44) (by decide) (by decide) (by decide) ?_
    refine g_iload X2 hx 54 (hb hby at_52) rfl rfl ?_
    refine g_iconst X2 hx 55 (3 : Int32) (hb hby at_54) (by decide) rfl ?_
    refine g_icT X2 hx 63 (hb hby at_55) (by decide) (by decide) (by decide) ?_
    refine g_new X2 hx 66 hZ hown (own_w hw 1 rfl) (own_w hw 2 rfl) (own_w hw 3 rfl) e2 (hb hby at_63) (by decide) (by decide) rfl (fun T3 h3 b3 g3 X3 e3 E3 A3 D3 => ?_)
    have ne_b1_b3 : b1 ≠ b3 := Nat.ne_of_lt (Nat.lt_of_lt_of_le E_b1.lt (Nat.le_of_eq g3.symm))
    have E_b1 := E_b1.ext E3
    have V_b1 := V_b1.ext E3
    have G_b3 : n0 ≤ b3 := Nat.le_trans Z2 (Nat.le_of_eq g3.symm)
    have Z3 : n0 ≤ h3.size := Nat.le_trans Z2 E3.1
    have E_b3 : Exa Z h3 b3 "com/example/guarded_twins/guardedtwins/model/Lasso" := A3
    have F_b3_values : Fld Z h3 b3 "com/example/guarded_twins/guardedtwins/model/Lasso" "values" "[I" .null := D3 (Or.inr (own_w hw 20 rfl)) (ty := (.array .int)) (by decide)
    have F_b3_loop : Fld Z h3 b3 "com/example/guarded_twins/guardedtwins/model/Lasso" "loop" "I" (.int (0 : Int32)) := D3 (Or.inr (own_w hw 22 rfl)) (ty := .int) (by decide)
    refine g_dup X3 hx 67 (hb hby at_66) rfl rfl ?_
    refine g_aload X3 hx 69 (hb hby at_67) rfl rfl rfl ?_
    refine g_iload X3 hx 71 (hb hby at_69) rfl rfl ?_
    refine g_callI X3 hx 74 hZ rfl hown (own_w hw 4 rfl) (own_w hw 5 rfl) (own_w hw 3 rfl) (own_w hw 6 rfl) (by decide) b3 [(.ref b1), (.int lp)] [(.ref b3)] (rm1 l Z a0 hw b3 b1 lp (1 : Int32) [v0] k1 _ _ h3 n0 Z3 G_b3 E_b3 F_b3_values F_b3_loop V_b1 E_b1 hlp.1 hlp.2 (by decide)) e3 1 (by decide) (by decide) (by decide) (by decide) (by rw [hml]; rfl) (lenOf own_pd0 rfl) (hb hby at_71) rfl (Nat.le_of_eq rfl) rfl (fun v4 T4 L4 X4 hQ4 => ?_)
    obtain ⟨rfl, N4q, K4, E4x, bb, F1_b3, F2_b3, V_bb, ne_bb⟩ := hQ4
    have N4 := Fr.app N2 N4q
    have E_b1 := E_b1.keep K4
    have V_b1 := V_b1.keep K4 (ninS ne_b1_b3 nin0)
    have E_b3 := E_b3.keep K4
    have Z4 := Nat.le_trans Z3 K4.1
    show Go p e below _ _ T4 (mkF m 74 #[.val (.int v0), .val (.int v1), .val (.int v2), .val (.int v3), .val (.int sh), .val (.int ps), .val (.int (1 : Int32)), .val (.int lp), .val (.ref b1), .unset, .unset, .unset, .unset] [(.ref b3)])
    refine g_astore X4 hx 76 #[.val (.int v0), .val (.int v1), .val (.int v2), .val (.int v3), .val (.int sh), .val (.int ps), .val (.int (1 : Int32)), .val (.int lp), .val (.ref b1), .val (.ref b3), .unset, .unset, .unset] (hb hby at_74) rfl rfl rfl ?_
    refine g_iload X4 hx 78 (hb hby at_76) rfl rfl ?_
    refine g_ldcI X4 hx 80 hZ hown (own_w hw 23 rfl) (hb hby at_78) rfl ?_
    refine g_iand X4 hx 81 (ps &&& (2147483647 : Int32)) (hb hby at_80) rfl rfl ?_
    refine g_istore X4 hx 83 #[.val (.int v0), .val (.int v1), .val (.int v2), .val (.int v3), .val (.int sh), .val (.int ps), .val (.int (1 : Int32)), .val (.int lp), .val (.ref b1), .val (.ref b3), .val (.int (ps &&& (2147483647 : Int32))), .unset, .unset] (hb hby at_81) rfl rfl ?_
    refine g_iload X4 hx 85 (hb hby at_83) rfl rfl ?_
    refine g_iconst X4 hx 86 (4 : Int32) (hb hby at_85) (by decide) rfl ?_
    refine g_iushr X4 hx 87 ((sh.toUInt32 >>> ((4 : Int32) &&& 31).toUInt32).toInt32) (hb hby at_86) rfl rfl ?_
    refine g_iconst X4 hx 88 (1 : Int32) (hb hby at_87) (by decide) rfl ?_
    refine g_iand X4 hx 89 (((sh.toUInt32 >>> ((4 : Int32) &&& 31).toUInt32).toInt32) &&& (1 : Int32)) (hb hby at_88) rfl rfl ?_
    by_cases hc5 : (((sh.toUInt32 >>> ((4 : Int32) &&& 31).toUInt32).toInt32) &&& (1 : Int32)) = (0 : Int32)
    · refine g_ifT X4 hx 99 (hb hby at_89) ((if0 _ _).trans (teq hc5).1) (by decide) (by decide) ?_
      have hq0 : ¬ (ps &&& (2147483647 : Int32)) < 0 := own_nn ps
      generalize (ps &&& (2147483647 : Int32)) = q at hq0 ⊢
      refine g_aload X4 hx 101 (hb hby at_99) rfl rfl rfl ?_
      refine g_iload X4 hx 103 (hb hby at_101) rfl rfl ?_
      refine g_callV X4 hx 106 hZ hown (own_w hw 24 rfl) (own_w hw 25 rfl) (own_w hw 27 rfl) (own_w hw 26 rfl) (own_w hw 3 rfl) (own_w hw 28 rfl) (by decide) b3 E_b3 [(.int q)] [] (rm3 l Z a0 hw b3 bb q lp (1 : Int32) [v0] k1 T4.heap n0 Z4 F1_b3 F2_b3 V_bb hlp.1 hlp.2 hq0) rfl 0 (by decide) (by decide) (by decide) (by decide) (by rw [hml]; rfl) (lenOf own_pd1 rfl) (hb hby at_103) rfl (Nat.le_of_eq rfl) rfl (fun v6 T6 L6 X6 hQ6 => ?_)
      obtain ⟨rfl, N6q, e6⟩ := hQ6
      have N6 := Fr.app N4 N6q
      show Go p e below _ _ T6 (mkF m 106 #[.val (.int v0), .val (.int v1), .val (.int v2), .val (.int v3), .val (.int sh), .val (.int ps), .val (.int (1 : Int32)), .val (.int lp), .val (.ref b1), .val (.ref b3), .val (.int q), .unset, .unset] [(.int ([v0].getD (own_j (1 : Int32) lp q).toNatClampNeg 0))])
      refine g_istore X6 hx 108 #[.val (.int v0), .val (.int v1), .val (.int v2), .val (.int v3), .val (.int sh), .val (.int ps), .val (.int (1 : Int32)), .val (.int lp), .val (.ref b1), .val (.ref b3), .val (.int q), .val (.int ([v0].getD (own_j (1 : Int32) lp q).toNatClampNeg 0)), .unset] (hb hby at_106) rfl rfl ?_
      refine g_iload X6 hx 110 (hb hby at_108) rfl rfl ?_
      refine g_iload X6 hx 112 (hb hby at_110) rfl rfl ?_
      by_cases hc7 : q < (1 : Int32)
      · refine g_icF X6 hx 115 (hb hby at_112) (tlt hc7).2.1 rfl ?_
        refine g_iload X6 hx 117 (hb hby at_115) rfl rfl ?_
        refine g_aload X6 hx 119 (hb hby at_117) rfl rfl rfl ?_
        refine g_iload X6 hx 121 (hb hby at_119) rfl rfl ?_
        refine g_iaload X6 hx 122 hZ e6 V_b1 ⟨hq0, hc7⟩ (own_getD [v0] _) (hb hby at_121) rfl ?_
        have hk8 : ([v0].getD (own_j (1 : Int32) lp q).toNatClampNeg 0) = ([v0].getD q.toNatClampNeg 0) := by rw [show own_j (1 : Int32) lp q = q from if_pos hc7]
        refine g_icF X6 hx 125 (hb hby at_122) (teq hk8).2 rfl ?_
        refine g_iconst X6 hx 126 (1 : Int32) (hb hby at_125) (by decide) rfl ?_
        refine g_goto X6 hx 130 (hb hby at_126) (by decide) (by decide) ?_
        exact g_retZ X6 hx hret hlk rfl (hb hby at_130) (by decide) (by decide) ⟨rfl, N6⟩
      · refine g_icT X6 hx 131 (hb hby at_112) (flt hc7).2.1 (by decide) (by decide) ?_
        refine g_iload X6 hx 133 (hb hby at_131) rfl rfl ?_
        refine g_iload X6 hx 135 (hb hby at_133) rfl rfl ?_
        refine g_isub X6 hx 136 ((1 : Int32) - lp) (hb hby at_135) rfl rfl ?_
        refine g_istore X6 hx 138 #[.val (.int v0), .val (.int v1), .val (.int v2), .val (.int v3), .val (.int sh), .val (.int ps), .val (.int (1 : Int32)), .val (.int lp), .val (.ref b1), .val (.ref b3), .val (.int q), .val (.int ([v0].getD (own_j (1 : Int32) lp q).toNatClampNeg 0)), .val (.int ((1 : Int32) - lp))] (hb hby at_136) rfl rfl ?_
        refine g_iload X6 hx 140 (hb hby at_138) rfl rfl ?_
        refine g_aload X6 hx 142 (hb hby at_140) rfl rfl rfl ?_
        refine g_iload X6 hx 144 (hb hby at_142) rfl rfl ?_
        refine g_iload X6 hx 146 (hb hby at_144) rfl rfl ?_
        refine g_isub X6 hx 147 (q - ((1 : Int32) - lp)) (hb hby at_146) rfl rfl ?_
        refine g_callV X6 hx 150 hZ hown (own_w hw 24 rfl) (own_w hw 25 rfl) (own_w hw 27 rfl) (own_w hw 26 rfl) (own_w hw 3 rfl) (own_w hw 28 rfl) (by decide) b3 E_b3 [(.int (q - ((1 : Int32) - lp)))] [(.int ([v0].getD (own_j (1 : Int32) lp q).toNatClampNeg 0))] (rm3 l Z a0 hw b3 bb (q - ((1 : Int32) - lp)) lp (1 : Int32) [v0] k1 T4.heap n0 Z4 F1_b3 F2_b3 V_bb hlp.1 hlp.2 (own_jper (1 : Int32) lp q hlp.1 hlp.2 hq0 hc7).1) e6 1 (by decide) (by decide) (by decide) (by decide) (by rw [hml]; rfl) (lenOf own_pd1 rfl) (hb hby at_147) rfl (Nat.le_of_eq rfl) rfl (fun v9 T9 L9 X9 hQ9 => ?_)
        obtain ⟨rfl, N9q, e9⟩ := hQ9
        have N9 := Fr.app N6 N9q
        show Go p e below _ _ T9 (mkF m 150 #[.val (.int v0), .val (.int v1), .val (.int v2), .val (.int v3), .val (.int sh), .val (.int ps), .val (.int (1 : Int32)), .val (.int lp), .val (.ref b1), .val (.ref b3), .val (.int q), .val (.int ([v0].getD (own_j (1 : Int32) lp q).toNatClampNeg 0)), .val (.int ((1 : Int32) - lp))] [(.int ([v0].getD (own_j (1 : Int32) lp (q - ((1 : Int32) - lp))).toNatClampNeg 0)), (.int ([v0].getD (own_j (1 : Int32) lp q).toNatClampNeg 0))])
        have hk10 : ([v0].getD (own_j (1 : Int32) lp q).toNatClampNeg 0) = ([v0].getD (own_j (1 : Int32) lp (q - ((1 : Int32) - lp))).toNatClampNeg 0) := by rw [(own_jper (1 : Int32) lp q hlp.1 hlp.2 hq0 hc7).2]
        refine g_icF X9 hx 153 (hb hby at_150) (teq hk10).2 rfl ?_
        refine g_iconst X9 hx 154 (1 : Int32) (hb hby at_153) (by decide) rfl ?_
        refine g_goto X9 hx 158 (hb hby at_154) (by decide) (by decide) ?_
        exact g_retZ X9 hx hret hlk rfl (hb hby at_158) (by decide) (by decide) ⟨rfl, N9⟩
    · refine g_ifF X4 hx 92 (hb hby at_89) ((if0 _ _).trans (feq hc5).1) rfl ?_
      refine g_iload X4 hx 94 (hb hby at_92) rfl rfl ?_
      refine g_bipush X4 hx 96 (15 : Int32) (hb hby at_94) (by decide) rfl ?_
      refine g_iand X4 hx 97 ((ps &&& (2147483647 : Int32)) &&& (15 : Int32)) (hb hby at_96) rfl rfl ?_
      refine g_istore X4 hx 99 #[.val (.int v0), .val (.int v1), .val (.int v2), .val (.int v3), .val (.int sh), .val (.int ps), .val (.int (1 : Int32)), .val (.int lp), .val (.ref b1), .val (.ref b3), .val (.int ((ps &&& (2147483647 : Int32)) &&& (15 : Int32))), .unset, .unset] (hb hby at_97) rfl rfl ?_
      have hq0 : ¬ ((ps &&& (2147483647 : Int32)) &&& (15 : Int32)) < 0 := own_nnm _ 15 (by decide)
      generalize ((ps &&& (2147483647 : Int32)) &&& (15 : Int32)) = q at hq0 ⊢
      refine g_aload X4 hx 101 (hb hby at_99) rfl rfl rfl ?_
      refine g_iload X4 hx 103 (hb hby at_101) rfl rfl ?_
      refine g_callV X4 hx 106 hZ hown (own_w hw 24 rfl) (own_w hw 25 rfl) (own_w hw 27 rfl) (own_w hw 26 rfl) (own_w hw 3 rfl) (own_w hw 28 rfl) (by decide) b3 E_b3 [(.int q)] [] (rm3 l Z a0 hw b3 bb q lp (1 : Int32) [v0] k1 T4.heap n0 Z4 F1_b3 F2_b3 V_bb hlp.1 hlp.2 hq0) rfl 0 (by decide) (by decide) (by decide) (by decide) (by rw [hml]; rfl) (lenOf own_pd1 rfl) (hb hby at_103) rfl (Nat.le_of_eq rfl) rfl (fun v11 T11 L11 X11 hQ11 => ?_)
      obtain ⟨rfl, N11q, e11⟩ := hQ11
      have N11 := Fr.app N4 N11q
      show Go p e below _ _ T11 (mkF m 106 #[.val (.int v0), .val (.int v1), .val (.int v2), .val (.int v3), .val (.int sh), .val (.int ps), .val (.int (1 : Int32)), .val (.int lp), .val (.ref b1), .val (.ref b3), .val (.int q), .unset, .unset] [(.int ([v0].getD (own_j (1 : Int32) lp q).toNatClampNeg 0))])
      refine g_istore X11 hx 108 #[.val (.int v0), .val (.int v1), .val (.int v2), .val (.int v3), .val (.int sh), .val (.int ps), .val (.int (1 : Int32)), .val (.int lp), .val (.ref b1), .val (.ref b3), .val (.int q), .val (.int ([v0].getD (own_j (1 : Int32) lp q).toNatClampNeg 0)), .unset] (hb hby at_106) rfl rfl ?_
      refine g_iload X11 hx 110 (hb hby at_108) rfl rfl ?_
      refine g_iload X11 hx 112 (hb hby at_110) rfl rfl ?_
      by_cases hc12 : q < (1 : Int32)
      · refine g_icF X11 hx 115 (hb hby at_112) (tlt hc12).2.1 rfl ?_
        refine g_iload X11 hx 117 (hb hby at_115) rfl rfl ?_
        refine g_aload X11 hx 119 (hb hby at_117) rfl rfl rfl ?_
        refine g_iload X11 hx 121 (hb hby at_119) rfl rfl ?_
        refine g_iaload X11 hx 122 hZ e11 V_b1 ⟨hq0, hc12⟩ (own_getD [v0] _) (hb hby at_121) rfl ?_
        have hk13 : ([v0].getD (own_j (1 : Int32) lp q).toNatClampNeg 0) = ([v0].getD q.toNatClampNeg 0) := by rw [show own_j (1 : Int32) lp q = q from if_pos hc12]
        refine g_icF X11 hx 125 (hb hby at_122) (teq hk13).2 rfl ?_
        refine g_iconst X11 hx 126 (1 : Int32) (hb hby at_125) (by decide) rfl ?_
        refine g_goto X11 hx 130 (hb hby at_126) (by decide) (by decide) ?_
        exact g_retZ X11 hx hret hlk rfl (hb hby at_130) (by decide) (by decide) ⟨rfl, N11⟩
      · refine g_icT X11 hx 131 (hb hby at_112) (flt hc12).2.1 (by decide) (by decide) ?_
        refine g_iload X11 hx 133 (hb hby at_131) rfl rfl ?_
        refine g_iload X11 hx 135 (hb hby at_133) rfl rfl ?_
        refine g_isub X11 hx 136 ((1 : Int32) - lp) (hb hby at_135) rfl rfl ?_
        refine g_istore X11 hx 138 #[.val (.int v0), .val (.int v1), .val (.int v2), .val (.int v3), .val (.int sh), .val (.int ps), .val (.int (1 : Int32)), .val (.int lp), .val (.ref b1), .val (.ref b3), .val (.int q), .val (.int ([v0].getD (own_j (1 : Int32) lp q).toNatClampNeg 0)), .val (.int ((1 : Int32) - lp))] (hb hby at_136) rfl rfl ?_
        refine g_iload X11 hx 140 (hb hby at_138) rfl rfl ?_
        refine g_aload X11 hx 142 (hb hby at_140) rfl rfl rfl ?_
        refine g_iload X11 hx 144 (hb hby at_142) rfl rfl ?_
        refine g_iload X11 hx 146 (hb hby at_144) rfl rfl ?_
        refine g_isub X11 hx 147 (q - ((1 : Int32) - lp)) (hb hby at_146) rfl rfl ?_
        refine g_callV X11 hx 150 hZ hown (own_w hw 24 rfl) (own_w hw 25 rfl) (own_w hw 27 rfl) (own_w hw 26 rfl) (own_w hw 3 rfl) (own_w hw 28 rfl) (by decide) b3 E_b3 [(.int (q - ((1 : Int32) - lp)))] [(.int ([v0].getD (own_j (1 : Int32) lp q).toNatClampNeg 0))] (rm3 l Z a0 hw b3 bb (q - ((1 : Int32) - lp)) lp (1 : Int32) [v0] k1 T4.heap n0 Z4 F1_b3 F2_b3 V_bb hlp.1 hlp.2 (own_jper (1 : Int32) lp q hlp.1 hlp.2 hq0 hc12).1) e11 1 (by decide) (by decide) (by decide) (by decide) (by rw [hml]; rfl) (lenOf own_pd1 rfl) (hb hby at_147) rfl (Nat.le_of_eq rfl) rfl (fun v14 T14 L14 X14 hQ14 => ?_)
        obtain ⟨rfl, N14q, e14⟩ := hQ14
        have N14 := Fr.app N11 N14q
        show Go p e below _ _ T14 (mkF m 150 #[.val (.int v0), .val (.int v1), .val (.int v2), .val (.int v3), .val (.int sh), .val (.int ps), .val (.int (1 : Int32)), .val (.int lp), .val (.ref b1), .val (.ref b3), .val (.int q), .val (.int ([v0].getD (own_j (1 : Int32) lp q).toNatClampNeg 0)), .val (.int ((1 : Int32) - lp))] [(.int ([v0].getD (own_j (1 : Int32) lp (q - ((1 : Int32) - lp))).toNatClampNeg 0)), (.int ([v0].getD (own_j (1 : Int32) lp q).toNatClampNeg 0))])
        have hk15 : ([v0].getD (own_j (1 : Int32) lp q).toNatClampNeg 0) = ([v0].getD (own_j (1 : Int32) lp (q - ((1 : Int32) - lp))).toNatClampNeg 0) := by rw [(own_jper (1 : Int32) lp q hlp.1 hlp.2 hq0 hc12).2]
        refine g_icF X14 hx 153 (hb hby at_150) (teq hk15).2 rfl ?_
        refine g_iconst X14 hx 154 (1 : Int32) (hb hby at_153) (by decide) rfl ?_
        refine g_goto X14 hx 158 (hb hby at_154) (by decide) (by decide) ?_
        exact g_retZ X14 hx hret hlk rfl (hb hby at_158) (by decide) (by decide) ⟨rfl, N14⟩
  · refine g_istore X0 hx 8 #[.val (.int v0), .val (.int v1), .val (.int v2), .val (.int v3), .val (.int sh), .val (.int ps), .val (.int (2 : Int32)), .unset, .unset, .unset, .unset, .unset, .unset] (hb hby at_6) rfl rfl ?_
    refine g_iload X0 hx 10 (hb hby at_8) rfl rfl ?_
    refine g_iconst X0 hx 11 (2 : Int32) (hb hby at_10) (by decide) rfl ?_
    refine g_iushr X0 hx 12 ((sh.toUInt32 >>> ((2 : Int32) &&& 31).toUInt32).toInt32) (hb hby at_11) rfl rfl ?_
    refine g_iconst X0 hx 13 (3 : Int32) (hb hby at_12) (by decide) rfl ?_
    refine g_iand X0 hx 14 (((sh.toUInt32 >>> ((2 : Int32) &&& 31).toUInt32).toInt32) &&& (3 : Int32)) (hb hby at_13) rfl rfl ?_
    refine g_iload X0 hx 16 (hb hby at_14) rfl rfl ?_
    refine g_irem X0 hx 17 ((((sh.toUInt32 >>> ((2 : Int32) &&& 31).toUInt32).toInt32) &&& (3 : Int32)) % (2 : Int32)) (hb hby at_16) (by decide) rfl rfl ?_
    have hlp := own_modb _ (2 : Int32) (own_nnm ((sh.toUInt32 >>> ((2 : Int32) &&& 31).toUInt32).toInt32) 3 (by decide)) (by decide)
    generalize ((((sh.toUInt32 >>> ((2 : Int32) &&& 31).toUInt32).toInt32) &&& (3 : Int32)) % (2 : Int32)) = lp at hlp ⊢
    refine g_istore X0 hx 19 #[.val (.int v0), .val (.int v1), .val (.int v2), .val (.int v3), .val (.int sh), .val (.int ps), .val (.int (2 : Int32)), .val (.int lp), .unset, .unset, .unset, .unset, .unset] (hb hby at_17) rfl rfl ?_
    refine g_iload X0 hx 21 (hb hby at_19) rfl rfl ?_
    refine g_newPE X0 hx 23 hZ (own_w hw 0 rfl) e0 (hb hby at_21) (by decide) 2 (by decide) (by decide) (by decide) (by decide) "[I" (by decide) rfl (fun T16 h16 b16 k16 g16 X16 e16 E16 A16 I16 => ?_)
    have G_b16 : n0 ≤ b16 := Nat.le_trans Z0 (Nat.le_of_eq g16.symm)
    have Z16 : n0 ≤ h16.size := Nat.le_trans Z0 E16.1
    have E_b16 := I16
    have V_b16 : Arv Z h16 b16 k16 .int (2 : Int32) [(.int (0 : Int32)), (.int (0 : Int32))] (.int (0 : Int32)) := A16.pad (pad_rep [] (.int (0 : Int32)) 2)
    refine g_astore X16 hx 25 #[.val (.int v0), .val (.int v1), .val (.int v2), .val (.int v3), .val (.int sh), .val (.int ps), .val (.int (2 : Int32)), .val (.int lp), .val (.ref b16), .unset, .unset, .unset, .unset] (hb hby at_23) rfl rfl rfl ?_
    refine g_aload X16 hx 27 (hb hby at_25) rfl rfl rfl ?_
    refine g_iconst X16 hx 28 (0 : Int32) (hb hby at_27) (by decide) rfl ?_
    refine g_iloadN X16 hx 29 (hb hby at_28) rfl rfl ?_
    refine g_iastore X16 hx 30 hZ e16 V_b16 0 (by decide) ⟨by decide, by decide⟩ (Nat.le_of_ble_eq_true rfl) (hb hby at_29) rfl (fun T17 h17 X17 e17 W17 V17 => ?_)
    have E_b16 := E_b16.wr W17
    have V_b16 : Arv Z h17 b16 k16 .int (2 : Int32) [(.int v0), (.int (0 : Int32))] (.int (0 : Int32)) := V17
    have N17 := Fr.snoc X17 N0 G_b16
    have Z17 : n0 ≤ h17.size := by rw [W17.size]; exact Z16
    refine g_iload X17 hx 32 (hb hby at_30) rfl rfl ?_
    refine g_iconst X17 hx 33 (1 : Int32) (hb hby at_32) (by decide) rfl ?_
    refine g_icF X17 hx 36 (hb hby at_33) (by decide) rfl ?_
    refine g_aload X17 hx 38 (hb hby at_36) rfl rfl rfl ?_
    refine g_iconst X17 hx 39 (1 : Int32) (hb hby at_38) (by decide) rfl ?_
    refine g_iloadN X17 hx 40 (hb hby at_39) rfl rfl ?_
    refine g_iastore X17 hx 41 hZ e17 V_b16 1 (by decide) ⟨by decide, by decide⟩ (Nat.le_of_ble_eq_true rfl) (hb hby at_40) rfl (fun T18 h18 X18 e18 W18 V18 => ?_)
    have E_b16 := E_b16.wr W18
    have V_b16 : Arv Z h18 b16 k16 .int (2 : Int32) [(.int v0), (.int v1)] (.int (0 : Int32)) := V18
    have N18 := Fr.snoc X18 N17 G_b16
    have Z18 : n0 ≤ h18.size := by rw [W18.size]; exact Z17
    refine g_iload X18 hx 43 (hb hby at_41) rfl rfl ?_
    refine g_iconst X18 hx 44 (2 : Int32) (hb hby at_43) (by decide) rfl ?_
    refine g_icT X18 hx 52 (hb hby at_44) (by decide) (by decide) (by decide) ?_
    refine g_iload X18 hx 54 (hb hby at_52) rfl rfl ?_
    refine g_iconst X18 hx 55 (3 : Int32) (hb hby at_54) (by decide) rfl ?_
    refine g_icT X18 hx 63 (hb hby at_55) (by decide) (by decide) (by decide) ?_
    refine g_new X18 hx 66 hZ hown (own_w hw 1 rfl) (own_w hw 2 rfl) (own_w hw 3 rfl) e18 (hb hby at_63) (by decide) (by decide) rfl (fun T19 h19 b19 g19 X19 e19 E19 A19 D19 => ?_)
    have ne_b16_b19 : b16 ≠ b19 := Nat.ne_of_lt (Nat.lt_of_lt_of_le E_b16.lt (Nat.le_of_eq g19.symm))
    have E_b16 := E_b16.ext E19
    have V_b16 := V_b16.ext E19
    have G_b19 : n0 ≤ b19 := Nat.le_trans Z18 (Nat.le_of_eq g19.symm)
    have Z19 : n0 ≤ h19.size := Nat.le_trans Z18 E19.1
    have E_b19 : Exa Z h19 b19 "com/example/guarded_twins/guardedtwins/model/Lasso" := A19
    have F_b19_values : Fld Z h19 b19 "com/example/guarded_twins/guardedtwins/model/Lasso" "values" "[I" .null := D19 (Or.inr (own_w hw 20 rfl)) (ty := (.array .int)) (by decide)
    have F_b19_loop : Fld Z h19 b19 "com/example/guarded_twins/guardedtwins/model/Lasso" "loop" "I" (.int (0 : Int32)) := D19 (Or.inr (own_w hw 22 rfl)) (ty := .int) (by decide)
    refine g_dup X19 hx 67 (hb hby at_66) rfl rfl ?_
    refine g_aload X19 hx 69 (hb hby at_67) rfl rfl rfl ?_
    refine g_iload X19 hx 71 (hb hby at_69) rfl rfl ?_
    refine g_callI X19 hx 74 hZ rfl hown (own_w hw 4 rfl) (own_w hw 5 rfl) (own_w hw 3 rfl) (own_w hw 6 rfl) (by decide) b19 [(.ref b16), (.int lp)] [(.ref b19)] (rm1 l Z a0 hw b19 b16 lp (2 : Int32) [v0, v1] k16 _ _ h19 n0 Z19 G_b19 E_b19 F_b19_values F_b19_loop V_b16 E_b16 hlp.1 hlp.2 (by decide)) e19 1 (by decide) (by decide) (by decide) (by decide) (by rw [hml]; rfl) (lenOf own_pd0 rfl) (hb hby at_71) rfl (Nat.le_of_eq rfl) rfl (fun v20 T20 L20 X20 hQ20 => ?_)
    obtain ⟨rfl, N20q, K20, E20x, bb, F1_b19, F2_b19, V_bb, ne_bb⟩ := hQ20
    have N20 := Fr.app N18 N20q
    have E_b16 := E_b16.keep K20
    have V_b16 := V_b16.keep K20 (ninS ne_b16_b19 nin0)
    have E_b19 := E_b19.keep K20
    have Z20 := Nat.le_trans Z19 K20.1
    show Go p e below _ _ T20 (mkF m 74 #[.val (.int v0), .val (.int v1), .val (.int v2), .val (.int v3), .val (.int sh), .val (.int ps), .val (.int (2 : Int32)), .val (.int lp), .val (.ref b16), .unset, .unset, .unset, .unset] [(.ref b19)])
    refine g_astore X20 hx 76 #[.val (.int v0), .val (.int v1), .val (.int v2), .val (.int v3), .val (.int sh), .val (.int ps), .val (.int (2 : Int32)), .val (.int lp), .val (.ref b16), .val (.ref b19), .unset, .unset, .unset] (hb hby at_74) rfl rfl rfl ?_
    refine g_iload X20 hx 78 (hb hby at_76) rfl rfl ?_
    refine g_ldcI X20 hx 80 hZ hown (own_w hw 23 rfl) (hb hby at_78) rfl ?_
    refine g_iand X20 hx 81 (ps &&& (2147483647 : Int32)) (hb hby at_80) rfl rfl ?_
    refine g_istore X20 hx 83 #[.val (.int v0), .val (.int v1), .val (.int v2), .val (.int v3), .val (.int sh), .val (.int ps), .val (.int (2 : Int32)), .val (.int lp), .val (.ref b16), .val (.ref b19), .val (.int (ps &&& (2147483647 : Int32))), .unset, .unset] (hb hby at_81) rfl rfl ?_
    refine g_iload X20 hx 85 (hb hby at_83) rfl rfl ?_
    refine g_iconst X20 hx 86 (4 : Int32) (hb hby at_85) (by decide) rfl ?_
    refine g_iushr X20 hx 87 ((sh.toUInt32 >>> ((4 : Int32) &&& 31).toUInt32).toInt32) (hb hby at_86) rfl rfl ?_
    refine g_iconst X20 hx 88 (1 : Int32) (hb hby at_87) (by decide) rfl ?_
    refine g_iand X20 hx 89 (((sh.toUInt32 >>> ((4 : Int32) &&& 31).toUInt32).toInt32) &&& (1 : Int32)) (hb hby at_88) rfl rfl ?_
    by_cases hc21 : (((sh.toUInt32 >>> ((4 : Int32) &&& 31).toUInt32).toInt32) &&& (1 : Int32)) = (0 : Int32)
    · refine g_ifT X20 hx 99 (hb hby at_89) ((if0 _ _).trans (teq hc21).1) (by decide) (by decide) ?_
      have hq0 : ¬ (ps &&& (2147483647 : Int32)) < 0 := own_nn ps
      generalize (ps &&& (2147483647 : Int32)) = q at hq0 ⊢
      refine g_aload X20 hx 101 (hb hby at_99) rfl rfl rfl ?_
      refine g_iload X20 hx 103 (hb hby at_101) rfl rfl ?_
      refine g_callV X20 hx 106 hZ hown (own_w hw 24 rfl) (own_w hw 25 rfl) (own_w hw 27 rfl) (own_w hw 26 rfl) (own_w hw 3 rfl) (own_w hw 28 rfl) (by decide) b19 E_b19 [(.int q)] [] (rm3 l Z a0 hw b19 bb q lp (2 : Int32) [v0, v1] k16 T20.heap n0 Z20 F1_b19 F2_b19 V_bb hlp.1 hlp.2 hq0) rfl 0 (by decide) (by decide) (by decide) (by decide) (by rw [hml]; rfl) (lenOf own_pd1 rfl) (hb hby at_103) rfl (Nat.le_of_eq rfl) rfl (fun v22 T22 L22 X22 hQ22 => ?_)
      obtain ⟨rfl, N22q, e22⟩ := hQ22
      have N22 := Fr.app N20 N22q
      show Go p e below _ _ T22 (mkF m 106 #[.val (.int v0), .val (.int v1), .val (.int v2), .val (.int v3), .val (.int sh), .val (.int ps), .val (.int (2 : Int32)), .val (.int lp), .val (.ref b16), .val (.ref b19), .val (.int q), .unset, .unset] [(.int ([v0, v1].getD (own_j (2 : Int32) lp q).toNatClampNeg 0))])
      refine g_istore X22 hx 108 #[.val (.int v0), .val (.int v1), .val (.int v2), .val (.int v3), .val (.int sh), .val (.int ps), .val (.int (2 : Int32)), .val (.int lp), .val (.ref b16), .val (.ref b19), .val (.int q), .val (.int ([v0, v1].getD (own_j (2 : Int32) lp q).toNatClampNeg 0)), .unset] (hb hby at_106) rfl rfl ?_
      refine g_iload X22 hx 110 (hb hby at_108) rfl rfl ?_
      refine g_iload X22 hx 112 (hb hby at_110) rfl rfl ?_
      by_cases hc23 : q < (2 : Int32)
      · refine g_icF X22 hx 115 (hb hby at_112) (tlt hc23).2.1 rfl ?_
        refine g_iload X22 hx 117 (hb hby at_115) rfl rfl ?_
        refine g_aload X22 hx 119 (hb hby at_117) rfl rfl rfl ?_
        refine g_iload X22 hx 121 (hb hby at_119) rfl rfl ?_
        refine g_iaload X22 hx 122 hZ e22 V_b16 ⟨hq0, hc23⟩ (own_getD [v0, v1] _) (hb hby at_121) rfl ?_
        have hk24 : ([v0, v1].getD (own_j (2 : Int32) lp q).toNatClampNeg 0) = ([v0, v1].getD q.toNatClampNeg 0) := by rw [show own_j (2 : Int32) lp q = q from if_pos hc23]
        refine g_icF X22 hx 125 (hb hby at_122) (teq hk24).2 rfl ?_
        refine g_iconst X22 hx 126 (1 : Int32) (hb hby at_125) (by decide) rfl ?_
        refine g_goto X22 hx 130 (hb hby at_126) (by decide) (by decide) ?_
        exact g_retZ X22 hx hret hlk rfl (hb hby at_130) (by decide) (by decide) ⟨rfl, N22⟩
      · refine g_icT X22 hx 131 (hb hby at_112) (flt hc23).2.1 (by decide) (by decide) ?_
        refine g_iload X22 hx 133 (hb hby at_131) rfl rfl ?_
        refine g_iload X22 hx 135 (hb hby at_133) rfl rfl ?_
        refine g_isub X22 hx 136 ((2 : Int32) - lp) (hb hby at_135) rfl rfl ?_
        refine g_istore X22 hx 138 #[.val (.int v0), .val (.int v1), .val (.int v2), .val (.int v3), .val (.int sh), .val (.int ps), .val (.int (2 : Int32)), .val (.int lp), .val (.ref b16), .val (.ref b19), .val (.int q), .val (.int ([v0, v1].getD (own_j (2 : Int32) lp q).toNatClampNeg 0)), .val (.int ((2 : Int32) - lp))] (hb hby at_136) rfl rfl ?_
        refine g_iload X22 hx 140 (hb hby at_138) rfl rfl ?_
        refine g_aload X22 hx 142 (hb hby at_140) rfl rfl rfl ?_
        refine g_iload X22 hx 144 (hb hby at_142) rfl rfl ?_
        refine g_iload X22 hx 146 (hb hby at_144) rfl rfl ?_
        refine g_isub X22 hx 147 (q - ((2 : Int32) - lp)) (hb hby at_146) rfl rfl ?_
        refine g_callV X22 hx 150 hZ hown (own_w hw 24 rfl) (own_w hw 25 rfl) (own_w hw 27 rfl) (own_w hw 26 rfl) (own_w hw 3 rfl) (own_w hw 28 rfl) (by decide) b19 E_b19 [(.int (q - ((2 : Int32) - lp)))] [(.int ([v0, v1].getD (own_j (2 : Int32) lp q).toNatClampNeg 0))] (rm3 l Z a0 hw b19 bb (q - ((2 : Int32) - lp)) lp (2 : Int32) [v0, v1] k16 T20.heap n0 Z20 F1_b19 F2_b19 V_bb hlp.1 hlp.2 (own_jper (2 : Int32) lp q hlp.1 hlp.2 hq0 hc23).1) e22 1 (by decide) (by decide) (by decide) (by decide) (by rw [hml]; rfl) (lenOf own_pd1 rfl) (hb hby at_147) rfl (Nat.le_of_eq rfl) rfl (fun v25 T25 L25 X25 hQ25 => ?_)
        obtain ⟨rfl, N25q, e25⟩ := hQ25
        have N25 := Fr.app N22 N25q
        show Go p e below _ _ T25 (mkF m 150 #[.val (.int v0), .val (.int v1), .val (.int v2), .val (.int v3), .val (.int sh), .val (.int ps), .val (.int (2 : Int32)), .val (.int lp), .val (.ref b16), .val (.ref b19), .val (.int q), .val (.int ([v0, v1].getD (own_j (2 : Int32) lp q).toNatClampNeg 0)), .val (.int ((2 : Int32) - lp))] [(.int ([v0, v1].getD (own_j (2 : Int32) lp (q - ((2 : Int32) - lp))).toNatClampNeg 0)), (.int ([v0, v1].getD (own_j (2 : Int32) lp q).toNatClampNeg 0))])
        have hk26 : ([v0, v1].getD (own_j (2 : Int32) lp q).toNatClampNeg 0) = ([v0, v1].getD (own_j (2 : Int32) lp (q - ((2 : Int32) - lp))).toNatClampNeg 0) := by rw [(own_jper (2 : Int32) lp q hlp.1 hlp.2 hq0 hc23).2]
        refine g_icF X25 hx 153 (hb hby at_150) (teq hk26).2 rfl ?_
        refine g_iconst X25 hx 154 (1 : Int32) (hb hby at_153) (by decide) rfl ?_
        refine g_goto X25 hx 158 (hb hby at_154) (by decide) (by decide) ?_
        exact g_retZ X25 hx hret hlk rfl (hb hby at_158) (by decide) (by decide) ⟨rfl, N25⟩
    · refine g_ifF X20 hx 92 (hb hby at_89) ((if0 _ _).trans (feq hc21).1) rfl ?_
      refine g_iload X20 hx 94 (hb hby at_92) rfl rfl ?_
      refine g_bipush X20 hx 96 (15 : Int32) (hb hby at_94) (by decide) rfl ?_
      refine g_iand X20 hx 97 ((ps &&& (2147483647 : Int32)) &&& (15 : Int32)) (hb hby at_96) rfl rfl ?_
      refine g_istore X20 hx 99 #[.val (.int v0), .val (.int v1), .val (.int v2), .val (.int v3), .val (.int sh), .val (.int ps), .val (.int (2 : Int32)), .val (.int lp), .val (.ref b16), .val (.ref b19), .val (.int ((ps &&& (2147483647 : Int32)) &&& (15 : Int32))), .unset, .unset] (hb hby at_97) rfl rfl ?_
      have hq0 : ¬ ((ps &&& (2147483647 : Int32)) &&& (15 : Int32)) < 0 := own_nnm _ 15 (by decide)
      generalize ((ps &&& (2147483647 : Int32)) &&& (15 : Int32)) = q at hq0 ⊢
      refine g_aload X20 hx 101 (hb hby at_99) rfl rfl rfl ?_
      refine g_iload X20 hx 103 (hb hby at_101) rfl rfl ?_
      refine g_callV X20 hx 106 hZ hown (own_w hw 24 rfl) (own_w hw 25 rfl) (own_w hw 27 rfl) (own_w hw 26 rfl) (own_w hw 3 rfl) (own_w hw 28 rfl) (by decide) b19 E_b19 [(.int q)] [] (rm3 l Z a0 hw b19 bb q lp (2 : Int32) [v0, v1] k16 T20.heap n0 Z20 F1_b19 F2_b19 V_bb hlp.1 hlp.2 hq0) rfl 0 (by decide) (by decide) (by decide) (by decide) (by rw [hml]; rfl) (lenOf own_pd1 rfl) (hb hby at_103) rfl (Nat.le_of_eq rfl) rfl (fun v27 T27 L27 X27 hQ27 => ?_)
      obtain ⟨rfl, N27q, e27⟩ := hQ27
      have N27 := Fr.app N20 N27q
      show Go p e below _ _ T27 (mkF m 106 #[.val (.int v0), .val (.int v1), .val (.int v2), .val (.int v3), .val (.int sh), .val (.int ps), .val (.int (2 : Int32)), .val (.int lp), .val (.ref b16), .val (.ref b19), .val (.int q), .unset, .unset] [(.int ([v0, v1].getD (own_j (2 : Int32) lp q).toNatClampNeg 0))])
      refine g_istore X27 hx 108 #[.val (.int v0), .val (.int v1), .val (.int v2), .val (.int v3), .val (.int sh), .val (.int ps), .val (.int (2 : Int32)), .val (.int lp), .val (.ref b16), .val (.ref b19), .val (.int q), .val (.int ([v0, v1].getD (own_j (2 : Int32) lp q).toNatClampNeg 0)), .unset] (hb hby at_106) rfl rfl ?_
      refine g_iload X27 hx 110 (hb hby at_108) rfl rfl ?_
      refine g_iload X27 hx 112 (hb hby at_110) rfl rfl ?_
      by_cases hc28 : q < (2 : Int32)
      · refine g_icF X27 hx 115 (hb hby at_112) (tlt hc28).2.1 rfl ?_
        refine g_iload X27 hx 117 (hb hby at_115) rfl rfl ?_
        refine g_aload X27 hx 119 (hb hby at_117) rfl rfl rfl ?_
        refine g_iload X27 hx 121 (hb hby at_119) rfl rfl ?_
        refine g_iaload X27 hx 122 hZ e27 V_b16 ⟨hq0, hc28⟩ (own_getD [v0, v1] _) (hb hby at_121) rfl ?_
        have hk29 : ([v0, v1].getD (own_j (2 : Int32) lp q).toNatClampNeg 0) = ([v0, v1].getD q.toNatClampNeg 0) := by rw [show own_j (2 : Int32) lp q = q from if_pos hc28]
        refine g_icF X27 hx 125 (hb hby at_122) (teq hk29).2 rfl ?_
        refine g_iconst X27 hx 126 (1 : Int32) (hb hby at_125) (by decide) rfl ?_
        refine g_goto X27 hx 130 (hb hby at_126) (by decide) (by decide) ?_
        exact g_retZ X27 hx hret hlk rfl (hb hby at_130) (by decide) (by decide) ⟨rfl, N27⟩
      · refine g_icT X27 hx 131 (hb hby at_112) (flt hc28).2.1 (by decide) (by decide) ?_
        refine g_iload X27 hx 133 (hb hby at_131) rfl rfl ?_
        refine g_iload X27 hx 135 (hb hby at_133) rfl rfl ?_
        refine g_isub X27 hx 136 ((2 : Int32) - lp) (hb hby at_135) rfl rfl ?_
        refine g_istore X27 hx 138 #[.val (.int v0), .val (.int v1), .val (.int v2), .val (.int v3), .val (.int sh), .val (.int ps), .val (.int (2 : Int32)), .val (.int lp), .val (.ref b16), .val (.ref b19), .val (.int q), .val (.int ([v0, v1].getD (own_j (2 : Int32) lp q).toNatClampNeg 0)), .val (.int ((2 : Int32) - lp))] (hb hby at_136) rfl rfl ?_
        refine g_iload X27 hx 140 (hb hby at_138) rfl rfl ?_
        refine g_aload X27 hx 142 (hb hby at_140) rfl rfl rfl ?_
        refine g_iload X27 hx 144 (hb hby at_142) rfl rfl ?_
        refine g_iload X27 hx 146 (hb hby at_144) rfl rfl ?_
        refine g_isub X27 hx 147 (q - ((2 : Int32) - lp)) (hb hby at_146) rfl rfl ?_
        refine g_callV X27 hx 150 hZ hown (own_w hw 24 rfl) (own_w hw 25 rfl) (own_w hw 27 rfl) (own_w hw 26 rfl) (own_w hw 3 rfl) (own_w hw 28 rfl) (by decide) b19 E_b19 [(.int (q - ((2 : Int32) - lp)))] [(.int ([v0, v1].getD (own_j (2 : Int32) lp q).toNatClampNeg 0))] (rm3 l Z a0 hw b19 bb (q - ((2 : Int32) - lp)) lp (2 : Int32) [v0, v1] k16 T20.heap n0 Z20 F1_b19 F2_b19 V_bb hlp.1 hlp.2 (own_jper (2 : Int32) lp q hlp.1 hlp.2 hq0 hc28).1) e27 1 (by decide) (by decide) (by decide) (by decide) (by rw [hml]; rfl) (lenOf own_pd1 rfl) (hb hby at_147) rfl (Nat.le_of_eq rfl) rfl (fun v30 T30 L30 X30 hQ30 => ?_)
        obtain ⟨rfl, N30q, e30⟩ := hQ30
        have N30 := Fr.app N27 N30q
        show Go p e below _ _ T30 (mkF m 150 #[.val (.int v0), .val (.int v1), .val (.int v2), .val (.int v3), .val (.int sh), .val (.int ps), .val (.int (2 : Int32)), .val (.int lp), .val (.ref b16), .val (.ref b19), .val (.int q), .val (.int ([v0, v1].getD (own_j (2 : Int32) lp q).toNatClampNeg 0)), .val (.int ((2 : Int32) - lp))] [(.int ([v0, v1].getD (own_j (2 : Int32) lp (q - ((2 : Int32) - lp))).toNatClampNeg 0)), (.int ([v0, v1].getD (own_j (2 : Int32) lp q).toNatClampNeg 0))])
        have hk31 : ([v0, v1].getD (own_j (2 : Int32) lp q).toNatClampNeg 0) = ([v0, v1].getD (own_j (2 : Int32) lp (q - ((2 : Int32) - lp))).toNatClampNeg 0) := by rw [(own_jper (2 : Int32) lp q hlp.1 hlp.2 hq0 hc28).2]
        refine g_icF X30 hx 153 (hb hby at_150) (teq hk31).2 rfl ?_
        refine g_iconst X30 hx 154 (1 : Int32) (hb hby at_153) (by decide) rfl ?_
        refine g_goto X30 hx 158 (hb hby at_154) (by decide) (by decide) ?_
        exact g_retZ X30 hx hret hlk rfl (hb hby at_158) (by decide) (by decide) ⟨rfl, N30⟩
  · refine g_istore X0 hx 8 #[.val (.int v0), .val (.int v1), .val (.int v2), .val (.int v3), .val (.int sh), .val (.int ps), .val (.int (3 : Int32)), .unset, .unset, .unset, .unset, .unset, .unset] (hb hby at_6) rfl rfl ?_
    refine g_iload X0 hx 10 (hb hby at_8) rfl rfl ?_
    refine g_iconst X0 hx 11 (2 : Int32) (hb hby at_10) (by decide) rfl ?_
    refine g_iushr X0 hx 12 ((sh.toUInt32 >>> ((2 : Int32) &&& 31).toUInt32).toInt32) (hb hby at_11) rfl rfl ?_
    refine g_iconst X0 hx 13 (3 : Int32) (hb hby at_12) (by decide) rfl ?_
    refine g_iand X0 hx 14 (((sh.toUInt32 >>> ((2 : Int32) &&& 31).toUInt32).toInt32) &&& (3 : Int32)) (hb hby at_13) rfl rfl ?_
    refine g_iload X0 hx 16 (hb hby at_14) rfl rfl ?_
    refine g_irem X0 hx 17 ((((sh.toUInt32 >>> ((2 : Int32) &&& 31).toUInt32).toInt32) &&& (3 : Int32)) % (3 : Int32)) (hb hby at_16) (by decide) rfl rfl ?_
    have hlp := own_modb _ (3 : Int32) (own_nnm ((sh.toUInt32 >>> ((2 : Int32) &&& 31).toUInt32).toInt32) 3 (by decide)) (by decide)
    generalize ((((sh.toUInt32 >>> ((2 : Int32) &&& 31).toUInt32).toInt32) &&& (3 : Int32)) % (3 : Int32)) = lp at hlp ⊢
    refine g_istore X0 hx 19 #[.val (.int v0), .val (.int v1), .val (.int v2), .val (.int v3), .val (.int sh), .val (.int ps), .val (.int (3 : Int32)), .val (.int lp), .unset, .unset, .unset, .unset, .unset] (hb hby at_17) rfl rfl ?_
    refine g_iload X0 hx 21 (hb hby at_19) rfl rfl ?_
    refine g_newPE X0 hx 23 hZ (own_w hw 0 rfl) e0 (hb hby at_21) (by decide) 3 (by decide) (by decide) (by decide) (by decide) "[I" (by decide) rfl (fun T32 h32 b32 k32 g32 X32 e32 E32 A32 I32 => ?_)
    have G_b32 : n0 ≤ b32 := Nat.le_trans Z0 (Nat.le_of_eq g32.symm)
    have Z32 : n0 ≤ h32.size := Nat.le_trans Z0 E32.1
    have E_b32 := I32
    have V_b32 : Arv Z h32 b32 k32 .int (3 : Int32) [(.int (0 : Int32)), (.int (0 : Int32)), (.int (0 : Int32))] (.int (0 : Int32)) := A32.pad (pad_rep [] (.int (0 : Int32)) 3)
    refine g_astore X32 hx 25 #[.val (.int v0), .val (.int v1), .val (.int v2), .val (.int v3), .val (.int sh), .val (.int ps), .val (.int (3 : Int32)), .val (.int lp), .val (.ref b32), .unset, .unset, .unset, .unset] (hb hby at_23) rfl rfl rfl ?_
    refine g_aload X32 hx 27 (hb hby at_25) rfl rfl rfl ?_
    refine g_iconst X32 hx 28 (0 : Int32) (hb hby at_27) (by decide) rfl ?_
    refine g_iloadN X32 hx 29 (hb hby at_28) rfl rfl ?_
    refine g_iastore X32 hx 30 hZ e32 V_b32 0 (by decide) ⟨by decide, by decide⟩ (Nat.le_of_ble_eq_true rfl) (hb hby at_29) rfl (fun T33 h33 X33 e33 W33 V33 => ?_)
    have E_b32 := E_b32.wr W33
    have V_b32 : Arv Z h33 b32 k32 .int (3 : Int32) [(.int v0), (.int (0 : Int32)), (.int (0 : Int32))] (.int (0 : Int32)) := V33
    have N33 := Fr.snoc X33 N0 G_b32
    have Z33 : n0 ≤ h33.size := by rw [W33.size]; exact Z32
    refine g_iload X33 hx 32 (hb hby at_30) rfl rfl ?_
    refine g_iconst X33 hx 33 (1 : Int32) (hb hby at_32) (by decide) rfl ?_
    refine g_icF X33 hx 36 (hb hby at_33) (by decide) rfl ?_
    refine g_aload X33 hx 38 (hb hby at_36) rfl rfl rfl ?_
    refine g_iconst X33 hx 39 (1 : Int32) (hb hby at_38) (by decide) rfl ?_
    refine g_iloadN X33 hx 40 (hb hby at_39) rfl rfl ?_
    refine g_iastore X33 hx 41 hZ e33 V_b32 1 (by decide) ⟨by decide, by decide⟩ (Nat.le_of_ble_eq_true rfl) (hb hby at_40) rfl (fun T34 h34 X34 e34 W34 V34 => ?_)
    have E_b32 := E_b32.wr W34
    have V_b32 : Arv Z h34 b32 k32 .int (3 : Int32) [(.int v0), (.int v1), (.int (0 : Int32))] (.int (0 : Int32)) := V34
    have N34 := Fr.snoc X34 N33 G_b32
    have Z34 : n0 ≤ h34.size := by rw [W34.size]; exact Z33
    refine g_iload X34 hx 43 (hb hby at_41) rfl rfl ?_
    refine g_iconst X34 hx 44 (2 : Int32) (hb hby at_43) (by decide) rfl ?_
    refine g_icF X34 hx 47 (hb hby at_44) (by decide) rfl ?_
    refine g_aload X34 hx 49 (hb hby at_47) rfl rfl rfl ?_
    refine g_iconst X34 hx 50 (2 : Int32) (hb hby at_49) (by decide) rfl ?_
    refine g_iloadN X34 hx 51 (hb hby at_50) rfl rfl ?_
    refine g_iastore X34 hx 52 hZ e34 V_b32 2 (by decide) ⟨by decide, by decide⟩ (Nat.le_of_ble_eq_true rfl) (hb hby at_51) rfl (fun T35 h35 X35 e35 W35 V35 => ?_)
    have E_b32 := E_b32.wr W35
    have V_b32 : Arv Z h35 b32 k32 .int (3 : Int32) [(.int v0), (.int v1), (.int v2)] (.int (0 : Int32)) := V35
    have N35 := Fr.snoc X35 N34 G_b32
    have Z35 : n0 ≤ h35.size := by rw [W35.size]; exact Z34
    refine g_iload X35 hx 54 (hb hby at_52) rfl rfl ?_
    refine g_iconst X35 hx 55 (3 : Int32) (hb hby at_54) (by decide) rfl ?_
    refine g_icT X35 hx 63 (hb hby at_55) (by decide) (by decide) (by decide) ?_
    refine g_new X35 hx 66 hZ hown (own_w hw 1 rfl) (own_w hw 2 rfl) (own_w hw 3 rfl) e35 (hb hby at_63) (by decide) (by decide) rfl (fun T36 h36 b36 g36 X36 e36 E36 A36 D36 => ?_)
    have ne_b32_b36 : b32 ≠ b36 := Nat.ne_of_lt (Nat.lt_of_lt_of_le E_b32.lt (Nat.le_of_eq g36.symm))
    have E_b32 := E_b32.ext E36
    have V_b32 := V_b32.ext E36
    have G_b36 : n0 ≤ b36 := Nat.le_trans Z35 (Nat.le_of_eq g36.symm)
    have Z36 : n0 ≤ h36.size := Nat.le_trans Z35 E36.1
    have E_b36 : Exa Z h36 b36 "com/example/guarded_twins/guardedtwins/model/Lasso" := A36
    have F_b36_values : Fld Z h36 b36 "com/example/guarded_twins/guardedtwins/model/Lasso" "values" "[I" .null := D36 (Or.inr (own_w hw 20 rfl)) (ty := (.array .int)) (by decide)
    have F_b36_loop : Fld Z h36 b36 "com/example/guarded_twins/guardedtwins/model/Lasso" "loop" "I" (.int (0 : Int32)) := D36 (Or.inr (own_w hw 22 rfl)) (ty := .int) (by decide)
    refine g_dup X36 hx 67 (hb hby at_66) rfl rfl ?_
    refine g_aload X36 hx 69 (hb hby at_67) rfl rfl rfl ?_
    refine g_iload X36 hx 71 (hb hby at_69) rfl rfl ?_
    refine g_callI X36 hx 74 hZ rfl hown (own_w hw 4 rfl) (own_w hw 5 rfl) (own_w hw 3 rfl) (own_w hw 6 rfl) (by decide) b36 [(.ref b32), (.int lp)] [(.ref b36)] (rm1 l Z a0 hw b36 b32 lp (3 : Int32) [v0, v1, v2] k32 _ _ h36 n0 Z36 G_b36 E_b36 F_b36_values F_b36_loop V_b32 E_b32 hlp.1 hlp.2 (by decide)) e36 1 (by decide) (by decide) (by decide) (by decide) (by rw [hml]; rfl) (lenOf own_pd0 rfl) (hb hby at_71) rfl (Nat.le_of_eq rfl) rfl (fun v37 T37 L37 X37 hQ37 => ?_)
    obtain ⟨rfl, N37q, K37, E37x, bb, F1_b36, F2_b36, V_bb, ne_bb⟩ := hQ37
    have N37 := Fr.app N35 N37q
    have E_b32 := E_b32.keep K37
    have V_b32 := V_b32.keep K37 (ninS ne_b32_b36 nin0)
    have E_b36 := E_b36.keep K37
    have Z37 := Nat.le_trans Z36 K37.1
    show Go p e below _ _ T37 (mkF m 74 #[.val (.int v0), .val (.int v1), .val (.int v2), .val (.int v3), .val (.int sh), .val (.int ps), .val (.int (3 : Int32)), .val (.int lp), .val (.ref b32), .unset, .unset, .unset, .unset] [(.ref b36)])
    refine g_astore X37 hx 76 #[.val (.int v0), .val (.int v1), .val (.int v2), .val (.int v3), .val (.int sh), .val (.int ps), .val (.int (3 : Int32)), .val (.int lp), .val (.ref b32), .val (.ref b36), .unset, .unset, .unset] (hb hby at_74) rfl rfl rfl ?_
    refine g_iload X37 hx 78 (hb hby at_76) rfl rfl ?_
    refine g_ldcI X37 hx 80 hZ hown (own_w hw 23 rfl) (hb hby at_78) rfl ?_
    refine g_iand X37 hx 81 (ps &&& (2147483647 : Int32)) (hb hby at_80) rfl rfl ?_
    refine g_istore X37 hx 83 #[.val (.int v0), .val (.int v1), .val (.int v2), .val (.int v3), .val (.int sh), .val (.int ps), .val (.int (3 : Int32)), .val (.int lp), .val (.ref b32), .val (.ref b36), .val (.int (ps &&& (2147483647 : Int32))), .unset, .unset] (hb hby at_81) rfl rfl ?_
    refine g_iload X37 hx 85 (hb hby at_83) rfl rfl ?_
    refine g_iconst X37 hx 86 (4 : Int32) (hb hby at_85) (by decide) rfl ?_
    refine g_iushr X37 hx 87 ((sh.toUInt32 >>> ((4 : Int32) &&& 31).toUInt32).toInt32) (hb hby at_86) rfl rfl ?_
    refine g_iconst X37 hx 88 (1 : Int32) (hb hby at_87) (by decide) rfl ?_
    refine g_iand X37 hx 89 (((sh.toUInt32 >>> ((4 : Int32) &&& 31).toUInt32).toInt32) &&& (1 : Int32)) (hb hby at_88) rfl rfl ?_
    by_cases hc38 : (((sh.toUInt32 >>> ((4 : Int32) &&& 31).toUInt32).toInt32) &&& (1 : Int32)) = (0 : Int32)
    · refine g_ifT X37 hx 99 (hb hby at_89) ((if0 _ _).trans (teq hc38).1) (by decide) (by decide) ?_
      have hq0 : ¬ (ps &&& (2147483647 : Int32)) < 0 := own_nn ps
      generalize (ps &&& (2147483647 : Int32)) = q at hq0 ⊢
      refine g_aload X37 hx 101 (hb hby at_99) rfl rfl rfl ?_
      refine g_iload X37 hx 103 (hb hby at_101) rfl rfl ?_
      refine g_callV X37 hx 106 hZ hown (own_w hw 24 rfl) (own_w hw 25 rfl) (own_w hw 27 rfl) (own_w hw 26 rfl) (own_w hw 3 rfl) (own_w hw 28 rfl) (by decide) b36 E_b36 [(.int q)] [] (rm3 l Z a0 hw b36 bb q lp (3 : Int32) [v0, v1, v2] k32 T37.heap n0 Z37 F1_b36 F2_b36 V_bb hlp.1 hlp.2 hq0) rfl 0 (by decide) (by decide) (by decide) (by decide) (by rw [hml]; rfl) (lenOf own_pd1 rfl) (hb hby at_103) rfl (Nat.le_of_eq rfl) rfl (fun v39 T39 L39 X39 hQ39 => ?_)
      obtain ⟨rfl, N39q, e39⟩ := hQ39
      have N39 := Fr.app N37 N39q
      show Go p e below _ _ T39 (mkF m 106 #[.val (.int v0), .val (.int v1), .val (.int v2), .val (.int v3), .val (.int sh), .val (.int ps), .val (.int (3 : Int32)), .val (.int lp), .val (.ref b32), .val (.ref b36), .val (.int q), .unset, .unset] [(.int ([v0, v1, v2].getD (own_j (3 : Int32) lp q).toNatClampNeg 0))])
      refine g_istore X39 hx 108 #[.val (.int v0), .val (.int v1), .val (.int v2), .val (.int v3), .val (.int sh), .val (.int ps), .val (.int (3 : Int32)), .val (.int lp), .val (.ref b32), .val (.ref b36), .val (.int q), .val (.int ([v0, v1, v2].getD (own_j (3 : Int32) lp q).toNatClampNeg 0)), .unset] (hb hby at_106) rfl rfl ?_
      refine g_iload X39 hx 110 (hb hby at_108) rfl rfl ?_
      refine g_iload X39 hx 112 (hb hby at_110) rfl rfl ?_
      by_cases hc40 : q < (3 : Int32)
      · refine g_icF X39 hx 115 (hb hby at_112) (tlt hc40).2.1 rfl ?_
        refine g_iload X39 hx 117 (hb hby at_115) rfl rfl ?_
        refine g_aload X39 hx 119 (hb hby at_117) rfl rfl rfl ?_
        refine g_iload X39 hx 121 (hb hby at_119) rfl rfl ?_
        refine g_iaload X39 hx 122 hZ e39 V_b32 ⟨hq0, hc40⟩ (own_getD [v0, v1, v2] _) (hb hby at_121) rfl ?_
        have hk41 : ([v0, v1, v2].getD (own_j (3 : Int32) lp q).toNatClampNeg 0) = ([v0, v1, v2].getD q.toNatClampNeg 0) := by rw [show own_j (3 : Int32) lp q = q from if_pos hc40]
        refine g_icF X39 hx 125 (hb hby at_122) (teq hk41).2 rfl ?_
        refine g_iconst X39 hx 126 (1 : Int32) (hb hby at_125) (by decide) rfl ?_
        refine g_goto X39 hx 130 (hb hby at_126) (by decide) (by decide) ?_
        exact g_retZ X39 hx hret hlk rfl (hb hby at_130) (by decide) (by decide) ⟨rfl, N39⟩
      · refine g_icT X39 hx 131 (hb hby at_112) (flt hc40).2.1 (by decide) (by decide) ?_
        refine g_iload X39 hx 133 (hb hby at_131) rfl rfl ?_
        refine g_iload X39 hx 135 (hb hby at_133) rfl rfl ?_
        refine g_isub X39 hx 136 ((3 : Int32) - lp) (hb hby at_135) rfl rfl ?_
        refine g_istore X39 hx 138 #[.val (.int v0), .val (.int v1), .val (.int v2), .val (.int v3), .val (.int sh), .val (.int ps), .val (.int (3 : Int32)), .val (.int lp), .val (.ref b32), .val (.ref b36), .val (.int q), .val (.int ([v0, v1, v2].getD (own_j (3 : Int32) lp q).toNatClampNeg 0)), .val (.int ((3 : Int32) - lp))] (hb hby at_136) rfl rfl ?_
        refine g_iload X39 hx 140 (hb hby at_138) rfl rfl ?_
        refine g_aload X39 hx 142 (hb hby at_140) rfl rfl rfl ?_
        refine g_iload X39 hx 144 (hb hby at_142) rfl rfl ?_
        refine g_iload X39 hx 146 (hb hby at_144) rfl rfl ?_
        refine g_isub X39 hx 147 (q - ((3 : Int32) - lp)) (hb hby at_146) rfl rfl ?_
        refine g_callV X39 hx 150 hZ hown (own_w hw 24 rfl) (own_w hw 25 rfl) (own_w hw 27 rfl) (own_w hw 26 rfl) (own_w hw 3 rfl) (own_w hw 28 rfl) (by decide) b36 E_b36 [(.int (q - ((3 : Int32) - lp)))] [(.int ([v0, v1, v2].getD (own_j (3 : Int32) lp q).toNatClampNeg 0))] (rm3 l Z a0 hw b36 bb (q - ((3 : Int32) - lp)) lp (3 : Int32) [v0, v1, v2] k32 T37.heap n0 Z37 F1_b36 F2_b36 V_bb hlp.1 hlp.2 (own_jper (3 : Int32) lp q hlp.1 hlp.2 hq0 hc40).1) e39 1 (by decide) (by decide) (by decide) (by decide) (by rw [hml]; rfl) (lenOf own_pd1 rfl) (hb hby at_147) rfl (Nat.le_of_eq rfl) rfl (fun v42 T42 L42 X42 hQ42 => ?_)
        obtain ⟨rfl, N42q, e42⟩ := hQ42
        have N42 := Fr.app N39 N42q
        show Go p e below _ _ T42 (mkF m 150 #[.val (.int v0), .val (.int v1), .val (.int v2), .val (.int v3), .val (.int sh), .val (.int ps), .val (.int (3 : Int32)), .val (.int lp), .val (.ref b32), .val (.ref b36), .val (.int q), .val (.int ([v0, v1, v2].getD (own_j (3 : Int32) lp q).toNatClampNeg 0)), .val (.int ((3 : Int32) - lp))] [(.int ([v0, v1, v2].getD (own_j (3 : Int32) lp (q - ((3 : Int32) - lp))).toNatClampNeg 0)), (.int ([v0, v1, v2].getD (own_j (3 : Int32) lp q).toNatClampNeg 0))])
        have hk43 : ([v0, v1, v2].getD (own_j (3 : Int32) lp q).toNatClampNeg 0) = ([v0, v1, v2].getD (own_j (3 : Int32) lp (q - ((3 : Int32) - lp))).toNatClampNeg 0) := by rw [(own_jper (3 : Int32) lp q hlp.1 hlp.2 hq0 hc40).2]
        refine g_icF X42 hx 153 (hb hby at_150) (teq hk43).2 rfl ?_
        refine g_iconst X42 hx 154 (1 : Int32) (hb hby at_153) (by decide) rfl ?_
        refine g_goto X42 hx 158 (hb hby at_154) (by decide) (by decide) ?_
        exact g_retZ X42 hx hret hlk rfl (hb hby at_158) (by decide) (by decide) ⟨rfl, N42⟩
    · refine g_ifF X37 hx 92 (hb hby at_89) ((if0 _ _).trans (feq hc38).1) rfl ?_
      refine g_iload X37 hx 94 (hb hby at_92) rfl rfl ?_
      refine g_bipush X37 hx 96 (15 : Int32) (hb hby at_94) (by decide) rfl ?_
      refine g_iand X37 hx 97 ((ps &&& (2147483647 : Int32)) &&& (15 : Int32)) (hb hby at_96) rfl rfl ?_
      refine g_istore X37 hx 99 #[.val (.int v0), .val (.int v1), .val (.int v2), .val (.int v3), .val (.int sh), .val (.int ps), .val (.int (3 : Int32)), .val (.int lp), .val (.ref b32), .val (.ref b36), .val (.int ((ps &&& (2147483647 : Int32)) &&& (15 : Int32))), .unset, .unset] (hb hby at_97) rfl rfl ?_
      have hq0 : ¬ ((ps &&& (2147483647 : Int32)) &&& (15 : Int32)) < 0 := own_nnm _ 15 (by decide)
      generalize ((ps &&& (2147483647 : Int32)) &&& (15 : Int32)) = q at hq0 ⊢
      refine g_aload X37 hx 101 (hb hby at_99) rfl rfl rfl ?_
      refine g_iload X37 hx 103 (hb hby at_101) rfl rfl ?_
      refine g_callV X37 hx 106 hZ hown (own_w hw 24 rfl) (own_w hw 25 rfl) (own_w hw 27 rfl) (own_w hw 26 rfl) (own_w hw 3 rfl) (own_w hw 28 rfl) (by decide) b36 E_b36 [(.int q)] [] (rm3 l Z a0 hw b36 bb q lp (3 : Int32) [v0, v1, v2] k32 T37.heap n0 Z37 F1_b36 F2_b36 V_bb hlp.1 hlp.2 hq0) rfl 0 (by decide) (by decide) (by decide) (by decide) (by rw [hml]; rfl) (lenOf own_pd1 rfl) (hb hby at_103) rfl (Nat.le_of_eq rfl) rfl (fun v44 T44 L44 X44 hQ44 => ?_)
      obtain ⟨rfl, N44q, e44⟩ := hQ44
      have N44 := Fr.app N37 N44q
      show Go p e below _ _ T44 (mkF m 106 #[.val (.int v0), .val (.int v1), .val (.int v2), .val (.int v3), .val (.int sh), .val (.int ps), .val (.int (3 : Int32)), .val (.int lp), .val (.ref b32), .val (.ref b36), .val (.int q), .unset, .unset] [(.int ([v0, v1, v2].getD (own_j (3 : Int32) lp q).toNatClampNeg 0))])
      refine g_istore X44 hx 108 #[.val (.int v0), .val (.int v1), .val (.int v2), .val (.int v3), .val (.int sh), .val (.int ps), .val (.int (3 : Int32)), .val (.int lp), .val (.ref b32), .val (.ref b36), .val (.int q), .val (.int ([v0, v1, v2].getD (own_j (3 : Int32) lp q).toNatClampNeg 0)), .unset] (hb hby at_106) rfl rfl ?_
      refine g_iload X44 hx 110 (hb hby at_108) rfl rfl ?_
      refine g_iload X44 hx 112 (hb hby at_110) rfl rfl ?_
      by_cases hc45 : q < (3 : Int32)
      · refine g_icF X44 hx 115 (hb hby at_112) (tlt hc45).2.1 rfl ?_
        refine g_iload X44 hx 117 (hb hby at_115) rfl rfl ?_
        refine g_aload X44 hx 119 (hb hby at_117) rfl rfl rfl ?_
        refine g_iload X44 hx 121 (hb hby at_119) rfl rfl ?_
        refine g_iaload X44 hx 122 hZ e44 V_b32 ⟨hq0, hc45⟩ (own_getD [v0, v1, v2] _) (hb hby at_121) rfl ?_
        have hk46 : ([v0, v1, v2].getD (own_j (3 : Int32) lp q).toNatClampNeg 0) = ([v0, v1, v2].getD q.toNatClampNeg 0) := by rw [show own_j (3 : Int32) lp q = q from if_pos hc45]
        refine g_icF X44 hx 125 (hb hby at_122) (teq hk46).2 rfl ?_
        refine g_iconst X44 hx 126 (1 : Int32) (hb hby at_125) (by decide) rfl ?_
        refine g_goto X44 hx 130 (hb hby at_126) (by decide) (by decide) ?_
        exact g_retZ X44 hx hret hlk rfl (hb hby at_130) (by decide) (by decide) ⟨rfl, N44⟩
      · refine g_icT X44 hx 131 (hb hby at_112) (flt hc45).2.1 (by decide) (by decide) ?_
        refine g_iload X44 hx 133 (hb hby at_131) rfl rfl ?_
        refine g_iload X44 hx 135 (hb hby at_133) rfl rfl ?_
        refine g_isub X44 hx 136 ((3 : Int32) - lp) (hb hby at_135) rfl rfl ?_
        refine g_istore X44 hx 138 #[.val (.int v0), .val (.int v1), .val (.int v2), .val (.int v3), .val (.int sh), .val (.int ps), .val (.int (3 : Int32)), .val (.int lp), .val (.ref b32), .val (.ref b36), .val (.int q), .val (.int ([v0, v1, v2].getD (own_j (3 : Int32) lp q).toNatClampNeg 0)), .val (.int ((3 : Int32) - lp))] (hb hby at_136) rfl rfl ?_
        refine g_iload X44 hx 140 (hb hby at_138) rfl rfl ?_
        refine g_aload X44 hx 142 (hb hby at_140) rfl rfl rfl ?_
        refine g_iload X44 hx 144 (hb hby at_142) rfl rfl ?_
        refine g_iload X44 hx 146 (hb hby at_144) rfl rfl ?_
        refine g_isub X44 hx 147 (q - ((3 : Int32) - lp)) (hb hby at_146) rfl rfl ?_
        refine g_callV X44 hx 150 hZ hown (own_w hw 24 rfl) (own_w hw 25 rfl) (own_w hw 27 rfl) (own_w hw 26 rfl) (own_w hw 3 rfl) (own_w hw 28 rfl) (by decide) b36 E_b36 [(.int (q - ((3 : Int32) - lp)))] [(.int ([v0, v1, v2].getD (own_j (3 : Int32) lp q).toNatClampNeg 0))] (rm3 l Z a0 hw b36 bb (q - ((3 : Int32) - lp)) lp (3 : Int32) [v0, v1, v2] k32 T37.heap n0 Z37 F1_b36 F2_b36 V_bb hlp.1 hlp.2 (own_jper (3 : Int32) lp q hlp.1 hlp.2 hq0 hc45).1) e44 1 (by decide) (by decide) (by decide) (by decide) (by rw [hml]; rfl) (lenOf own_pd1 rfl) (hb hby at_147) rfl (Nat.le_of_eq rfl) rfl (fun v47 T47 L47 X47 hQ47 => ?_)
        obtain ⟨rfl, N47q, e47⟩ := hQ47
        have N47 := Fr.app N44 N47q
        show Go p e below _ _ T47 (mkF m 150 #[.val (.int v0), .val (.int v1), .val (.int v2), .val (.int v3), .val (.int sh), .val (.int ps), .val (.int (3 : Int32)), .val (.int lp), .val (.ref b32), .val (.ref b36), .val (.int q), .val (.int ([v0, v1, v2].getD (own_j (3 : Int32) lp q).toNatClampNeg 0)), .val (.int ((3 : Int32) - lp))] [(.int ([v0, v1, v2].getD (own_j (3 : Int32) lp (q - ((3 : Int32) - lp))).toNatClampNeg 0)), (.int ([v0, v1, v2].getD (own_j (3 : Int32) lp q).toNatClampNeg 0))])
        have hk48 : ([v0, v1, v2].getD (own_j (3 : Int32) lp q).toNatClampNeg 0) = ([v0, v1, v2].getD (own_j (3 : Int32) lp (q - ((3 : Int32) - lp))).toNatClampNeg 0) := by rw [(own_jper (3 : Int32) lp q hlp.1 hlp.2 hq0 hc45).2]
        refine g_icF X47 hx 153 (hb hby at_150) (teq hk48).2 rfl ?_
        refine g_iconst X47 hx 154 (1 : Int32) (hb hby at_153) (by decide) rfl ?_
        refine g_goto X47 hx 158 (hb hby at_154) (by decide) (by decide) ?_
        exact g_retZ X47 hx hret hlk rfl (hb hby at_158) (by decide) (by decide) ⟨rfl, N47⟩
  · refine g_istore X0 hx 8 #[.val (.int v0), .val (.int v1), .val (.int v2), .val (.int v3), .val (.int sh), .val (.int ps), .val (.int (4 : Int32)), .unset, .unset, .unset, .unset, .unset, .unset] (hb hby at_6) rfl rfl ?_
    refine g_iload X0 hx 10 (hb hby at_8) rfl rfl ?_
    refine g_iconst X0 hx 11 (2 : Int32) (hb hby at_10) (by decide) rfl ?_
    refine g_iushr X0 hx 12 ((sh.toUInt32 >>> ((2 : Int32) &&& 31).toUInt32).toInt32) (hb hby at_11) rfl rfl ?_
    refine g_iconst X0 hx 13 (3 : Int32) (hb hby at_12) (by decide) rfl ?_
    refine g_iand X0 hx 14 (((sh.toUInt32 >>> ((2 : Int32) &&& 31).toUInt32).toInt32) &&& (3 : Int32)) (hb hby at_13) rfl rfl ?_
    refine g_iload X0 hx 16 (hb hby at_14) rfl rfl ?_
    refine g_irem X0 hx 17 ((((sh.toUInt32 >>> ((2 : Int32) &&& 31).toUInt32).toInt32) &&& (3 : Int32)) % (4 : Int32)) (hb hby at_16) (by decide) rfl rfl ?_
    have hlp := own_modb _ (4 : Int32) (own_nnm ((sh.toUInt32 >>> ((2 : Int32) &&& 31).toUInt32).toInt32) 3 (by decide)) (by decide)
    generalize ((((sh.toUInt32 >>> ((2 : Int32) &&& 31).toUInt32).toInt32) &&& (3 : Int32)) % (4 : Int32)) = lp at hlp ⊢
    refine g_istore X0 hx 19 #[.val (.int v0), .val (.int v1), .val (.int v2), .val (.int v3), .val (.int sh), .val (.int ps), .val (.int (4 : Int32)), .val (.int lp), .unset, .unset, .unset, .unset, .unset] (hb hby at_17) rfl rfl ?_
    refine g_iload X0 hx 21 (hb hby at_19) rfl rfl ?_
    refine g_newPE X0 hx 23 hZ (own_w hw 0 rfl) e0 (hb hby at_21) (by decide) 4 (by decide) (by decide) (by decide) (by decide) "[I" (by decide) rfl (fun T49 h49 b49 k49 g49 X49 e49 E49 A49 I49 => ?_)
    have G_b49 : n0 ≤ b49 := Nat.le_trans Z0 (Nat.le_of_eq g49.symm)
    have Z49 : n0 ≤ h49.size := Nat.le_trans Z0 E49.1
    have E_b49 := I49
    have V_b49 : Arv Z h49 b49 k49 .int (4 : Int32) [(.int (0 : Int32)), (.int (0 : Int32)), (.int (0 : Int32)), (.int (0 : Int32))] (.int (0 : Int32)) := A49.pad (pad_rep [] (.int (0 : Int32)) 4)
    refine g_astore X49 hx 25 #[.val (.int v0), .val (.int v1), .val (.int v2), .val (.int v3), .val (.int sh), .val (.int ps), .val (.int (4 : Int32)), .val (.int lp), .val (.ref b49), .unset, .unset, .unset, .unset] (hb hby at_23) rfl rfl rfl ?_
    refine g_aload X49 hx 27 (hb hby at_25) rfl rfl rfl ?_
    refine g_iconst X49 hx 28 (0 : Int32) (hb hby at_27) (by decide) rfl ?_
    refine g_iloadN X49 hx 29 (hb hby at_28) rfl rfl ?_
    refine g_iastore X49 hx 30 hZ e49 V_b49 0 (by decide) ⟨by decide, by decide⟩ (Nat.le_of_ble_eq_true rfl) (hb hby at_29) rfl (fun T50 h50 X50 e50 W50 V50 => ?_)
    have E_b49 := E_b49.wr W50
    have V_b49 : Arv Z h50 b49 k49 .int (4 : Int32) [(.int v0), (.int (0 : Int32)), (.int (0 : Int32)), (.int (0 : Int32))] (.int (0 : Int32)) := V50
    have N50 := Fr.snoc X50 N0 G_b49
    have Z50 : n0 ≤ h50.size := by rw [W50.size]; exact Z49
    refine g_iload X50 hx 32 (hb hby at_30) rfl rfl ?_
    refine g_iconst X50 hx 33 (1 : Int32) (hb hby at_32) (by decide) rfl ?_
    refine g_icF X50 hx 36 (hb hby at_33) (by decide) rfl ?_
    refine g_aload X50 hx 38 (hb hby at_36) rfl rfl rfl ?_
    refine g_iconst X50 hx 39 (1 : Int32) (hb hby at_38) (by decide) rfl ?_
    refine g_iloadN X50 hx 40 (hb hby at_39) rfl rfl ?_
    refine g_iastore X50 hx 41 hZ e50 V_b49 1 (by decide) ⟨by decide, by decide⟩ (Nat.le_of_ble_eq_true rfl) (hb hby at_40) rfl (fun T51 h51 X51 e51 W51 V51 => ?_)
    have E_b49 := E_b49.wr W51
    have V_b49 : Arv Z h51 b49 k49 .int (4 : Int32) [(.int v0), (.int v1), (.int (0 : Int32)), (.int (0 : Int32))] (.int (0 : Int32)) := V51
    have N51 := Fr.snoc X51 N50 G_b49
    have Z51 : n0 ≤ h51.size := by rw [W51.size]; exact Z50
    refine g_iload X51 hx 43 (hb hby at_41) rfl rfl ?_
    refine g_iconst X51 hx 44 (2 : Int32) (hb hby at_43) (by decide) rfl ?_
    refine g_icF X51 hx 47 (hb hby at_44) (by decide) rfl ?_
    refine g_aload X51 hx 49 (hb hby at_47) rfl rfl rfl ?_
    refine g_iconst X51 hx 50 (2 : Int32) (hb hby at_49) (by decide) rfl ?_
    refine g_iloadN X51 hx 51 (hb hby at_50) rfl rfl ?_
    refine g_iastore X51 hx 52 hZ e51 V_b49 2 (by decide) ⟨by decide, by decide⟩ (Nat.le_of_ble_eq_true rfl) (hb hby at_51) rfl (fun T52 h52 X52 e52 W52 V52 => ?_)
    have E_b49 := E_b49.wr W52
    have V_b49 : Arv Z h52 b49 k49 .int (4 : Int32) [(.int v0), (.int v1), (.int v2), (.int (0 : Int32))] (.int (0 : Int32)) := V52
    have N52 := Fr.snoc X52 N51 G_b49
    have Z52 : n0 ≤ h52.size := by rw [W52.size]; exact Z51
    refine g_iload X52 hx 54 (hb hby at_52) rfl rfl ?_
    refine g_iconst X52 hx 55 (3 : Int32) (hb hby at_54) (by decide) rfl ?_
    refine g_icF X52 hx 58 (hb hby at_55) (by decide) rfl ?_
    refine g_aload X52 hx 60 (hb hby at_58) rfl rfl rfl ?_
    refine g_iconst X52 hx 61 (3 : Int32) (hb hby at_60) (by decide) rfl ?_
    refine g_iloadN X52 hx 62 (hb hby at_61) rfl rfl ?_
    refine g_iastore X52 hx 63 hZ e52 V_b49 3 (by decide) ⟨by decide, by decide⟩ (Nat.le_of_ble_eq_true rfl) (hb hby at_62) rfl (fun T53 h53 X53 e53 W53 V53 => ?_)
    have E_b49 := E_b49.wr W53
    have V_b49 : Arv Z h53 b49 k49 .int (4 : Int32) [(.int v0), (.int v1), (.int v2), (.int v3)] (.int (0 : Int32)) := V53
    have N53 := Fr.snoc X53 N52 G_b49
    have Z53 : n0 ≤ h53.size := by rw [W53.size]; exact Z52
    refine g_new X53 hx 66 hZ hown (own_w hw 1 rfl) (own_w hw 2 rfl) (own_w hw 3 rfl) e53 (hb hby at_63) (by decide) (by decide) rfl (fun T54 h54 b54 g54 X54 e54 E54 A54 D54 => ?_)
    have ne_b49_b54 : b49 ≠ b54 := Nat.ne_of_lt (Nat.lt_of_lt_of_le E_b49.lt (Nat.le_of_eq g54.symm))
    have E_b49 := E_b49.ext E54
    have V_b49 := V_b49.ext E54
    have G_b54 : n0 ≤ b54 := Nat.le_trans Z53 (Nat.le_of_eq g54.symm)
    have Z54 : n0 ≤ h54.size := Nat.le_trans Z53 E54.1
    have E_b54 : Exa Z h54 b54 "com/example/guarded_twins/guardedtwins/model/Lasso" := A54
    have F_b54_values : Fld Z h54 b54 "com/example/guarded_twins/guardedtwins/model/Lasso" "values" "[I" .null := D54 (Or.inr (own_w hw 20 rfl)) (ty := (.array .int)) (by decide)
    have F_b54_loop : Fld Z h54 b54 "com/example/guarded_twins/guardedtwins/model/Lasso" "loop" "I" (.int (0 : Int32)) := D54 (Or.inr (own_w hw 22 rfl)) (ty := .int) (by decide)
    refine g_dup X54 hx 67 (hb hby at_66) rfl rfl ?_
    refine g_aload X54 hx 69 (hb hby at_67) rfl rfl rfl ?_
    refine g_iload X54 hx 71 (hb hby at_69) rfl rfl ?_
    refine g_callI X54 hx 74 hZ rfl hown (own_w hw 4 rfl) (own_w hw 5 rfl) (own_w hw 3 rfl) (own_w hw 6 rfl) (by decide) b54 [(.ref b49), (.int lp)] [(.ref b54)] (rm1 l Z a0 hw b54 b49 lp (4 : Int32) [v0, v1, v2, v3] k49 _ _ h54 n0 Z54 G_b54 E_b54 F_b54_values F_b54_loop V_b49 E_b49 hlp.1 hlp.2 (by decide)) e54 1 (by decide) (by decide) (by decide) (by decide) (by rw [hml]; rfl) (lenOf own_pd0 rfl) (hb hby at_71) rfl (Nat.le_of_eq rfl) rfl (fun v55 T55 L55 X55 hQ55 => ?_)
    obtain ⟨rfl, N55q, K55, E55x, bb, F1_b54, F2_b54, V_bb, ne_bb⟩ := hQ55
    have N55 := Fr.app N53 N55q
    have E_b49 := E_b49.keep K55
    have V_b49 := V_b49.keep K55 (ninS ne_b49_b54 nin0)
    have E_b54 := E_b54.keep K55
    have Z55 := Nat.le_trans Z54 K55.1
    show Go p e below _ _ T55 (mkF m 74 #[.val (.int v0), .val (.int v1), .val (.int v2), .val (.int v3), .val (.int sh), .val (.int ps), .val (.int (4 : Int32)), .val (.int lp), .val (.ref b49), .unset, .unset, .unset, .unset] [(.ref b54)])
    refine g_astore X55 hx 76 #[.val (.int v0), .val (.int v1), .val (.int v2), .val (.int v3), .val (.int sh), .val (.int ps), .val (.int (4 : Int32)), .val (.int lp), .val (.ref b49), .val (.ref b54), .unset, .unset, .unset] (hb hby at_74) rfl rfl rfl ?_
    refine g_iload X55 hx 78 (hb hby at_76) rfl rfl ?_
    refine g_ldcI X55 hx 80 hZ hown (own_w hw 23 rfl) (hb hby at_78) rfl ?_
    refine g_iand X55 hx 81 (ps &&& (2147483647 : Int32)) (hb hby at_80) rfl rfl ?_
    refine g_istore X55 hx 83 #[.val (.int v0), .val (.int v1), .val (.int v2), .val (.int v3), .val (.int sh), .val (.int ps), .val (.int (4 : Int32)), .val (.int lp), .val (.ref b49), .val (.ref b54), .val (.int (ps &&& (2147483647 : Int32))), .unset, .unset] (hb hby at_81) rfl rfl ?_
    refine g_iload X55 hx 85 (hb hby at_83) rfl rfl ?_
    refine g_iconst X55 hx 86 (4 : Int32) (hb hby at_85) (by decide) rfl ?_
    refine g_iushr X55 hx 87 ((sh.toUInt32 >>> ((4 : Int32) &&& 31).toUInt32).toInt32) (hb hby at_86) rfl rfl ?_
    refine g_iconst X55 hx 88 (1 : Int32) (hb hby at_87) (by decide) rfl ?_
    refine g_iand X55 hx 89 (((sh.toUInt32 >>> ((4 : Int32) &&& 31).toUInt32).toInt32) &&& (1 : Int32)) (hb hby at_88) rfl rfl ?_
    by_cases hc56 : (((sh.toUInt32 >>> ((4 : Int32) &&& 31).toUInt32).toInt32) &&& (1 : Int32)) = (0 : Int32)
    · refine g_ifT X55 hx 99 (hb hby at_89) ((if0 _ _).trans (teq hc56).1) (by decide) (by decide) ?_
      have hq0 : ¬ (ps &&& (2147483647 : Int32)) < 0 := own_nn ps
      generalize (ps &&& (2147483647 : Int32)) = q at hq0 ⊢
      refine g_aload X55 hx 101 (hb hby at_99) rfl rfl rfl ?_
      refine g_iload X55 hx 103 (hb hby at_101) rfl rfl ?_
      refine g_callV X55 hx 106 hZ hown (own_w hw 24 rfl) (own_w hw 25 rfl) (own_w hw 27 rfl) (own_w hw 26 rfl) (own_w hw 3 rfl) (own_w hw 28 rfl) (by decide) b54 E_b54 [(.int q)] [] (rm3 l Z a0 hw b54 bb q lp (4 : Int32) [v0, v1, v2, v3] k49 T55.heap n0 Z55 F1_b54 F2_b54 V_bb hlp.1 hlp.2 hq0) rfl 0 (by decide) (by decide) (by decide) (by decide) (by rw [hml]; rfl) (lenOf own_pd1 rfl) (hb hby at_103) rfl (Nat.le_of_eq rfl) rfl (fun v57 T57 L57 X57 hQ57 => ?_)
      obtain ⟨rfl, N57q, e57⟩ := hQ57
      have N57 := Fr.app N55 N57q
      show Go p e below _ _ T57 (mkF m 106 #[.val (.int v0), .val (.int v1), .val (.int v2), .val (.int v3), .val (.int sh), .val (.int ps), .val (.int (4 : Int32)), .val (.int lp), .val (.ref b49), .val (.ref b54), .val (.int q), .unset, .unset] [(.int ([v0, v1, v2, v3].getD (own_j (4 : Int32) lp q).toNatClampNeg 0))])
      refine g_istore X57 hx 108 #[.val (.int v0), .val (.int v1), .val (.int v2), .val (.int v3), .val (.int sh), .val (.int ps), .val (.int (4 : Int32)), .val (.int lp), .val (.ref b49), .val (.ref b54), .val (.int q), .val (.int ([v0, v1, v2, v3].getD (own_j (4 : Int32) lp q).toNatClampNeg 0)), .unset] (hb hby at_106) rfl rfl ?_
      refine g_iload X57 hx 110 (hb hby at_108) rfl rfl ?_
      refine g_iload X57 hx 112 (hb hby at_110) rfl rfl ?_
      by_cases hc58 : q < (4 : Int32)
      · refine g_icF X57 hx 115 (hb hby at_112) (tlt hc58).2.1 rfl ?_
        refine g_iload X57 hx 117 (hb hby at_115) rfl rfl ?_
        refine g_aload X57 hx 119 (hb hby at_117) rfl rfl rfl ?_
        refine g_iload X57 hx 121 (hb hby at_119) rfl rfl ?_
        refine g_iaload X57 hx 122 hZ e57 V_b49 ⟨hq0, hc58⟩ (own_getD [v0, v1, v2, v3] _) (hb hby at_121) rfl ?_
        have hk59 : ([v0, v1, v2, v3].getD (own_j (4 : Int32) lp q).toNatClampNeg 0) = ([v0, v1, v2, v3].getD q.toNatClampNeg 0) := by rw [show own_j (4 : Int32) lp q = q from if_pos hc58]
        refine g_icF X57 hx 125 (hb hby at_122) (teq hk59).2 rfl ?_
        refine g_iconst X57 hx 126 (1 : Int32) (hb hby at_125) (by decide) rfl ?_
        refine g_goto X57 hx 130 (hb hby at_126) (by decide) (by decide) ?_
        exact g_retZ X57 hx hret hlk rfl (hb hby at_130) (by decide) (by decide) ⟨rfl, N57⟩
      · refine g_icT X57 hx 131 (hb hby at_112) (flt hc58).2.1 (by decide) (by decide) ?_
        refine g_iload X57 hx 133 (hb hby at_131) rfl rfl ?_
        refine g_iload X57 hx 135 (hb hby at_133) rfl rfl ?_
        refine g_isub X57 hx 136 ((4 : Int32) - lp) (hb hby at_135) rfl rfl ?_
        refine g_istore X57 hx 138 #[.val (.int v0), .val (.int v1), .val (.int v2), .val (.int v3), .val (.int sh), .val (.int ps), .val (.int (4 : Int32)), .val (.int lp), .val (.ref b49), .val (.ref b54), .val (.int q), .val (.int ([v0, v1, v2, v3].getD (own_j (4 : Int32) lp q).toNatClampNeg 0)), .val (.int ((4 : Int32) - lp))] (hb hby at_136) rfl rfl ?_
        refine g_iload X57 hx 140 (hb hby at_138) rfl rfl ?_
        refine g_aload X57 hx 142 (hb hby at_140) rfl rfl rfl ?_
        refine g_iload X57 hx 144 (hb hby at_142) rfl rfl ?_
        refine g_iload X57 hx 146 (hb hby at_144) rfl rfl ?_
        refine g_isub X57 hx 147 (q - ((4 : Int32) - lp)) (hb hby at_146) rfl rfl ?_
        refine g_callV X57 hx 150 hZ hown (own_w hw 24 rfl) (own_w hw 25 rfl) (own_w hw 27 rfl) (own_w hw 26 rfl) (own_w hw 3 rfl) (own_w hw 28 rfl) (by decide) b54 E_b54 [(.int (q - ((4 : Int32) - lp)))] [(.int ([v0, v1, v2, v3].getD (own_j (4 : Int32) lp q).toNatClampNeg 0))] (rm3 l Z a0 hw b54 bb (q - ((4 : Int32) - lp)) lp (4 : Int32) [v0, v1, v2, v3] k49 T55.heap n0 Z55 F1_b54 F2_b54 V_bb hlp.1 hlp.2 (own_jper (4 : Int32) lp q hlp.1 hlp.2 hq0 hc58).1) e57 1 (by decide) (by decide) (by decide) (by decide) (by rw [hml]; rfl) (lenOf own_pd1 rfl) (hb hby at_147) rfl (Nat.le_of_eq rfl) rfl (fun v60 T60 L60 X60 hQ60 => ?_)
        obtain ⟨rfl, N60q, e60⟩ := hQ60
        have N60 := Fr.app N57 N60q
        show Go p e below _ _ T60 (mkF m 150 #[.val (.int v0), .val (.int v1), .val (.int v2), .val (.int v3), .val (.int sh), .val (.int ps), .val (.int (4 : Int32)), .val (.int lp), .val (.ref b49), .val (.ref b54), .val (.int q), .val (.int ([v0, v1, v2, v3].getD (own_j (4 : Int32) lp q).toNatClampNeg 0)), .val (.int ((4 : Int32) - lp))] [(.int ([v0, v1, v2, v3].getD (own_j (4 : Int32) lp (q - ((4 : Int32) - lp))).toNatClampNeg 0)), (.int ([v0, v1, v2, v3].getD (own_j (4 : Int32) lp q).toNatClampNeg 0))])
        have hk61 : ([v0, v1, v2, v3].getD (own_j (4 : Int32) lp q).toNatClampNeg 0) = ([v0, v1, v2, v3].getD (own_j (4 : Int32) lp (q - ((4 : Int32) - lp))).toNatClampNeg 0) := by rw [(own_jper (4 : Int32) lp q hlp.1 hlp.2 hq0 hc58).2]
        refine g_icF X60 hx 153 (hb hby at_150) (teq hk61).2 rfl ?_
        refine g_iconst X60 hx 154 (1 : Int32) (hb hby at_153) (by decide) rfl ?_
        refine g_goto X60 hx 158 (hb hby at_154) (by decide) (by decide) ?_
        exact g_retZ X60 hx hret hlk rfl (hb hby at_158) (by decide) (by decide) ⟨rfl, N60⟩
    · refine g_ifF X55 hx 92 (hb hby at_89) ((if0 _ _).trans (feq hc56).1) rfl ?_
      refine g_iload X55 hx 94 (hb hby at_92) rfl rfl ?_
      refine g_bipush X55 hx 96 (15 : Int32) (hb hby at_94) (by decide) rfl ?_
      refine g_iand X55 hx 97 ((ps &&& (2147483647 : Int32)) &&& (15 : Int32)) (hb hby at_96) rfl rfl ?_
      refine g_istore X55 hx 99 #[.val (.int v0), .val (.int v1), .val (.int v2), .val (.int v3), .val (.int sh), .val (.int ps), .val (.int (4 : Int32)), .val (.int lp), .val (.ref b49), .val (.ref b54), .val (.int ((ps &&& (2147483647 : Int32)) &&& (15 : Int32))), .unset, .unset] (hb hby at_97) rfl rfl ?_
      have hq0 : ¬ ((ps &&& (2147483647 : Int32)) &&& (15 : Int32)) < 0 := own_nnm _ 15 (by decide)
      generalize ((ps &&& (2147483647 : Int32)) &&& (15 : Int32)) = q at hq0 ⊢
      refine g_aload X55 hx 101 (hb hby at_99) rfl rfl rfl ?_
      refine g_iload X55 hx 103 (hb hby at_101) rfl rfl ?_
      refine g_callV X55 hx 106 hZ hown (own_w hw 24 rfl) (own_w hw 25 rfl) (own_w hw 27 rfl) (own_w hw 26 rfl) (own_w hw 3 rfl) (own_w hw 28 rfl) (by decide) b54 E_b54 [(.int q)] [] (rm3 l Z a0 hw b54 bb q lp (4 : Int32) [v0, v1, v2, v3] k49 T55.heap n0 Z55 F1_b54 F2_b54 V_bb hlp.1 hlp.2 hq0) rfl 0 (by decide) (by decide) (by decide) (by decide) (by rw [hml]; rfl) (lenOf own_pd1 rfl) (hb hby at_103) rfl (Nat.le_of_eq rfl) rfl (fun v62 T62 L62 X62 hQ62 => ?_)
      obtain ⟨rfl, N62q, e62⟩ := hQ62
      have N62 := Fr.app N55 N62q
      show Go p e below _ _ T62 (mkF m 106 #[.val (.int v0), .val (.int v1), .val (.int v2), .val (.int v3), .val (.int sh), .val (.int ps), .val (.int (4 : Int32)), .val (.int lp), .val (.ref b49), .val (.ref b54), .val (.int q), .unset, .unset] [(.int ([v0, v1, v2, v3].getD (own_j (4 : Int32) lp q).toNatClampNeg 0))])
      refine g_istore X62 hx 108 #[.val (.int v0), .val (.int v1), .val (.int v2), .val (.int v3), .val (.int sh), .val (.int ps), .val (.int (4 : Int32)), .val (.int lp), .val (.ref b49), .val (.ref b54), .val (.int q), .val (.int ([v0, v1, v2, v3].getD (own_j (4 : Int32) lp q).toNatClampNeg 0)), .unset] (hb hby at_106) rfl rfl ?_
      refine g_iload X62 hx 110 (hb hby at_108) rfl rfl ?_
      refine g_iload X62 hx 112 (hb hby at_110) rfl rfl ?_
      by_cases hc63 : q < (4 : Int32)
      · refine g_icF X62 hx 115 (hb hby at_112) (tlt hc63).2.1 rfl ?_
        refine g_iload X62 hx 117 (hb hby at_115) rfl rfl ?_
        refine g_aload X62 hx 119 (hb hby at_117) rfl rfl rfl ?_
        refine g_iload X62 hx 121 (hb hby at_119) rfl rfl ?_
        refine g_iaload X62 hx 122 hZ e62 V_b49 ⟨hq0, hc63⟩ (own_getD [v0, v1, v2, v3] _) (hb hby at_121) rfl ?_
        have hk64 : ([v0, v1, v2, v3].getD (own_j (4 : Int32) lp q).toNatClampNeg 0) = ([v0, v1, v2, v3].getD q.toNatClampNeg 0) := by rw [show own_j (4 : Int32) lp q = q from if_pos hc63]
        refine g_icF X62 hx 125 (hb hby at_122) (teq hk64).2 rfl ?_
        refine g_iconst X62 hx 126 (1 : Int32) (hb hby at_125) (by decide) rfl ?_
        refine g_goto X62 hx 130 (hb hby at_126) (by decide) (by decide) ?_
        exact g_retZ X62 hx hret hlk rfl (hb hby at_130) (by decide) (by decide) ⟨rfl, N62⟩
      · refine g_icT X62 hx 131 (hb hby at_112) (flt hc63).2.1 (by decide) (by decide) ?_
        refine g_iload X62 hx 133 (hb hby at_131) rfl rfl ?_
        refine g_iload X62 hx 135 (hb hby at_133) rfl rfl ?_
        refine g_isub X62 hx 136 ((4 : Int32) - lp) (hb hby at_135) rfl rfl ?_
        refine g_istore X62 hx 138 #[.val (.int v0), .val (.int v1), .val (.int v2), .val (.int v3), .val (.int sh), .val (.int ps), .val (.int (4 : Int32)), .val (.int lp), .val (.ref b49), .val (.ref b54), .val (.int q), .val (.int ([v0, v1, v2, v3].getD (own_j (4 : Int32) lp q).toNatClampNeg 0)), .val (.int ((4 : Int32) - lp))] (hb hby at_136) rfl rfl ?_
        refine g_iload X62 hx 140 (hb hby at_138) rfl rfl ?_
        refine g_aload X62 hx 142 (hb hby at_140) rfl rfl rfl ?_
        refine g_iload X62 hx 144 (hb hby at_142) rfl rfl ?_
        refine g_iload X62 hx 146 (hb hby at_144) rfl rfl ?_
        refine g_isub X62 hx 147 (q - ((4 : Int32) - lp)) (hb hby at_146) rfl rfl ?_
        refine g_callV X62 hx 150 hZ hown (own_w hw 24 rfl) (own_w hw 25 rfl) (own_w hw 27 rfl) (own_w hw 26 rfl) (own_w hw 3 rfl) (own_w hw 28 rfl) (by decide) b54 E_b54 [(.int (q - ((4 : Int32) - lp)))] [(.int ([v0, v1, v2, v3].getD (own_j (4 : Int32) lp q).toNatClampNeg 0))] (rm3 l Z a0 hw b54 bb (q - ((4 : Int32) - lp)) lp (4 : Int32) [v0, v1, v2, v3] k49 T55.heap n0 Z55 F1_b54 F2_b54 V_bb hlp.1 hlp.2 (own_jper (4 : Int32) lp q hlp.1 hlp.2 hq0 hc63).1) e62 1 (by decide) (by decide) (by decide) (by decide) (by rw [hml]; rfl) (lenOf own_pd1 rfl) (hb hby at_147) rfl (Nat.le_of_eq rfl) rfl (fun v65 T65 L65 X65 hQ65 => ?_)
        obtain ⟨rfl, N65q, e65⟩ := hQ65
        have N65 := Fr.app N62 N65q
        show Go p e below _ _ T65 (mkF m 150 #[.val (.int v0), .val (.int v1), .val (.int v2), .val (.int v3), .val (.int sh), .val (.int ps), .val (.int (4 : Int32)), .val (.int lp), .val (.ref b49), .val (.ref b54), .val (.int q), .val (.int ([v0, v1, v2, v3].getD (own_j (4 : Int32) lp q).toNatClampNeg 0)), .val (.int ((4 : Int32) - lp))] [(.int ([v0, v1, v2, v3].getD (own_j (4 : Int32) lp (q - ((4 : Int32) - lp))).toNatClampNeg 0)), (.int ([v0, v1, v2, v3].getD (own_j (4 : Int32) lp q).toNatClampNeg 0))])
        have hk66 : ([v0, v1, v2, v3].getD (own_j (4 : Int32) lp q).toNatClampNeg 0) = ([v0, v1, v2, v3].getD (own_j (4 : Int32) lp (q - ((4 : Int32) - lp))).toNatClampNeg 0) := by rw [(own_jper (4 : Int32) lp q hlp.1 hlp.2 hq0 hc63).2]
        refine g_icF X65 hx 153 (hb hby at_150) (teq hk66).2 rfl ?_
        refine g_iconst X65 hx 154 (1 : Int32) (hb hby at_153) (by decide) rfl ?_
        refine g_goto X65 hx 158 (hb hby at_154) (by decide) (by decide) ?_
        exact g_retZ X65 hx hret hlk rfl (hb hby at_158) (by decide) (by decide) ⟨rfl, N65⟩
set_option maxRecDepth 65536 in
set_option maxHeartbeats 40000000 in
theorem comes_1 {Post : Tables → Env → Array Value → State → Outcome → State → Prop} (hpost : ∀ tb e args s v u, (limb_1_1.after args s (.returned v) u = true ∧ limb_1_2.after args s (.returned v) u = true ∧ True) → FrameEnd s (.returned v) u (Jvm.fieldLocs frame_1_writes args s ++ Jvm.arrayLocs frame_1_arrays args s ++ Jvm.staticLocs frame_1_statics s) 16 128 → Post tb e args s (.returned v) u) :
    ArmFor flags0 classFile x code maxLocals ret World_1 tables_1 room_1 Calls_1 rest_1 Pre_1 Post := by
  intro l hfl _ _ p e ha hc hk s m args below hf hA hF happ hP
  obtain ⟨hcalls, hrest, hpre⟩ := hP
  obtain ⟨-, -, -, hnamed, -, -, -, hat⟩ := (Spec.applies_iff hf).mp happ
  obtain ⟨hg, hn⟩ := and_e (Cond.before_iff.mp (show (Jvm.Cond.and given_1 narrow_1).before args s = true from hpre))
  obtain ⟨ga1, gb1⟩ := and_e hg
  obtain ⟨ga2, gb2⟩ := and_e gb1
  obtain ⟨ga3, gb3⟩ := and_e gb2
  obtain ⟨ga4, gb4⟩ := and_e gb3
  obtain ⟨ga5, gb5⟩ := and_e gb4
  obtain ⟨ga6, gb6⟩ := and_e gb5
  obtain ⟨w0, w1, w2, w3, w4, w5, rfl⟩ : ∃ w0 w1 w2 w3 w4 w5 : Value, args = #[w0, w1, w2, w3, w4, w5] := by
    have hs : args.size = 6 := by simpa [Cond.value, given_1] using ga1
    obtain ⟨L⟩ := args
    match L, hs with
    | [w0, w1, w2, w3, w4, w5], _ => exact ⟨w0, w1, w2, w3, w4, w5, rfl⟩
  have hw := fun d (hd : d ∈ tables_1) => atoms_spec (ws := Jvm.Cond.code x code maxLocals ret :: tables_1) hat d (List.mem_cons_of_mem _ hd)
  have hfit : Fit s := fun {y c} hc i hi => by
    obtain ⟨ha, rfl⟩ := Array.getElem?_eq_some_iff.mp hc
    have q := List.all_eq_true.mp ((Array.all_eq_true_iff_forall_mem.mp hF) _ (Array.getElem_mem ha)) i (List.mem_range.mpr hi)
    simpa [Array.getElem?_eq_getElem hi] using q
  obtain ⟨i0, ei0⟩ := is_v ga2
  obtain rfl : w0 = (.int i0) := Option.some.inj ei0
  obtain ⟨i1, ei1⟩ := is_v ga3
  obtain rfl : w1 = (.int i1) := Option.some.inj ei1
  obtain ⟨i2, ei2⟩ := is_v ga4
  obtain rfl : w2 = (.int i2) := Option.some.inj ei2
  obtain ⟨i3, ei3⟩ := is_v ga5
  obtain rfl : w3 = (.int i3) := Option.some.inj ei3
  obtain ⟨i4, ei4⟩ := is_v ga6
  obtain rfl : w4 = (.int i4) := Option.some.inj ei4
  obtain ⟨i5, ei5⟩ := is_v gb6
  obtain rfl : w5 = (.int i5) := Option.some.inj ei5
  obtain ⟨n, o, h1, h2, h3, _, L, rfl, ⟨rfl, N⟩, hq⟩ := rm0 l s _ hw i0 i1 i2 i3 i4 i5  s.heap s.heap.size (Nat.le_refl _)  p e ha hc hk s m _ below hf ((Spec.applies_iff_loose hf).mp happ).1 ⟨rfl, State.Warmed39.refl s, rfl⟩ trivial
  refine ⟨n, _, h1, h2, h3, hpost _ _ _ _ _ _ ⟨Cond.after_iff.mpr rfl, Cond.after_iff.mpr (eq_i res_at (Term.int_eval (1)) rfl), trivial⟩ ⟨hq.1, hq.2.1, (hq.2.2.sift fun y hy => Or.inr (N y hy)).mono (by decide) (by decide)⟩⟩
theorem main_1_1 : Claimed_1_1 := comes_1 fun _ _ _ _ _ _ h hF => ⟨h.1, hF⟩
theorem main_1_2 : Claimed_1_2 := comes_1 fun _ _ _ _ _ _ h hF => ⟨h.2.1, hF⟩
end Jvm.Pilot.@@N@@
namespace Jvm.Pilot.@@N@@
open Jvm Jvm.ClassFile Sem Op Lib Jvm.Free Jvm.Stand Jvm.Pilot.@@N@@.Jvm.D
/-! MADE BY PROGRAM (witnessworld.py) out of the Statement's table words and the real class files: 9 classes; the members and pool entries that the words name. The judged class is class 1, her method 1. -/
namespace start1
open Jvm.ClassFile
def u (s : String) : CpInfo := .utf8 (stringToUtf16 s)
/-- a pool by its gaps: so many unusable entries, then the entry; so many at the end -/
def gap : Nat → List CpInfo → List CpInfo
  | 0, r => r
  | n + 1, r => .unusable :: gap n r
def poolList (es : List (Nat × CpInfo)) (last : Nat) : List CpInfo := es.foldr (fun e r => gap e.1 (e.2 :: r)) (gap last [])
def pool (es : List (Nat × CpInfo)) (last : Nat) : Array CpInfo := ⟨poolList es last⟩
def fileOf (pool : Array CpInfo) (this : Nat) (attrs : Array Attribute := #[]) (ms : Array MethodInfo := #[]) (fl : Nat := 33) (sup : Nat := 0) (ifs : Array Nat := #[]) (fds : Array FieldInfo := #[]) : ClassFile where
  minorVersion := 0
  majorVersion := 65
  constantPool := pool
  accessFlags := fl
  thisClass := this
  superClass := sup
  interfaces := ifs
  fields := fds
  methods := ms
  attributes := attrs
def plain (name : String) (sup : Option ClassId) : Class where
  name := name
  kind := .ordinary
  loader := none
  accessFlags := 33
  super := sup
  interfaces := #[]
  cf := none
  fields := #[]
  methods := #[]
  instanceTypes := #[]
  staticTypes := #[]
  resolved := #[]
  callSites := []
  init := .initialized
  statics := none
  mirror := none

def pool0 : Array CpInfo := pool [(5, u "<init>"), (0, u "()V"), (1, .class_ 10), (1, u "java/lang/Object"), (85, u "clone"), (0, u "()Ljava/lang/Object;")] 26

def k0c0 : Code := { maxStack := 0, maxLocals := 1, code := object_method_1_code, exceptionTable := #[], attributes := #[] }
def k0m0 : Method := { name := "<init>", desc := "()V", sig := { parameters := [], returnType := none }, accessFlags := 1, code := some k0c0 }
def k0m1 : Method := { name := "clone", desc := "()Ljava/lang/Object;", sig := { parameters := [], returnType := some (.object "java/lang/Object") }, accessFlags := 260, code := none }
/-- java/lang/Object -/
def k0 : Class := { plain "java/lang/Object" none with
  accessFlags := 33
  interfaces := #[]
  cf := some (fileOf pool0 8 #[] #[{ accessFlags := 1, nameIndex := 5, descriptorIndex := 6, attributes := #[] }, { accessFlags := 260, nameIndex := 96, descriptorIndex := 97, attributes := #[] }] 33 0 #[] #[])
  fields := #[]
  methods := #[k0m0, k0m1]
  instanceTypes := #[]
  staticTypes := #[]
  resolved := Array.replicate 124 none
  statics := none }

def pool1 : Array CpInfo := pool [(2, .class_ 4), (1, u "java/lang/Object"), (0, u "<init>"), (0, u "()V"), (0, .class_ 8), (0, u "com/example/guarded_twins/guardedtwins/model/Lasso"), (0, .methodref 7 10), (0, .nameAndType 5 11), (0, u "([II)V"), (0, .integer 2147483647), (0, .methodref 7 14), (0, .nameAndType 15 16), (0, u "get"), (0, u "(I)I"), (0, .class_ 18), (0, u "com/example/guarded_twins/guardedtwins/model/LassoGetPinLaw"), (2, u "law"), (0, u "(IIIIII)Z")] 5

def k1m0 : Method := { name := "<init>", desc := "()V", sig := { parameters := [], returnType := none }, accessFlags := 1, code := none }
def k1c1 : Code := { maxStack := 4, maxLocals := 13, code := code, exceptionTable := #[], attributes := #[] }
def k1m1 : Method := { name := "law", desc := "(IIIIII)Z", sig := { parameters := [.int, .int, .int, .int, .int, .int], returnType := some .boolean }, accessFlags := 9, code := some k1c1 }
/-- com/example/guarded_twins/guardedtwins/model/LassoGetPinLaw -/
def k1 : Class := { plain "com/example/guarded_twins/guardedtwins/model/LassoGetPinLaw" (some 0) with
  accessFlags := 49
  interfaces := #[]
  cf := some (fileOf pool1 17 #[] #[{ accessFlags := 1, nameIndex := 5, descriptorIndex := 6, attributes := #[] }, { accessFlags := 9, nameIndex := 21, descriptorIndex := 22, attributes := #[] }] 49 2 #[] #[])
  fields := #[]
  methods := #[k1m0, k1m1]
  instanceTypes := #[]
  staticTypes := #[]
  resolved := Array.replicate 28 none
  statics := none }

def pool2 : Array CpInfo := pool [(1, .methodref 2 3), (0, .class_ 4), (0, .nameAndType 5 6), (0, u "java/lang/Object"), (0, u "<init>"), (0, u "()V"), (9, .methodref 17 18), (0, .class_ 19), (0, .nameAndType 20 21), (0, u "[I"), (0, u "clone"), (0, u "()Ljava/lang/Object;"), (0, .fieldref 23 24), (0, .class_ 25), (0, .nameAndType 26 19), (0, u "com/example/guarded_twins/guardedtwins/model/Lasso"), (0, u "values"), (0, .fieldref 23 28), (0, .nameAndType 29 30), (0, u "loop"), (0, u "I"), (32, u "([II)V"), (5, u "get"), (0, u "(I)I")] 34

def k2c0 : Code := { maxStack := 4, maxLocals := 3, code := prog_59_method_1_code, exceptionTable := #[], attributes := #[] }
def k2m0 : Method := { name := "<init>", desc := "([II)V", sig := { parameters := [(.array .int), .int], returnType := none }, accessFlags := 1, code := some k2c0 }
def k2c1 : Code := { maxStack := 5, maxLocals := 2, code := prog_59_method_4_code, exceptionTable := #[], attributes := #[] }
def k2m1 : Method := { name := "get", desc := "(I)I", sig := { parameters := [.int], returnType := some .int }, accessFlags := 1, code := some k2c1 }
/-- com/example/guarded_twins/guardedtwins/model/Lasso -/
def k2 : Class := { plain "com/example/guarded_twins/guardedtwins/model/Lasso" (some 0) with
  accessFlags := 33
  interfaces := #[]
  cf := some (fileOf pool2 23 #[] #[{ accessFlags := 1, nameIndex := 5, descriptorIndex := 63, attributes := #[] }, { accessFlags := 1, nameIndex := 69, descriptorIndex := 70, attributes := #[] }] 33 2 #[] #[{ accessFlags := 18, nameIndex := 26, descriptorIndex := 19, attributes := #[] }, { accessFlags := 18, nameIndex := 29, descriptorIndex := 30, attributes := #[] }])
  fields := #[{ name := "values", type := (.array .int), accessFlags := 18, slot := 0, constantValue := 0 }, { name := "loop", type := .int, accessFlags := 18, slot := 1, constantValue := 0 }]
  methods := #[k2m0, k2m1]
  instanceTypes := #[(.array .int), .int]
  staticTypes := #[]
  resolved := Array.replicate 105 none
  statics := none }

def pool3 : Array CpInfo := pool [(1, .class_ 2), (0, u "java/lang/Cloneable"), (0, .class_ 4), (0, u "java/lang/Object")] 2

/-- java/lang/Cloneable -/
def k3 : Class := { plain "java/lang/Cloneable" (some 0) with
  accessFlags := 1537
  interfaces := #[]
  cf := some (fileOf pool3 1 #[] #[] 1537 3 #[] #[])
  fields := #[]
  methods := #[]
  instanceTypes := #[]
  staticTypes := #[]
  resolved := Array.replicate 7 none
  statics := none }

def pool4 : Array CpInfo := pool [(1, u "java/io/Serializable"), (0, .class_ 1), (0, u "java/lang/Object"), (0, .class_ 3)] 3

/-- java/io/Serializable -/
def k4 : Class := { plain "java/io/Serializable" (some 0) with
  accessFlags := 1537
  interfaces := #[]
  cf := some (fileOf pool4 2 #[] #[] 1537 4 #[] #[])
  fields := #[]
  methods := #[]
  instanceTypes := #[]
  staticTypes := #[]
  resolved := Array.replicate 8 none
  statics := none }

/-- the primitive byte -/
def k5 : Class := { plain "byte" none with kind := .primitive 'B', accessFlags := 0x411 }
/-- [B -/
def k6 : Class := { plain "[B" (some 0) with kind := .array 5 .byte, interfaces := #[3, 4], accessFlags := 1041 }

/-- the primitive int -/
def k7 : Class := { plain "int" none with kind := .primitive 'I', accessFlags := 0x411 }
/-- [I -/
def k8 : Class := { plain "[I" (some 0) with kind := .array 7 .int, interfaces := #[3, 4], accessFlags := 1041 }

def heap : Heap := #[]
def classes : Array Class := #[k0, k1, k2, k3, k4, k5, k6, k7, k8]
def interned : List (Array UInt16 × Addr) := []
def slotsUsed : Nat := 0
def theMethod : MethodId := ⟨1, 1⟩
def args0 : Array Value := #[.int 5, .int 9, .int 3, .int 2, .int 1, .int 4]
def aboutOver (below : List Frame) : State where
  vm := { classes := classes, interned := interned.toArray }
  heap := heap
  slotsUsed := slotsUsed
  threads := #[{ frames := .invoking theMethod args0 :: below }]
def below0 : List Frame := [.native { method := ⟨0, 0⟩, args := #[] }]
def about1 : State := aboutOver below0
def p0 : Program := .bare "" "" ""
def e0 : Env := launch0.env 0 0 0
theorem w_frames : about1.frames = Frame.invoking theMethod args0 :: below0 := rfl
set_option maxRecDepth 65536 in
theorem w_args : argsFit about1.vm theMethod args0 = true := by decide +kernel
set_option maxRecDepth 65536 in
theorem w_heap : heapFits about1 = true := by decide +kernel
set_option maxRecDepth 65536 in
theorem w_runnable : about1.curStatus? = some .runnable := by decide +kernel
set_option maxRecDepth 65536 in
theorem w_alone : about1.alone = true := by decide +kernel
set_option maxRecDepth 65536 in
theorem w_named : about1.methodNamed? x = some theMethod := by decide +kernel
set_option maxRecDepth 65536 in
theorem w_hears : about1.hears theMethod below0 = true := by decide +kernel
set_option maxRecDepth 65536 in
theorem w_ripe : about1.ripe theMethod args0 below0 = true := by decide +kernel
theorem w_running : about1.status = .running := rfl
set_option maxRecDepth 65536 in
theorem w_room : about1.hasRoom e0.platform room_1 = true :=
  launch0.hasRoom_least _ room_1 (by decide +kernel) (by decide +kernel) (by decide +kernel) (by decide +kernel) (by decide +kernel) (by decide +kernel)
theorem allAtoms_all (ts : List Jvm.Cond) (a : Array Jvm.Value) (st : Jvm.State) : (allAtoms ts).before a st = ts.all (fun c => c.before a st) := by
  induction ts with
  | nil => rfl
  | cons c t ih =>
    show (Jvm.Cond.and c (allAtoms t)).before a st = _
    rw [Jvm.Cond.before_and, ih, List.all_cons]
def words1 : List Jvm.Cond := Jvm.Cond.code x code maxLocals ret :: tables_1
/-- a 'code' word, met by the world's own term for the bytes: nothing is compared byte by byte -/
theorem code_word {y : MethodName} {bytes : ByteArray} {mx : Nat} {rt : Option FieldType} {a : Array Value} {s : State} {m : MethodId} {meth : Method} {c : Code} (h1 : s.methodNamed? y = some m) (h2 : s.vm.method? m = some meth) (h3 : meth.code = some c) (h4 : c.code = bytes)
    (h5 : (c.maxLocals == mx && c.exceptionTable.isEmpty && decide (c.maxStack ≤ mostOperands) && decide (meth.sig.returnType = rt) && !meth.locks && decide (parseMethodDescriptor y.desc = some meth.sig)) = true) : (Jvm.Cond.code y bytes mx rt).before a s = true := by
  simp only [Bool.and_eq_true, beq_iff_eq, Bool.not_eq_true', decide_eq_true_eq] at h5
  obtain ⟨⟨⟨⟨⟨g1, g2⟩, g3⟩, g4⟩, g5⟩, g6⟩ := h5
  simp [Cond.before, Cond.holds, Cond.value, h1, h2, h3, h4, g1, g2, g3, g4, g5, g6]
def isCode : Jvm.Cond → Bool
  | .code _ _ _ _ => true
  | _ => false
theorem all_split {L : List Jvm.Cond} {P : Jvm.Cond → Bool} (h1 : L.all (fun c => isCode c || P c) = true) (h2 : ∀ c ∈ L.filter isCode, P c = true) : L.all P = true := by
  refine List.all_eq_true.mpr fun c hc => ?_
  have h := List.all_eq_true.mp h1 c hc
  rcases Bool.eq_false_or_eq_true (isCode c) with hi | hi
  · exact h2 c (List.mem_filter.mpr ⟨hc, hi⟩)
  · simpa [hi] using h
set_option maxRecDepth 65536 in
theorem w_c0 : (Jvm.Cond.code x code maxLocals ret).before args0 about1 = true := code_word (m := ⟨1, 1⟩) (meth := k1m1) (c := k1c1) (by decide +kernel) rfl rfl rfl (by decide +kernel)
set_option maxRecDepth 65536 in
theorem w_c1 : (Jvm.Cond.code ({ cls := "com/example/guarded_twins/guardedtwins/model/Lasso", name := "<init>", desc := "([II)V" } : Jvm.MethodName) prog_59_method_1_code (3 : Nat) (Option.none : Option Jvm.ClassFile.FieldType)).before args0 about1 = true := code_word (m := ⟨2, 0⟩) (meth := k2m0) (c := k2c0) (by decide +kernel) rfl rfl rfl (by decide +kernel)
set_option maxRecDepth 65536 in
theorem w_c2 : (Jvm.Cond.code ({ cls := "java/lang/Object", name := "<init>", desc := "()V" } : Jvm.MethodName) object_method_1_code (1 : Nat) (Option.none : Option Jvm.ClassFile.FieldType)).before args0 about1 = true := code_word (m := ⟨0, 0⟩) (meth := k0m0) (c := k0c0) (by decide +kernel) rfl rfl rfl (by decide +kernel)
set_option maxRecDepth 65536 in
theorem w_c3 : (Jvm.Cond.code ({ cls := "com/example/guarded_twins/guardedtwins/model/Lasso", name := "get", desc := "(I)I" } : Jvm.MethodName) prog_59_method_4_code (2 : Nat) (Option.some Jvm.ClassFile.FieldType.int)).before args0 about1 = true := code_word (m := ⟨2, 1⟩) (meth := k2m1) (c := k2c1) (by decide +kernel) rfl rfl rfl (by decide +kernel)
def codes1 : List Jvm.Cond := [Jvm.Cond.code x code maxLocals ret, Jvm.Cond.code ({ cls := "com/example/guarded_twins/guardedtwins/model/Lasso", name := "<init>", desc := "([II)V" } : Jvm.MethodName) prog_59_method_1_code (3 : Nat) (Option.none : Option Jvm.ClassFile.FieldType), Jvm.Cond.code ({ cls := "java/lang/Object", name := "<init>", desc := "()V" } : Jvm.MethodName) object_method_1_code (1 : Nat) (Option.none : Option Jvm.ClassFile.FieldType), Jvm.Cond.code ({ cls := "com/example/guarded_twins/guardedtwins/model/Lasso", name := "get", desc := "(I)I" } : Jvm.MethodName) prog_59_method_4_code (2 : Nat) (Option.some Jvm.ClassFile.FieldType.int)]
set_option maxRecDepth 65536 in
theorem codes_eq : words1.filter isCode = codes1 := rfl
theorem w_codes : ∀ c ∈ words1.filter isCode, c.before args0 about1 = true := by
  rw [codes_eq]
  intro c hc
  simp only [codes1, List.mem_cons, List.not_mem_nil, or_false] at hc
  rcases hc with rfl | rfl | rfl | rfl
  · exact w_c0
  · exact w_c1
  · exact w_c2
  · exact w_c3
set_option maxRecDepth 65536 in
theorem w_t1 : (words1.take 24).all (fun c => isCode c || c.before args0 about1) = true := by decide +kernel
set_option maxRecDepth 65536 in
theorem w_t2 : (words1.drop 24).all (fun c => isCode c || c.before args0 about1) = true := by decide +kernel
theorem w_tables : (allAtoms (Jvm.Cond.code x code maxLocals ret :: tables_1)).before args0 about1 = true := by
  rw [allAtoms_all]
  show words1.all (fun c => c.before args0 about1) = true
  refine all_split ?_ w_codes
  rw [← List.take_append_drop 24 words1, List.all_append, w_t1, w_t2]
  rfl
set_option maxRecDepth 65536 in
theorem w_case : (Jvm.Cond.and given_1 narrow_1).before args0 about1 = true := by decide +kernel
theorem w_applies : (headSpec (Jvm.Cond.code x code maxLocals ret :: tables_1) room_1).applies x e0.platform about1 = true :=
  (Spec.applies_iff w_frames).mpr ⟨w_running, w_runnable, w_alone, w_named, w_hears, w_ripe, w_room, w_tables⟩
theorem atStart : AtStart classFile x code maxLocals ret World_1 tables_1 room_1 Calls_1 rest_1 Pre_1 launch0 p0 e0 about1 theMethod args0 below0 :=
  ⟨lists_1, trivial, launch0.admits_env _ _ _, launch0.least_env, fairChoices_fair.cas, fairChoices_fair.clock, w_frames, w_args, w_heap, w_applies, trivial, trivial, w_case⟩
end start1
theorem witness_1 : WitnessClaimed_1 := ⟨start1.p0, start1.e0, start1.about1, start1.theMethod, start1.args0, start1.below0, start1.atStart⟩
end Jvm.Pilot.@@N@@
