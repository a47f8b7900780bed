import JvmDerived
import JvmDerived.Pilot.@@N@@Statement
import JvmDerived.Pilot.@@N@@Code
set_option linter.unusedVariables false
set_option linter.unusedSimpArgs false
namespace Jvm.Pilot.@@N@@
open Jvm Jvm.ClassFile Sem Op Lib Jvm.Free Jvm.Stand Jvm.LawKit Jvm.RoadKit Bundle Jvm.Pilot.@@N@@.Jvm.D
section OwnKit
variable {p : Program} {l : Launch} {e : Env} {R : Room} {s : State} {m : MethodId} {args : Array Value} {below : List Frame} {meth : Method} {c : Code} {T : State} {locs : List Loc} {cells slots : Nat} {Z : State} {a0 : Array Value} {h : Heap} {pc : Nat} {Ls : Array Slot} {S : List Value} {Q : Option Value → Heap → List Loc → Prop} {K J : Nat} {Fn : Outcome → State → List Loc → Prop}
/-- from here the body comes to its return, and then Q holds -/
def Go (p : Program) (e : Env) (below : List Frame) (Fn : Outcome → State → List Loc → Prop) (Q : Option Value → Heap → List Loc → Prop) (T : State) (g : JFrame) : Prop :=
  ∃ s₂ o, Steps p.tables e below (T.setTop g) s₂ ∧ s₂.status = .running ∧ Ended s₂ below o ∧ ∃ v L, o = .returned v ∧ Q v s₂.heap L ∧ Fn o s₂ L
theorem Go.st {T' : State} {g g' : JFrame} (st : ∀ t, Steps p.tables e below (T'.setTop g') t → Steps p.tables e below (T.setTop g) t) (k : Go p e below Fn Q T' g') : Go p e below Fn Q T g := by
  obtain ⟨s2, o, h1, h2⟩ := k
  exact ⟨s2, o, st _ h1, h2⟩
theorem own_w {d : Jvm.Cond} (hw : ∀ d ∈ tables_1, d.before a0 Z = true) (i : Nat) (h : tables_1[i]? = some d) : d.before a0 Z = true := hw _ (List.mem_of_getElem? h)
/-- a body's contract, at the heap h0 -/
def OwnMet (l : Launch) (Z : State) (y : MethodName) (bytes : ByteArray) (maxL : Nat) (ret : Option FieldType) (ws : List Jvm.Cond) (rm : Room) (as' : List Value) (h0 : Heap) (Qc : Option Value → Heap → List Loc → Prop) : Prop :=
  MetFree l y (head1 (Jvm.Cond.code y bytes maxL ret :: ws) rm) (fun a U => a = as'.toArray ∧ Z.Warmed39 U.vm ∧ U.heap = h0) (fun _ _ _ _ _ => True) (fun _ U o U' => ∃ v L, o = .returned v ∧ Qc v U'.heap L ∧ FrameEnd U o U' L rm.cells rm.slots)
theorem own_body {y : MethodName} {bytes : ByteArray} {maxL : Nat} {ret : Option FieldType} {ws : List Jvm.Cond} {rm : Room} {as' : List Value} {h0 : Heap} {Qc : Option Value → Heap → List Loc → Prop} {Ls : Array Slot} (hpl : plainFor y = true) (hef : ∀ m, entryFrame m as'.toArray maxL = mkF m 0 Ls [])
    (k : ∀ (p : Program) (e : Env) (s : State) (m : MethodId) (below : List Frame) (meth : Method) (c : Code) (T : State), p.tables.exec = Jvm.exec → c.code = bytes → c.maxLocals = maxL → s.vm.findClass y.cls = some m.cls → meth.name = y.name → meth.sig.returnType = ret → meth.locks = false → Z.Warmed39 s.vm → Stand p l e rm s m as'.toArray below meth c T [] 0 0 → T.heap = h0 → Go p e below (fun o t L => FrameEnd s o t L rm.cells rm.slots) Qc T (mkF m 0 Ls [])) : OwnMet l Z y bytes maxL ret ws rm as' h0 Qc := by
  refine MetFree.of_bodySF hpl hisR ?_
  intro p e s m args below meth c s₁ Bd hml0 hP hK
  obtain ⟨rfl, hZ, hh⟩ := hP
  have e0 : s₁.heap = h0 := by rw [← hh, Bd.state]; rfl
  have g := k p e s m below meth c s₁ Bd.exec Bd.bytes hml0 (findClass_of_methodNamed Bd.named) (name_of_methodNamed Bd.named Bd.method).1 Bd.returns (BodyLoose.notSynchronized Bd) hZ (Stand.of_body Bd) e0
  rw [hef]
  exact g
theorem Go.mono {Q' : Option Value → Heap → List Loc → Prop} {g : JFrame} (k : Go p e below Fn Q' T g) (hq : ∀ v h L, Q' v h L → Q v h L) : Go p e below Fn Q T g := by
  obtain ⟨s2, o, h1, h2, h3, v, L, h4, h5, h6⟩ := k
  exact ⟨s2, o, h1, h2, h3, v, L, h4, hq _ _ _ h5, h6⟩

theorem g_iloadN (X : Stand p l e R s m args below meth c T locs cells slots) (hx : p.tables.exec = Jvm.exec) (q : Nat) {k : Fin 4} {v : Int32} (hd : decode c.code pc = .ok (.iload_n k, 1)) (hl : Ls[k.val]? = some (.val (.int v))) (hq : pc + 1 = q) (k : Go p e below Fn Q T (mkF m q Ls (.int v :: S))) : Go p e below Fn Q T (mkF m pc Ls (S)) := by
  subst hq; exact k.st fun _ z => XS.iloadN X.here hx rfl hd hl z
theorem g_iload (X : Stand p l e R s m args below meth c T locs cells slots) (hx : p.tables.exec = Jvm.exec) (q : Nat) {k : Nat} {v : Int32} (hd : decode c.code pc = .ok (.iload k, 2)) (hl : Ls[k]? = some (.val (.int v))) (hq : pc + 2 = q) (k : Go p e below Fn Q T (mkF m q Ls (.int v :: S))) : Go p e below Fn Q T (mkF m pc Ls (S)) := by
  subst hq; exact k.st fun _ z => XS.iload X.here hx rfl hd hl z
theorem g_istoreN (X : Stand p l e R s m args below meth c T locs cells slots) (hx : p.tables.exec = Jvm.exec) (q : Nat) {k : Fin 4} {v : Int32} (l' : Array Slot) (hd : decode c.code pc = .ok (.istore_n k, 1)) (hl : storeLocals Ls k.val (.int v) = some l') (hq : pc + 1 = q) (k : Go p e below Fn Q T (mkF m q l' (S))) : Go p e below Fn Q T (mkF m pc Ls (.int v :: S)) := by
  subst hq; exact k.st fun _ z => XS.istoreN X.here hx rfl hd rfl hl z
theorem g_istore (X : Stand p l e R s m args below meth c T locs cells slots) (hx : p.tables.exec = Jvm.exec) (q : Nat) {k : Nat} {v : Int32} (l' : Array Slot) (hd : decode c.code pc = .ok (.istore k, 2)) (hl : storeLocals Ls k (.int v) = some l') (hq : pc + 2 = q) (k : Go p e below Fn Q T (mkF m q l' (S))) : Go p e below Fn Q T (mkF m pc Ls (.int v :: S)) := by
  subst hq; exact k.st fun _ z => XS.istore X.here hx rfl hd rfl hl z
theorem g_lloadN (X : Stand p l e R s m args below meth c T locs cells slots) (hx : p.tables.exec = Jvm.exec) (q : Nat) {k : Fin 4} {v : Int64} (hd : decode c.code pc = .ok (.lload_n k, 1)) (hl : Ls[k.val]? = some (.val (.long v))) (hq : pc + 1 = q) (k : Go p e below Fn Q T (mkF m q Ls (.long v :: S))) : Go p e below Fn Q T (mkF m pc Ls (S)) := by
  subst hq; exact k.st fun _ z => XS.lloadN X.here hx rfl hd hl z
theorem g_lload (X : Stand p l e R s m args below meth c T locs cells slots) (hx : p.tables.exec = Jvm.exec) (q : Nat) {k : Nat} {v : Int64} (hd : decode c.code pc = .ok (.lload k, 2)) (hl : Ls[k]? = some (.val (.long v))) (hq : pc + 2 = q) (k : Go p e below Fn Q T (mkF m q Ls (.long v :: S))) : Go p e below Fn Q T (mkF m pc Ls (S)) := by
  subst hq; exact k.st fun _ z => XS.lload X.here hx rfl hd hl z
theorem g_lstoreN (X : Stand p l e R s m args below meth c T locs cells slots) (hx : p.tables.exec = Jvm.exec) (q : Nat) {k : Fin 4} {v : Int64} (l' : Array Slot) (hd : decode c.code pc = .ok (.lstore_n k, 1)) (hl : storeLocals Ls k.val (.long v) = some l') (hq : pc + 1 = q) (k : Go p e below Fn Q T (mkF m q l' (S))) : Go p e below Fn Q T (mkF m pc Ls (.long v :: S)) := by
  subst hq; exact k.st fun _ z => XS.lstoreN X.here hx rfl hd rfl hl z
theorem g_lstore (X : Stand p l e R s m args below meth c T locs cells slots) (hx : p.tables.exec = Jvm.exec) (q : Nat) {k : Nat} {v : Int64} (l' : Array Slot) (hd : decode c.code pc = .ok (.lstore k, 2)) (hl : storeLocals Ls k (.long v) = some l') (hq : pc + 2 = q) (k : Go p e below Fn Q T (mkF m q l' (S))) : Go p e below Fn Q T (mkF m pc Ls (.long v :: S)) := by
  subst hq; exact k.st fun _ z => XS.lstore X.here hx rfl hd rfl hl z
theorem g_aloadN (X : Stand p l e R s m args below meth c T locs cells slots) (hx : p.tables.exec = Jvm.exec) (q : Nat) {k : Fin 4} {v : Value} (hd : decode c.code pc = .ok (.aload_n k, 1)) (hl : Ls[k.val]? = some (.val v)) (hv : v.isRef = true) (hq : pc + 1 = q) (k : Go p e below Fn Q T (mkF m q Ls (v :: S))) : Go p e below Fn Q T (mkF m pc Ls (S)) := by
  subst hq; exact k.st fun _ z => XS.aloadN X.here hx rfl hd hl hv z
theorem g_aload (X : Stand p l e R s m args below meth c T locs cells slots) (hx : p.tables.exec = Jvm.exec) (q : Nat) {k : Nat} {v : Value} (hd : decode c.code pc = .ok (.aload k, 2)) (hl : Ls[k]? = some (.val v)) (hv : v.isRef = true) (hq : pc + 2 = q) (k : Go p e below Fn Q T (mkF m q Ls (v :: S))) : Go p e below Fn Q T (mkF m pc Ls (S)) := by
  subst hq; exact k.st fun _ z => XS.aload X.here hx rfl hd hl hv z
theorem g_astoreN (X : Stand p l e R s m args below meth c T locs cells slots) (hx : p.tables.exec = Jvm.exec) (q : Nat) {k : Fin 4} {v : Value} (l' : Array Slot) (hd : decode c.code pc = .ok (.astore_n k, 1)) (hv : v.isRef = true) (hl : storeLocals Ls k.val v = some l') (hq : pc + 1 = q) (k : Go p e below Fn Q T (mkF m q l' (S))) : Go p e below Fn Q T (mkF m pc Ls (v :: S)) := by
  subst hq; exact k.st fun _ z => XS.astoreN X.here hx rfl hd rfl hv hl z
theorem g_astore (X : Stand p l e R s m args below meth c T locs cells slots) (hx : p.tables.exec = Jvm.exec) (q : Nat) {k : Nat} {v : Value} (l' : Array Slot) (hd : decode c.code pc = .ok (.astore k, 2)) (hv : v.isRef = true) (hl : storeLocals Ls k v = some l') (hq : pc + 2 = q) (k : Go p e below Fn Q T (mkF m q l' (S))) : Go p e below Fn Q T (mkF m pc Ls (v :: S)) := by
  subst hq; exact k.st fun _ z => XS.astore X.here hx rfl hd rfl hv hl z
theorem g_iconst (X : Stand p l e R s m args below meth c T locs cells slots) (hx : p.tables.exec = Jvm.exec) (q : Nat) {i : Int} (v : Int32) (hd : decode c.code pc = .ok (.iconst i, 1)) (hv : Int32.ofInt i = v) (hq : pc + 1 = q) (k : Go p e below Fn Q T (mkF m q Ls (.int v :: S))) : Go p e below Fn Q T (mkF m pc Ls (S)) := by
  subst hq; exact k.st fun _ z => XS.iconst X.here hx rfl hd (hv ▸ z)
theorem g_bipush (X : Stand p l e R s m args below meth c T locs cells slots) (hx : p.tables.exec = Jvm.exec) (q : Nat) {i : Int} (v : Int32) (hd : decode c.code pc = .ok (.bipush i, 2)) (hv : (Int8.ofInt i).toInt32 = v) (hq : pc + 2 = q) (k : Go p e below Fn Q T (mkF m q Ls (.int v :: S))) : Go p e below Fn Q T (mkF m pc Ls (S)) := by
  subst hq; exact k.st fun _ z => XS.bipush X.here hx rfl hd (hv ▸ z)
theorem g_sipush (X : Stand p l e R s m args below meth c T locs cells slots) (hx : p.tables.exec = Jvm.exec) (q : Nat) {i : Int} (v : Int32) (hd : decode c.code pc = .ok (.sipush i, 3)) (hv : (Int16.ofInt i).toInt32 = v) (hq : pc + 3 = q) (k : Go p e below Fn Q T (mkF m q Ls (.int v :: S))) : Go p e below Fn Q T (mkF m pc Ls (S)) := by
  subst hq; exact k.st fun _ z => XS.sipush X.here hx rfl hd (hv ▸ z)
theorem g_lconst (X : Stand p l e R s m args below meth c T locs cells slots) (hx : p.tables.exec = Jvm.exec) (q : Nat) {k : Fin 2} (v : Int64) (hd : decode c.code pc = .ok (.lconst k, 1)) (hv : Int64.ofNat k = v) (hq : pc + 1 = q) (k : Go p e below Fn Q T (mkF m q Ls (.long v :: S))) : Go p e below Fn Q T (mkF m pc Ls (S)) := by
  subst hq; exact k.st fun _ z => XS.lconst X.here hx rfl hd (hv ▸ z)
theorem g_aconst_null (X : Stand p l e R s m args below meth c T locs cells slots) (hx : p.tables.exec = Jvm.exec) (q : Nat)  (hd : decode c.code pc = .ok (.aconst_null, 1))  (hq : pc + 1 = q) (k : Go p e below Fn Q T (mkF m q Ls (.null :: S))) : Go p e below Fn Q T (mkF m pc Ls (S)) := by
  subst hq; exact k.st fun _ z => XS.aconstNull X.here hx rfl hd z
theorem g_iadd (X : Stand p l e R s m args below meth c T locs cells slots) (hx : p.tables.exec = Jvm.exec) (q : Nat) {x y : Int32} (w : Int32) (hd : decode c.code pc = .ok (.iadd, 1)) (hv : x + y = w) (hq : pc + 1 = q) (k : Go p e below Fn Q T (mkF m q Ls (.int w :: S))) : Go p e below Fn Q T (mkF m pc Ls (.int y :: .int x :: S)) := by
  subst hq; exact k.st fun _ z => XS.iadd X.here hx rfl hd rfl (hv ▸ z)
theorem g_isub (X : Stand p l e R s m args below meth c T locs cells slots) (hx : p.tables.exec = Jvm.exec) (q : Nat) {x y : Int32} (w : Int32) (hd : decode c.code pc = .ok (.isub, 1)) (hv : x - y = w) (hq : pc + 1 = q) (k : Go p e below Fn Q T (mkF m q Ls (.int w :: S))) : Go p e below Fn Q T (mkF m pc Ls (.int y :: .int x :: S)) := by
  subst hq; exact k.st fun _ z => XS.isub X.here hx rfl hd rfl (hv ▸ z)
theorem g_imul (X : Stand p l e R s m args below meth c T locs cells slots) (hx : p.tables.exec = Jvm.exec) (q : Nat) {x y : Int32} (w : Int32) (hd : decode c.code pc = .ok (.imul, 1)) (hv : x * y = w) (hq : pc + 1 = q) (k : Go p e below Fn Q T (mkF m q Ls (.int w :: S))) : Go p e below Fn Q T (mkF m pc Ls (.int y :: .int x :: S)) := by
  subst hq; exact k.st fun _ z => XS.imul X.here hx rfl hd rfl (hv ▸ z)
theorem g_iand (X : Stand p l e R s m args below meth c T locs cells slots) (hx : p.tables.exec = Jvm.exec) (q : Nat) {x y : Int32} (w : Int32) (hd : decode c.code pc = .ok (.iand, 1)) (hv : x &&& y = w) (hq : pc + 1 = q) (k : Go p e below Fn Q T (mkF m q Ls (.int w :: S))) : Go p e below Fn Q T (mkF m pc Ls (.int y :: .int x :: S)) := by
  subst hq; exact k.st fun _ z => XS.iand X.here hx rfl hd rfl (hv ▸ z)
theorem g_ior (X : Stand p l e R s m args below meth c T locs cells slots) (hx : p.tables.exec = Jvm.exec) (q : Nat) {x y : Int32} (w : Int32) (hd : decode c.code pc = .ok (.ior, 1)) (hv : x ||| y = w) (hq : pc + 1 = q) (k : Go p e below Fn Q T (mkF m q Ls (.int w :: S))) : Go p e below Fn Q T (mkF m pc Ls (.int y :: .int x :: S)) := by
  subst hq; exact k.st fun _ z => XS.ior X.here hx rfl hd rfl (hv ▸ z)
theorem g_ixor (X : Stand p l e R s m args below meth c T locs cells slots) (hx : p.tables.exec = Jvm.exec) (q : Nat) {x y : Int32} (w : Int32) (hd : decode c.code pc = .ok (.ixor, 1)) (hv : x ^^^ y = w) (hq : pc + 1 = q) (k : Go p e below Fn Q T (mkF m q Ls (.int w :: S))) : Go p e below Fn Q T (mkF m pc Ls (.int y :: .int x :: S)) := by
  subst hq; exact k.st fun _ z => XS.ixor X.here hx rfl hd rfl (hv ▸ z)
theorem g_ishl (X : Stand p l e R s m args below meth c T locs cells slots) (hx : p.tables.exec = Jvm.exec) (q : Nat) {x y : Int32} (w : Int32) (hd : decode c.code pc = .ok (.ishl, 1)) (hv : x <<< (y &&& 31) = w) (hq : pc + 1 = q) (k : Go p e below Fn Q T (mkF m q Ls (.int w :: S))) : Go p e below Fn Q T (mkF m pc Ls (.int y :: .int x :: S)) := by
  subst hq; exact k.st fun _ z => XS.ishl X.here hx rfl hd rfl (hv ▸ z)
theorem g_ishr (X : Stand p l e R s m args below meth c T locs cells slots) (hx : p.tables.exec = Jvm.exec) (q : Nat) {x y : Int32} (w : Int32) (hd : decode c.code pc = .ok (.ishr, 1)) (hv : x >>> (y &&& 31) = w) (hq : pc + 1 = q) (k : Go p e below Fn Q T (mkF m q Ls (.int w :: S))) : Go p e below Fn Q T (mkF m pc Ls (.int y :: .int x :: S)) := by
  subst hq; exact k.st fun _ z => XS.ishr X.here hx rfl hd rfl (hv ▸ z)
theorem g_iushr (X : Stand p l e R s m args below meth c T locs cells slots) (hx : p.tables.exec = Jvm.exec) (q : Nat) {x y : Int32} (w : Int32) (hd : decode c.code pc = .ok (.iushr, 1)) (hv : (x.toUInt32 >>> (y &&& 31).toUInt32).toInt32 = w) (hq : pc + 1 = q) (k : Go p e below Fn Q T (mkF m q Ls (.int w :: S))) : Go p e below Fn Q T (mkF m pc Ls (.int y :: .int x :: S)) := by
  subst hq; exact k.st fun _ z => XS.iushr X.here hx rfl hd rfl (hv ▸ z)
theorem g_ladd (X : Stand p l e R s m args below meth c T locs cells slots) (hx : p.tables.exec = Jvm.exec) (q : Nat) {x y : Int64} (w : Int64) (hd : decode c.code pc = .ok (.ladd, 1)) (hv : x + y = w) (hq : pc + 1 = q) (k : Go p e below Fn Q T (mkF m q Ls (.long w :: S))) : Go p e below Fn Q T (mkF m pc Ls (.long y :: .long x :: S)) := by
  subst hq; exact k.st fun _ z => XS.ladd X.here hx rfl hd rfl (hv ▸ z)
theorem g_lsub (X : Stand p l e R s m args below meth c T locs cells slots) (hx : p.tables.exec = Jvm.exec) (q : Nat) {x y : Int64} (w : Int64) (hd : decode c.code pc = .ok (.lsub, 1)) (hv : x - y = w) (hq : pc + 1 = q) (k : Go p e below Fn Q T (mkF m q Ls (.long w :: S))) : Go p e below Fn Q T (mkF m pc Ls (.long y :: .long x :: S)) := by
  subst hq; exact k.st fun _ z => XS.lsub X.here hx rfl hd rfl (hv ▸ z)
theorem g_lmul (X : Stand p l e R s m args below meth c T locs cells slots) (hx : p.tables.exec = Jvm.exec) (q : Nat) {x y : Int64} (w : Int64) (hd : decode c.code pc = .ok (.lmul, 1)) (hv : x * y = w) (hq : pc + 1 = q) (k : Go p e below Fn Q T (mkF m q Ls (.long w :: S))) : Go p e below Fn Q T (mkF m pc Ls (.long y :: .long x :: S)) := by
  subst hq; exact k.st fun _ z => XS.lmul X.here hx rfl hd rfl (hv ▸ z)
theorem g_land (X : Stand p l e R s m args below meth c T locs cells slots) (hx : p.tables.exec = Jvm.exec) (q : Nat) {x y : Int64} (w : Int64) (hd : decode c.code pc = .ok (.land, 1)) (hv : x &&& y = w) (hq : pc + 1 = q) (k : Go p e below Fn Q T (mkF m q Ls (.long w :: S))) : Go p e below Fn Q T (mkF m pc Ls (.long y :: .long x :: S)) := by
  subst hq; exact k.st fun _ z => XS.land X.here hx rfl hd rfl (hv ▸ z)
theorem g_lor (X : Stand p l e R s m args below meth c T locs cells slots) (hx : p.tables.exec = Jvm.exec) (q : Nat) {x y : Int64} (w : Int64) (hd : decode c.code pc = .ok (.lor, 1)) (hv : x ||| y = w) (hq : pc + 1 = q) (k : Go p e below Fn Q T (mkF m q Ls (.long w :: S))) : Go p e below Fn Q T (mkF m pc Ls (.long y :: .long x :: S)) := by
  subst hq; exact k.st fun _ z => XS.lor X.here hx rfl hd rfl (hv ▸ z)
theorem g_lxor (X : Stand p l e R s m args below meth c T locs cells slots) (hx : p.tables.exec = Jvm.exec) (q : Nat) {x y : Int64} (w : Int64) (hd : decode c.code pc = .ok (.lxor, 1)) (hv : x ^^^ y = w) (hq : pc + 1 = q) (k : Go p e below Fn Q T (mkF m q Ls (.long w :: S))) : Go p e below Fn Q T (mkF m pc Ls (.long y :: .long x :: S)) := by
  subst hq; exact k.st fun _ z => XS.lxor X.here hx rfl hd rfl (hv ▸ z)
theorem g_lshl (X : Stand p l e R s m args below meth c T locs cells slots) (hx : p.tables.exec = Jvm.exec) (q : Nat) {x : Int64} {y : Int32} (w : Int64) (hd : decode c.code pc = .ok (.lshl, 1)) (hv : x <<< (y &&& 0x3f).toInt64 = w) (hq : pc + 1 = q) (k : Go p e below Fn Q T (mkF m q Ls (.long w :: S))) : Go p e below Fn Q T (mkF m pc Ls (.int y :: .long x :: S)) := by
  subst hq; exact k.st fun _ z => XS.lshl X.here hx rfl hd rfl (hv ▸ z)
theorem g_lshr (X : Stand p l e R s m args below meth c T locs cells slots) (hx : p.tables.exec = Jvm.exec) (q : Nat) {x : Int64} {y : Int32} (w : Int64) (hd : decode c.code pc = .ok (.lshr, 1)) (hv : x >>> (y &&& 0x3f).toInt64 = w) (hq : pc + 1 = q) (k : Go p e below Fn Q T (mkF m q Ls (.long w :: S))) : Go p e below Fn Q T (mkF m pc Ls (.int y :: .long x :: S)) := by
  subst hq; exact k.st fun _ z => XS.lshr X.here hx rfl hd rfl (hv ▸ z)
theorem g_lushr (X : Stand p l e R s m args below meth c T locs cells slots) (hx : p.tables.exec = Jvm.exec) (q : Nat) {x : Int64} {y : Int32} (w : Int64) (hd : decode c.code pc = .ok (.lushr, 1)) (hv : (x.toUInt64 >>> (y &&& 0x3f).toInt64.toUInt64).toInt64 = w) (hq : pc + 1 = q) (k : Go p e below Fn Q T (mkF m q Ls (.long w :: S))) : Go p e below Fn Q T (mkF m pc Ls (.int y :: .long x :: S)) := by
  subst hq; exact k.st fun _ z => XS.lushr X.here hx rfl hd rfl (hv ▸ z)
theorem g_lcmp (X : Stand p l e R s m args below meth c T locs cells slots) (hx : p.tables.exec = Jvm.exec) (q : Nat) {x y : Int64} (hd : decode c.code pc = .ok (.lcmp, 1))  (hq : pc + 1 = q) (k : Go p e below Fn Q T (mkF m q Ls (.int (lcmpW x y) :: S))) : Go p e below Fn Q T (mkF m pc Ls (.long y :: .long x :: S)) := by
  subst hq; exact k.st fun _ z => XS.lcmp X.here hx rfl hd rfl z
theorem g_idiv (X : Stand p l e R s m args below meth c T locs cells slots) (hx : p.tables.exec = Jvm.exec) (q : Nat) {x y : Int32} (w : Int32) (hd : decode c.code pc = .ok (.idiv, 1)) (hy : y ≠ 0) (hv : x / y = w) (hq : pc + 1 = q) (k : Go p e below Fn Q T (mkF m q Ls (.int w :: S))) : Go p e below Fn Q T (mkF m pc Ls (.int y :: .int x :: S)) := by
  subst hq; exact k.st fun _ z => XS.idiv X.here hx rfl hd rfl hy (hv ▸ z)
theorem g_irem (X : Stand p l e R s m args below meth c T locs cells slots) (hx : p.tables.exec = Jvm.exec) (q : Nat) {x y : Int32} (w : Int32) (hd : decode c.code pc = .ok (.irem, 1)) (hy : y ≠ 0) (hv : x % y = w) (hq : pc + 1 = q) (k : Go p e below Fn Q T (mkF m q Ls (.int w :: S))) : Go p e below Fn Q T (mkF m pc Ls (.int y :: .int x :: S)) := by
  subst hq; exact k.st fun _ z => iremM X hx rfl hd rfl hy (hv ▸ z)
theorem g_ldiv (X : Stand p l e R s m args below meth c T locs cells slots) (hx : p.tables.exec = Jvm.exec) (q : Nat) {x y : Int64} (w : Int64) (hd : decode c.code pc = .ok (.ldiv, 1)) (hy : y ≠ 0) (hv : x / y = w) (hq : pc + 1 = q) (k : Go p e below Fn Q T (mkF m q Ls (.long w :: S))) : Go p e below Fn Q T (mkF m pc Ls (.long y :: .long x :: S)) := by
  subst hq; exact k.st fun _ z => XS.ldiv X.here hx rfl hd rfl hy (hv ▸ z)
theorem g_ineg (X : Stand p l e R s m args below meth c T locs cells slots) (hx : p.tables.exec = Jvm.exec) (q : Nat) {x : Int32} (w : Int32) (hd : decode c.code pc = .ok (.ineg, 1)) (hv : -x = w) (hq : pc + 1 = q) (k : Go p e below Fn Q T (mkF m q Ls (.int w :: S))) : Go p e below Fn Q T (mkF m pc Ls (.int x :: S)) := by
  subst hq; exact k.st fun _ z => XS.ineg X.here hx rfl hd rfl (hv ▸ z)
theorem g_lneg (X : Stand p l e R s m args below meth c T locs cells slots) (hx : p.tables.exec = Jvm.exec) (q : Nat) {x : Int64} (w : Int64) (hd : decode c.code pc = .ok (.lneg, 1)) (hv : -x = w) (hq : pc + 1 = q) (k : Go p e below Fn Q T (mkF m q Ls (.long w :: S))) : Go p e below Fn Q T (mkF m pc Ls (.long x :: S)) := by
  subst hq; exact k.st fun _ z => XS.lneg X.here hx rfl hd rfl (hv ▸ z)
theorem g_i2l (X : Stand p l e R s m args below meth c T locs cells slots) (hx : p.tables.exec = Jvm.exec) (q : Nat) {x : Int32} (w : Int64) (hd : decode c.code pc = .ok (.i2l, 1)) (hv : x.toInt64 = w) (hq : pc + 1 = q) (k : Go p e below Fn Q T (mkF m q Ls (.long w :: S))) : Go p e below Fn Q T (mkF m pc Ls (.int x :: S)) := by
  subst hq; exact k.st fun _ z => XS.i2l X.here hx rfl hd rfl (hv ▸ z)
theorem g_l2i (X : Stand p l e R s m args below meth c T locs cells slots) (hx : p.tables.exec = Jvm.exec) (q : Nat) {x : Int64} (w : Int32) (hd : decode c.code pc = .ok (.l2i, 1)) (hv : x.toInt32 = w) (hq : pc + 1 = q) (k : Go p e below Fn Q T (mkF m q Ls (.int w :: S))) : Go p e below Fn Q T (mkF m pc Ls (.long x :: S)) := by
  subst hq; exact k.st fun _ z => XS.l2i X.here hx rfl hd rfl (hv ▸ z)
theorem g_i2c (X : Stand p l e R s m args below meth c T locs cells slots) (hx : p.tables.exec = Jvm.exec) (q : Nat) {x : Int32} (w : Int32) (hd : decode c.code pc = .ok (.i2c, 1)) (hv : x.toUInt32.toUInt16.toUInt32.toInt32 = w) (hq : pc + 1 = q) (k : Go p e below Fn Q T (mkF m q Ls (.int w :: S))) : Go p e below Fn Q T (mkF m pc Ls (.int x :: S)) := by
  subst hq; exact k.st fun _ z => XS.i2c X.here hx rfl hd rfl (hv ▸ z)
theorem g_i2b (X : Stand p l e R s m args below meth c T locs cells slots) (hx : p.tables.exec = Jvm.exec) (q : Nat) {x : Int32} (w : Int32) (hd : decode c.code pc = .ok (.i2b, 1)) (hv : x.toInt8.toInt32 = w) (hq : pc + 1 = q) (k : Go p e below Fn Q T (mkF m q Ls (.int w :: S))) : Go p e below Fn Q T (mkF m pc Ls (.int x :: S)) := by
  subst hq; exact k.st fun _ z => XS.i2b X.here hx rfl hd rfl (hv ▸ z)
theorem g_i2s (X : Stand p l e R s m args below meth c T locs cells slots) (hx : p.tables.exec = Jvm.exec) (q : Nat) {x : Int32} (w : Int32) (hd : decode c.code pc = .ok (.i2s, 1)) (hv : x.toInt16.toInt32 = w) (hq : pc + 1 = q) (k : Go p e below Fn Q T (mkF m q Ls (.int w :: S))) : Go p e below Fn Q T (mkF m pc Ls (.int x :: S)) := by
  subst hq; exact k.st fun _ z => XS.i2s X.here hx rfl hd rfl (hv ▸ z)
theorem g_dup (X : Stand p l e R s m args below meth c T locs cells slots) (hx : p.tables.exec = Jvm.exec) (q : Nat) {v : Value} (hd : decode c.code pc = .ok (.dup, 1)) (hc : v.category = 1) (hq : pc + 1 = q) (k : Go p e below Fn Q T (mkF m q Ls (v :: v :: S))) : Go p e below Fn Q T (mkF m pc Ls (v :: S)) := by
  subst hq; exact k.st fun _ z => XS.dup X.here hx rfl hd rfl hc z
theorem g_pop (X : Stand p l e R s m args below meth c T locs cells slots) (hx : p.tables.exec = Jvm.exec) (q : Nat) {v : Value} (hd : decode c.code pc = .ok (.pop, 1)) (hc : v.category = 1) (hq : pc + 1 = q) (k : Go p e below Fn Q T (mkF m q Ls (S))) : Go p e below Fn Q T (mkF m pc Ls (v :: S)) := by
  subst hq; exact k.st fun _ z => XS.pop X.here hx rfl hd rfl hc z
theorem g_dup_x1 (X : Stand p l e R s m args below meth c T locs cells slots) (hx : p.tables.exec = Jvm.exec) (q : Nat) {v w : Value} (hd : decode c.code pc = .ok (.dup_x1, 1)) (hc : v.category = 1) (hc' : w.category = 1) (hq : pc + 1 = q) (k : Go p e below Fn Q T (mkF m q Ls (v :: w :: v :: S))) : Go p e below Fn Q T (mkF m pc Ls (v :: w :: S)) := by
  subst hq; exact k.st fun _ z => XS.dupX1 X.here hx rfl hd rfl hc hc' z
theorem g_dup2L (X : Stand p l e R s m args below meth c T locs cells slots) (hx : p.tables.exec = Jvm.exec) (q : Nat) {x : Int64} (hd : decode c.code pc = .ok (.dup2, 1))  (hq : pc + 1 = q) (k : Go p e below Fn Q T (mkF m q Ls (.long x :: .long x :: S))) : Go p e below Fn Q T (mkF m pc Ls (.long x :: S)) := by
  subst hq; exact k.st fun _ z => Jvm.Free.XT.dup2L X.here hx rfl hd rfl z
theorem g_dup2 (X : Stand p l e R s m args below meth c T locs cells slots) (hx : p.tables.exec = Jvm.exec) (q : Nat) {v w : Value} (hd : decode c.code pc = .ok (.dup2, 1)) (hc : v.category = 1) (hc' : w.category = 1) (hq : pc + 1 = q) (k : Go p e below Fn Q T (mkF m q Ls (v :: w :: v :: w :: S))) : Go p e below Fn Q T (mkF m pc Ls (v :: w :: S)) := by
  subst hq; exact k.st fun _ z => Jvm.Free.XT.dup2 X.here hx rfl hd rfl hc hc' z
theorem g_iinc (X : Stand p l e R s m args below meth c T locs cells slots) (hx : p.tables.exec = Jvm.exec) (q : Nat) {k : Nat} {cst : Int} {x : Int32} (w : Int32) (l' : Array Slot) (hd : decode c.code pc = .ok (.iinc k cst, 3)) (hl : Ls[k]? = some (.val (.int x))) (hv : x + Int32.ofInt cst = w) (hl' : storeLocals Ls k (.int w) = some l') (hq : pc + 3 = q) (k : Go p e below Fn Q T (mkF m q l' (S))) : Go p e below Fn Q T (mkF m pc Ls (S)) := by
  subst hq; exact k.st fun _ z => XS.iinc X.here hx rfl hd hl (hv ▸ hl') z
theorem g_ldcI (X : Stand p l e R s m args below meth c T locs cells slots) (hx : p.tables.exec = Jvm.exec) (q : Nat) (hZ : Z.Warmed39 s.vm) {own : String} {index : Nat} {v : Int32} (hown : s.vm.findClass own = some m.cls) (w1 : (Jvm.Cond.constant own index v).before a0 Z = true) (hd : decode c.code pc = .ok (.ldc index, 2))  (hq : pc + 2 = q) (k : Go p e below Fn Q T (mkF m q Ls (.int v :: S))) : Go p e below Fn Q T (mkF m pc Ls (S)) := by
  subst hq; exact k.st fun _ z => X.ldcInt hx hown (mvT hZ w1) (g := mkF m pc Ls S) rfl hd _ z
theorem g_ldc2J (X : Stand p l e R s m args below meth c T locs cells slots) (hx : p.tables.exec = Jvm.exec) (q : Nat) (hZ : Z.Warmed39 s.vm) {own : String} {index : Nat} {v : Int64} (hown : s.vm.findClass own = some m.cls) (w1 : (Jvm.Cond.constantLong own index v).before a0 Z = true) (hd : decode c.code pc = .ok (.ldc2_w index, 3))  (hq : pc + 3 = q) (k : Go p e below Fn Q T (mkF m q Ls (.long v :: S))) : Go p e below Fn Q T (mkF m pc Ls (S)) := by
  subst hq; exact k.st fun _ z => X.ldc2Long hx hown (mvT hZ w1) (g := mkF m pc Ls S) rfl hd _ z
theorem g_goto (X : Stand p l e R s m args below meth c T locs cells slots) (hx : p.tables.exec = Jvm.exec) (q : Nat)  {o : Int} (hd : decode c.code pc = .ok (.goto o, 3))  (ho : 0 ≤ (pc : Int) + o) (hp : ((pc : Int) + o).toNat = q) (k : Go p e below Fn Q T (mkF m q Ls S)) : Go p e below Fn Q T (mkF m pc Ls (S)) := k.st fun _ z => XS.goto X.here hx rfl rfl hd ho hp z
theorem g_ifT (X : Stand p l e R s m args below meth c T locs cells slots) (hx : p.tables.exec = Jvm.exec) (q : Nat) {cd : ClassFile.Cond} {x : Int32} {o : Int} (hd : decode c.code pc = .ok (.ifCond cd o, 3)) (hc : ifCond.holds cd x = true) (ho : 0 ≤ (pc : Int) + o) (hp : ((pc : Int) + o).toNat = q) (k : Go p e below Fn Q T (mkF m q Ls S)) : Go p e below Fn Q T (mkF m pc Ls (.int x :: S)) := k.st fun _ z => XS.ifYes X.here hx rfl rfl hd rfl hc ho hp z
theorem g_ifF (X : Stand p l e R s m args below meth c T locs cells slots) (hx : p.tables.exec = Jvm.exec) (q : Nat) {cd : ClassFile.Cond} {x : Int32} {o : Int} (hd : decode c.code pc = .ok (.ifCond cd o, 3)) (hc : ifCond.holds cd x = false) (hq : pc + 3 = q) (k : Go p e below Fn Q T (mkF m q Ls S)) : Go p e below Fn Q T (mkF m pc Ls (.int x :: S)) := by
  subst hq; exact k.st fun _ z => XS.ifNo X.here hx rfl hd rfl hc z
theorem g_icT (X : Stand p l e R s m args below meth c T locs cells slots) (hx : p.tables.exec = Jvm.exec) (q : Nat) {cd : ClassFile.Cond} {x y : Int32} {o : Int} (hd : decode c.code pc = .ok (.if_icmp cd o, 3)) (hc : if_icmp.holds cd x y = true) (ho : 0 ≤ (pc : Int) + o) (hp : ((pc : Int) + o).toNat = q) (k : Go p e below Fn Q T (mkF m q Ls S)) : Go p e below Fn Q T (mkF m pc Ls (.int y :: .int x :: S)) := k.st fun _ z => XS.icmpYes X.here hx rfl rfl hd rfl hc ho hp z
theorem g_icF (X : Stand p l e R s m args below meth c T locs cells slots) (hx : p.tables.exec = Jvm.exec) (q : Nat) {cd : ClassFile.Cond} {x y : Int32} {o : Int} (hd : decode c.code pc = .ok (.if_icmp cd o, 3)) (hc : if_icmp.holds cd x y = false) (hq : pc + 3 = q) (k : Go p e below Fn Q T (mkF m q Ls S)) : Go p e below Fn Q T (mkF m pc Ls (.int y :: .int x :: S)) := by
  subst hq; exact k.st fun _ z => XS.icmpNo X.here hx rfl hd rfl hc z
theorem g_ifnullT (X : Stand p l e R s m args below meth c T locs cells slots) (hx : p.tables.exec = Jvm.exec) (q : Nat)  {o : Int} (hd : decode c.code pc = .ok (.ifnull o, 3))  (ho : 0 ≤ (pc : Int) + o) (hp : ((pc : Int) + o).toNat = q) (k : Go p e below Fn Q T (mkF m q Ls S)) : Go p e below Fn Q T (mkF m pc Ls (.null :: S)) := k.st fun _ z => XS.ifnullYes X.here hx rfl rfl hd rfl ho hp z
theorem g_ifnullF (X : Stand p l e R s m args below meth c T locs cells slots) (hx : p.tables.exec = Jvm.exec) (q : Nat) {b : Addr} {o : Int} (hd : decode c.code pc = .ok (.ifnull o, 3))  (hq : pc + 3 = q) (k : Go p e below Fn Q T (mkF m q Ls S)) : Go p e below Fn Q T (mkF m pc Ls (.ref b :: S)) := by
  subst hq; exact k.st fun _ z => XS.ifnullNo X.here hx rfl hd rfl z
theorem g_ifnonnullT (X : Stand p l e R s m args below meth c T locs cells slots) (hx : p.tables.exec = Jvm.exec) (q : Nat) {b : Addr} {o : Int} (hd : decode c.code pc = .ok (.ifnonnull o, 3))  (ho : 0 ≤ (pc : Int) + o) (hp : ((pc : Int) + o).toNat = q) (k : Go p e below Fn Q T (mkF m q Ls S)) : Go p e below Fn Q T (mkF m pc Ls (.ref b :: S)) := k.st fun _ z => XS.ifnonnullYes X.here hx rfl rfl hd rfl ho hp z
theorem g_ifnonnullF (X : Stand p l e R s m args below meth c T locs cells slots) (hx : p.tables.exec = Jvm.exec) (q : Nat)  {o : Int} (hd : decode c.code pc = .ok (.ifnonnull o, 3))  (hq : pc + 3 = q) (k : Go p e below Fn Q T (mkF m q Ls S)) : Go p e below Fn Q T (mkF m pc Ls (.null :: S)) := by
  subst hq; exact k.st fun _ z => XS.ifnonnullNo X.here hx rfl hd rfl z
theorem g_ac (X : Stand p l e R s m args below meth c T locs cells slots) (hx : p.tables.exec = Jvm.exec) (q : Nat) {cd : ACond} {v w : Value} {o : Int} (same : Bool) (hd : decode c.code pc = .ok (.if_acmp cd o, 3)) (h1 : v.isRef = true) (h2 : w.isRef = true) (hs : decide (v = w) = same) (ho : 0 ≤ (pc : Int) + o) (hp : q = if acV cd same = true then ((pc : Int) + o).toNat else pc + 3) (k : Go p e below Fn Q T (mkF m q Ls S)) : Go p e below Fn Q T (mkF m pc Ls (w :: v :: S)) := k.st fun _ z => Jvm.RoadKit.acmp X hx rfl h1 h2 rfl hd rfl hs ho hp z
theorem own_ltL {x y : Int64} (h : x < y) : ifCond.holds .lt (lcmpW x y) = true ∧ ifCond.holds .ge (lcmpW x y) = false ∧ ifCond.holds .gt (lcmpW y x) = true ∧ ifCond.holds .le (lcmpW y x) = false := by
  have h1 := (lw_lt x y).mpr h
  have h2 := (lw_gt y x).mpr h
  exact ⟨(if0 _ _).trans (tlt h1).1, (if0 _ _).trans (tlt h1).2.1, (if0 _ _).trans (tlt h2).2.2.1, (if0 _ _).trans (tlt h2).2.2.2⟩
theorem own_nltL {x y : Int64} (h : ¬ x < y) : ifCond.holds .lt (lcmpW x y) = false ∧ ifCond.holds .ge (lcmpW x y) = true ∧ ifCond.holds .gt (lcmpW y x) = false ∧ ifCond.holds .le (lcmpW y x) = true := by
  have h1 : ¬ lcmpW x y < 0 := fun q => h ((lw_lt x y).mp q)
  have h2 : ¬ 0 < lcmpW y x := fun q => h ((lw_gt y x).mp q)
  exact ⟨(if0 _ _).trans (flt h1).1, (if0 _ _).trans (flt h1).2.1, (if0 _ _).trans (flt h2).2.2.1, (if0 _ _).trans (flt h2).2.2.2⟩
theorem own_eqL {x y : Int64} (h : x = y) : ifCond.holds .eq (lcmpW x y) = true ∧ ifCond.holds .ne (lcmpW x y) = false := by
  have h1 := (lw_eq x y).mpr h
  exact ⟨(if0 _ _).trans (teq h1).1, (if0 _ _).trans (teq h1).2⟩
theorem own_neL {x y : Int64} (h : ¬ x = y) : ifCond.holds .eq (lcmpW x y) = false ∧ ifCond.holds .ne (lcmpW x y) = true := by
  have h1 : ¬ lcmpW x y = 0 := fun q => h ((lw_eq x y).mp q)
  exact ⟨(if0 _ _).trans (feq h1).1, (if0 _ _).trans (feq h1).2⟩
theorem g_ret (X : Stand p l e R s m args below meth c T locs cells slots) (hx : p.tables.exec = Jvm.exec) {t : FieldType} {i : Instr} {w : Value} (hret : meth.sig.returnType = some t) (hlk : meth.locks = false) (hn : narrow t w = w) (hi : (i = .ireturn ∧ (t = .int ∨ t = .boolean ∨ t = .byte ∨ t = .char ∨ t = .short) ∧ ∃ z, w = .int z) ∨ (i = .lreturn ∧ t = .long ∧ ∃ z, w = .long z) ∨ (i = .dreturn ∧ t = .double ∧ ∃ z, w = .double z) ∨ (i = .freturn ∧ t = .float ∧ ∃ z, w = .float z) ∨ (i = .areturn ∧ t.isReference = true ∧ w.isRef = true)) (hd : decode c.code pc = .ok (i, 1)) (hc : cells ≤ K) (hs : slots ≤ J) (hq : Q (some w) T.heap locs) : Go p e below (fun o t L => FrameEnd s o t L K J) Q T (mkF m pc Ls (w :: S)) := by
  obtain ⟨fs, hr, hrun, hended, hW, hsame⟩ := X.leave (v := some w) (fun h => by rw [hret] at h; cases h) hlk
  exact ⟨_, _, retOut X hx hret hn hi hd hr, hrun, hended, _, _, rfl, hq, ⟨_, rfl⟩, hW, hsame.mono hc hs⟩
theorem g_retI (X : Stand p l e R s m args below meth c T locs cells slots) (hx : p.tables.exec = Jvm.exec) {z : Int32} (hret : meth.sig.returnType = some .int) (hlk : meth.locks = false) (hd : decode c.code pc = .ok (.ireturn, 1)) (hc : cells ≤ K) (hs : slots ≤ J) (hq : Q (some (.int z)) T.heap locs) : Go p e below (fun o t L => FrameEnd s o t L K J) Q T (mkF m pc Ls (.int z :: S)) := g_ret X hx hret hlk rfl (Or.inl ⟨rfl, Or.inl rfl, _, rfl⟩) hd hc hs hq
theorem g_retZ (X : Stand p l e R s m args below meth c T locs cells slots) (hx : p.tables.exec = Jvm.exec) {z : Int32} (hret : meth.sig.returnType = some .boolean) (hlk : meth.locks = false) (hn : narrow .boolean (.int z) = .int z) (hd : decode c.code pc = .ok (.ireturn, 1)) (hc : cells ≤ K) (hs : slots ≤ J) (hq : Q (some (.int z)) T.heap locs) : Go p e below (fun o t L => FrameEnd s o t L K J) Q T (mkF m pc Ls (.int z :: S)) := g_ret X hx hret hlk hn (Or.inl ⟨rfl, Or.inr (Or.inl rfl), _, rfl⟩) hd hc hs hq
theorem g_retC (X : Stand p l e R s m args below meth c T locs cells slots) (hx : p.tables.exec = Jvm.exec) {z : Int32} (hret : meth.sig.returnType = some .char) (hlk : meth.locks = false) (hn : narrow .char (.int z) = .int z) (hd : decode c.code pc = .ok (.ireturn, 1)) (hc : cells ≤ K) (hs : slots ≤ J) (hq : Q (some (.int z)) T.heap locs) : Go p e below (fun o t L => FrameEnd s o t L K J) Q T (mkF m pc Ls (.int z :: S)) := g_ret X hx hret hlk hn (Or.inl ⟨rfl, Or.inr (Or.inr (Or.inr (Or.inl rfl))), _, rfl⟩) hd hc hs hq
theorem g_retB (X : Stand p l e R s m args below meth c T locs cells slots) (hx : p.tables.exec = Jvm.exec) {z : Int32} (hret : meth.sig.returnType = some .byte) (hlk : meth.locks = false) (hn : narrow .byte (.int z) = .int z) (hd : decode c.code pc = .ok (.ireturn, 1)) (hc : cells ≤ K) (hs : slots ≤ J) (hq : Q (some (.int z)) T.heap locs) : Go p e below (fun o t L => FrameEnd s o t L K J) Q T (mkF m pc Ls (.int z :: S)) := g_ret X hx hret hlk hn (Or.inl ⟨rfl, Or.inr (Or.inr (Or.inl rfl)), _, rfl⟩) hd hc hs hq
theorem g_retJ (X : Stand p l e R s m args below meth c T locs cells slots) (hx : p.tables.exec = Jvm.exec) {z : Int64} (hret : meth.sig.returnType = some .long) (hlk : meth.locks = false) (hd : decode c.code pc = .ok (.lreturn, 1)) (hc : cells ≤ K) (hs : slots ≤ J) (hq : Q (some (.long z)) T.heap locs) : Go p e below (fun o t L => FrameEnd s o t L K J) Q T (mkF m pc Ls (.long z :: S)) := g_ret X hx hret hlk rfl (Or.inr (Or.inl ⟨rfl, rfl, _, rfl⟩)) hd hc hs hq
theorem g_retA (X : Stand p l e R s m args below meth c T locs cells slots) (hx : p.tables.exec = Jvm.exec) {t : FieldType} {w : Value} (hret : meth.sig.returnType = some t) (hlk : meth.locks = false) (hr : t.isReference = true) (hw : w.isRef = true) (hn : narrow t w = w) (hd : decode c.code pc = .ok (.areturn, 1)) (hc : cells ≤ K) (hs : slots ≤ J) (hq : Q (some w) T.heap locs) : Go p e below (fun o t L => FrameEnd s o t L K J) Q T (mkF m pc Ls (w :: S)) := g_ret X hx hret hlk hn (Or.inr (Or.inr (Or.inr (Or.inr ⟨rfl, hr, hw⟩)))) hd hc hs hq
theorem g_retV (X : Stand p l e R s m args below meth c T locs cells slots) (hx : p.tables.exec = Jvm.exec) (hret : meth.sig.returnType = none) (hlk : meth.locks = false) (hd : decode c.code pc = .ok (.return_, 1)) (hc : cells ≤ K) (hs : slots ≤ J) (hq : Q none T.heap locs) : Go p e below (fun o t L => FrameEnd s o t L K J) Q T (mkF m pc Ls []) := by
  obtain ⟨fs, hr, hrun, hended, hW, hsame⟩ := X.leave (v := none) (fun _ => rfl) hlk
  exact ⟨_, _, X.returnOut hx hret hd hr, hrun, hended, _, _, rfl, hq, ⟨_, rfl⟩, hW, hsame.mono hc hs⟩
theorem g_getF (X : Stand p l e R s m args below meth c T locs cells slots) (hx : p.tables.exec = Jvm.exec) (q : Nat) (hZ : Z.Warmed39 s.vm) {own R0 O n d host : String} {index : Nat} (hown : s.vm.findClass own = some m.cls) (w1 : (Jvm.Cond.fieldLink own index R0 n d).before a0 Z = true ∨ (Jvm.Cond.fieldLinkNest own index R0 n d host).before a0 Z = true) (via : Via Z R0 O n d) (eT : T.heap = h) {a : Addr} {v : Value} (F : Fld Z h a O n d v) (hd : decode c.code pc = .ok (.getfield index, 3)) (hq : pc + 3 = q)
    (k : ∀ T', Stand p l e R s m args below meth c T' locs cells slots → T'.heap = h → Go p e below Fn Q T' (mkF m q Ls (v :: S))) : Go p e below Fn Q T (mkF m pc Ls (.ref a :: S)) := by
  obtain ⟨T', X', e', st⟩ := getF X hx hZ hown w1 via eT F (g := mkF m pc Ls (.ref a :: S)) rfl rfl hd
  subst hq; exact (k T' X' e').st st
theorem g_putF (X : Stand p l e R s m args below meth c T locs cells slots) (hx : p.tables.exec = Jvm.exec) (q : Nat) (hZ : Z.Warmed39 s.vm) {own R0 O n d host C : String} {index kk : Nat} {ty : FieldType} (hown : s.vm.findClass own = some m.cls) (w1 : (Jvm.Cond.fieldLink own index R0 n d).before a0 Z = true ∨ (Jvm.Cond.fieldLinkNest own index R0 n d host).before a0 Z = true) (via : Via Z R0 O n d) (eT : T.heap = h) {a : Addr} {v old : Value} (F : Fld Z h a O n d old) (E : Exa Z h a C)
    (L : (Jvm.Cond.lays C O n d).before a0 Z = true ∨ ((Jvm.Cond.laysFinal C O n d).before a0 Z = true ∧ own = O ∧ meth.name = "<init>")) (wi : (Jvm.Cond.instantiable C kk).before a0 Z = true) (hty : parseFieldDescriptor d = some ty) (hn : narrow ty v = v) (hf : fits ty v = true) (hd : decode c.code pc = .ok (.putfield index, 3)) (hq : pc + 3 = q)
    (k : ∀ T' h', Stand p l e R s m args below meth c T' (locs ++ [⟨a, Jvm.RoadKit.slotOf Z O n d⟩]) cells slots → T'.heap = h' → Wr h h' a (Jvm.RoadKit.slotOf Z O n d) v → Go p e below Fn Q T' (mkF m q Ls S)) : Go p e below Fn Q T (mkF m pc Ls (v :: .ref a :: S)) := by
  obtain ⟨T', h', X', e', W', st⟩ := putF X hx hZ hown w1 via eT F E L wi hty hn hf (g := mkF m pc Ls (v :: .ref a :: S)) rfl rfl hd
  subst hq; exact (k T' h' X' e' W').st st
theorem g_getS (X : Stand p l e R s m args below meth c T locs cells slots) (hx : p.tables.exec = Jvm.exec) (q : Nat) (hZ : Z.Warmed39 s.vm) {own R0 O n d host : String} {index : Nat} (hown : s.vm.findClass own = some m.cls) (w1 : (Jvm.Cond.fieldLink own index R0 n d).before a0 Z = true ∨ (Jvm.Cond.fieldLinkNest own index R0 n d host).before a0 Z = true) (via : Via Z R0 O n d) (eT : T.heap = h) {v : Value} (F : Sta Z h O n d v) (hd : decode c.code pc = .ok (.getstatic index, 3)) (hq : pc + 3 = q)
    (k : ∀ T', Stand p l e R s m args below meth c T' locs cells slots → T'.heap = h → Go p e below Fn Q T' (mkF m q Ls (v :: S))) : Go p e below Fn Q T (mkF m pc Ls S) := by
  obtain ⟨T', X', e', st⟩ := getS2 X hx hZ hown w1 via eT F (g := mkF m pc Ls S) rfl hd
  subst hq; exact (k T' X' e').st st
theorem g_new (X : Stand p l e R s m args below meth c T locs cells slots) (hx : p.tables.exec = Jvm.exec) (q : Nat) (hZ : Z.Warmed39 s.vm) {own C : String} {index n : Nat} (hown : s.vm.findClass own = some m.cls) (w1 : (Jvm.Cond.classLink own index C).before a0 Z = true) (wi : (Jvm.Cond.instantiable C n).before a0 Z = true) (wz : (Jvm.Cond.initialized C).before a0 Z = true) (eT : T.heap = h) (hd : decode c.code pc = .ok (.new index, 3)) (hc : cells + 1 ≤ R.cells) (hl : slots + n ≤ R.slots) (hq : pc + 3 = q)
    (k : ∀ T' h' b, b = h.size → Stand p l e R s m args below meth c T' locs (cells + 1) (slots + n) → T'.heap = h' → Ext h h' → Exa Z h' b C → (∀ {O nm d : String} {ty : FieldType}, Laid Z a0 C O nm d → parseFieldDescriptor d = some ty → Fld Z h' b O nm d (defaultValue ty)) → Go p e below Fn Q T' (mkF m q Ls (.ref b :: S))) : Go p e below Fn Q T (mkF m pc Ls S) := by
  obtain ⟨T', h', X', e', E', A', D', -, st⟩ := newO X hx hZ hown w1 wi wz eT (g := mkF m pc Ls S) rfl hd hc hl
  subst hq; exact (k T' h' _ rfl X' e' E' A' D').st st
theorem g_initO (X : Stand p l e R s m args below meth c T locs cells slots) (hx : p.tables.exec = Jvm.exec) (q : Nat) (hZ : Z.Warmed39 s.vm) {own : String} {index : Nat} (hown : s.vm.findClass own = some m.cls) (w1 : (Jvm.Cond.methodLink own index Lib.objectInit).before a0 Z = true) (w2 : (Jvm.Cond.instanceMethod Lib.objectInit).before a0 Z = true) (w3 : (Jvm.Cond.code Lib.objectInit ⟨#[0xb1]⟩ 1 none).before a0 Z = true) (eT : T.heap = h) (hml : Ls.size = c.maxLocals) {a : Addr} (hd : decode c.code pc = .ok (.invokespecial index, 3)) (hf : 1 ≤ R.frames) (W : Nat) (hW : (S.map fun v => v.category).sum ≤ W) (hl : W + 12 ≤ R.locals) (hq : pc + 3 = q)
    (k : ∀ T', Stand p l e R s m args below meth c T' locs cells slots → T'.heap = h → Go p e below Fn Q T' (mkF m q Ls S)) : Go p e below Fn Q T (mkF m pc Ls (.ref a :: S)) := by
  obtain ⟨T', X', e', st⟩ := initO X hx hZ hown w1 w2 w3 eT (g := mkF m pc Ls (.ref a :: S)) rfl hml rfl hd hf (W := W) (by show 2 * 0 + _ ≤ _; omega) hl
  subst hq; exact (k T' X' e').st st
theorem g_newP (X : Stand p l e R s m args below meth c T locs cells slots) (hx : p.tables.exec = Jvm.exec) (q : Nat) (hZ : Z.Warmed39 s.vm) {aty : ArrayType} (w1 : (Jvm.Cond.arrayClass (newarray.typeOf aty)).before a0 Z = true) (eT : T.heap = h) {n : Int32} (hd : decode c.code pc = .ok (.newarray aty, 2)) (hn : ¬ n < 0) (cap : Nat) (hcap : n.toNatClampNeg ≤ cap) (hb : cap * 8 ≤ 536870912) (hc : cells + 1 ≤ R.cells) (hl : slots + cap ≤ R.slots) (hq : pc + 2 = q)
    (k : ∀ T' h' b kA, b = h.size → Stand p l e R s m args below meth c T' locs (cells + 1) (slots + cap) → T'.heap = h' → Ext h h' → Arv Z h' b kA (newarray.typeOf aty) n [] (defaultValue (newarray.typeOf aty)) → Go p e below Fn Q T' (mkF m q Ls (.ref b :: S))) : Go p e below Fn Q T (mkF m pc Ls (.int n :: S)) := by
  obtain ⟨T', h', cA, X', e', E', A', st⟩ := newP X hx hZ w1 eT (g := mkF m pc Ls (.int n :: S)) rfl hd rfl hn hcap hb hc hl
  subst hq; exact (k T' h' _ cA rfl X' e' E' (Arv.new A' hn)).st st
theorem g_newR (X : Stand p l e R s m args below meth c T locs cells slots) (hx : p.tables.exec = Jvm.exec) (q : Nat) (hZ : Z.Warmed39 s.vm) {own C : String} {index : Nat} (hown : s.vm.findClass own = some m.cls) (w1 : (Jvm.Cond.classLink own index C).before a0 Z = true) (w2 : (Jvm.Cond.arrayOver (.object C)).before a0 Z = true) (eT : T.heap = h) {n : Int32} (hd : decode c.code pc = .ok (.anewarray index, 3)) (hn : ¬ n < 0) (cap : Nat) (hcap : n.toNatClampNeg ≤ cap) (hb : cap * 8 ≤ 536870912) (hc : cells + 1 ≤ R.cells) (hl : slots + cap ≤ R.slots) (hq : pc + 3 = q)
    (k : ∀ T' h' b kA, b = h.size → Stand p l e R s m args below meth c T' locs (cells + 1) (slots + cap) → T'.heap = h' → Ext h h' → Arv Z h' b kA (.object C) n [] .null → Ovr Z kA C → Go p e below Fn Q T' (mkF m q Ls (.ref b :: S))) : Go p e below Fn Q T (mkF m pc Ls (.int n :: S)) := by
  obtain ⟨T', h', cA, X', e', E', A', O', st⟩ := newR X hx hZ hown w1 w2 eT (g := mkF m pc Ls (.int n :: S)) rfl hd rfl hn hcap hb hc hl
  subst hq; exact (k T' h' _ cA rfl X' e' E' (Arv.new A' hn) O').st st
theorem g_iaload (X : Stand p l e R s m args below meth c T locs cells slots) (hx : p.tables.exec = Jvm.exec) (q : Nat) (hZ : Z.Warmed39 s.vm) (eT : T.heap = h) {a : Addr} {kA : ClassId} {n j : Int32} {vs : List Value} {dv v : Value} (V : Arv Z h a kA .int n vs dv) (hj : ¬ j < 0 ∧ j < n) (hv : vs.getD j.toNatClampNeg dv = v) (hd : decode c.code pc = .ok (.iaload, 1)) (hq : pc + 1 = q) (k : Go p e below Fn Q T (mkF m q Ls (v :: S))) : Go p e below Fn Q T (mkF m pc Ls (.int j :: .ref a :: S)) := by
  obtain ⟨cl, A, -, S', -, H', -⟩ := V
  subst hq
  exact k.st fun _ z => X.iaload hx (by rw [eT]; exact A.1) (State.isArrayOf_alike hZ.alike A.2.1) A.2.2 (inb_of S' hj) (H'.at (inb_of S' hj) hv) (g := mkF m pc Ls (.int j :: .ref a :: S)) rfl rfl hd _ z
theorem g_caload (X : Stand p l e R s m args below meth c T locs cells slots) (hx : p.tables.exec = Jvm.exec) (q : Nat) (hZ : Z.Warmed39 s.vm) (eT : T.heap = h) {a : Addr} {kA : ClassId} {n j : Int32} {vs : List Value} {dv v : Value} (V : Arv Z h a kA .char n vs dv) (hj : ¬ j < 0 ∧ j < n) (hv : vs.getD j.toNatClampNeg dv = v) (hd : decode c.code pc = .ok (.caload, 1)) (hq : pc + 1 = q) (k : Go p e below Fn Q T (mkF m q Ls (v :: S))) : Go p e below Fn Q T (mkF m pc Ls (.int j :: .ref a :: S)) := by
  obtain ⟨cl, A, -, S', -, H', -⟩ := V
  subst hq
  exact k.st fun _ z => X.caload hx (by rw [eT]; exact A.1) (State.isArrayOf_alike hZ.alike A.2.1) A.2.2 (inb_of S' hj) (H'.at (inb_of S' hj) hv) (g := mkF m pc Ls (.int j :: .ref a :: S)) rfl rfl hd _ z
theorem g_laload (X : Stand p l e R s m args below meth c T locs cells slots) (hx : p.tables.exec = Jvm.exec) (q : Nat) (hZ : Z.Warmed39 s.vm) (eT : T.heap = h) {a : Addr} {kA : ClassId} {n j : Int32} {vs : List Value} {dv v : Value} (V : Arv Z h a kA .long n vs dv) (hj : ¬ j < 0 ∧ j < n) (hv : vs.getD j.toNatClampNeg dv = v) (hd : decode c.code pc = .ok (.laload, 1)) (hq : pc + 1 = q) (k : Go p e below Fn Q T (mkF m q Ls (v :: S))) : Go p e below Fn Q T (mkF m pc Ls (.int j :: .ref a :: S)) := by
  obtain ⟨cl, A, -, S', -, H', -⟩ := V
  subst hq
  exact k.st fun _ z => X.laload hx (by rw [eT]; exact A.1) (State.isArrayOf_alike hZ.alike A.2.1) A.2.2 (inb_of S' hj) (H'.at (inb_of S' hj) hv) (g := mkF m pc Ls (.int j :: .ref a :: S)) rfl rfl hd _ z
theorem g_baload (X : Stand p l e R s m args below meth c T locs cells slots) (hx : p.tables.exec = Jvm.exec) (q : Nat) (hZ : Z.Warmed39 s.vm) (eT : T.heap = h) {a : Addr} {kA : ClassId} {n j : Int32} {vs : List Value} {dv v : Value} (V : Arv Z h a kA .byte n vs dv) (hj : ¬ j < 0 ∧ j < n) (hv : vs.getD j.toNatClampNeg dv = v) (hd : decode c.code pc = .ok (.baload, 1)) (hq : pc + 1 = q) (k : Go p e below Fn Q T (mkF m q Ls (v :: S))) : Go p e below Fn Q T (mkF m pc Ls (.int j :: .ref a :: S)) := by
  obtain ⟨cl, A, -, S', -, H', -⟩ := V
  subst hq
  exact k.st fun _ z => X.baloadBytes hx (by rw [eT]; exact A.1) (State.isArrayOf_alike hZ.alike A.2.1) A.2.2 (inb_of S' hj) (H'.at (inb_of S' hj) hv) (g := mkF m pc Ls (.int j :: .ref a :: S)) rfl rfl hd _ z
theorem g_aaload (X : Stand p l e R s m args below meth c T locs cells slots) (hx : p.tables.exec = Jvm.exec) (q : Nat) (hZ : Z.Warmed39 s.vm) (eT : T.heap = h) {a : Addr} {kA : ClassId} {C : String} {n j : Int32} {vs : List Value} {dv v : Value} (V : Arv Z h a kA (.object C) n vs dv) (hj : ¬ j < 0 ∧ j < n) (hv : vs.getD j.toNatClampNeg dv = v) (hd : decode c.code pc = .ok (.aaload, 1)) (hq : pc + 1 = q) (k : Go p e below Fn Q T (mkF m q Ls (v :: S))) : Go p e below Fn Q T (mkF m pc Ls (.int j :: .ref a :: S)) := by
  obtain ⟨cl, A, -, S', -, H', -⟩ := V
  subst hq
  exact k.st fun _ z => X.aaload hx (by rw [eT]; exact A.1) (State.isArrayOf_alike hZ.alike A.2.1) rfl A.2.2 (inb_of S' hj) (H'.at (inb_of S' hj) hv) (g := mkF m pc Ls (.int j :: .ref a :: S)) rfl rfl hd _ z
theorem g_arraylength (X : Stand p l e R s m args below meth c T locs cells slots) (hx : p.tables.exec = Jvm.exec) (q : Nat) (hZ : Z.Warmed39 s.vm) (eT : T.heap = h) {a : Addr} {kA : ClassId} {ty : FieldType} {n : Int32} {vs : List Value} {dv : Value} (V : Arv Z h a kA ty n vs dv) (hd : decode c.code pc = .ok (.arraylength, 1)) (hq : pc + 1 = q) (k : Go p e below Fn Q T (mkF m q Ls (.int n :: S))) : Go p e below Fn Q T (mkF m pc Ls (.ref a :: S)) := by
  obtain ⟨cl, A, -, S', N', -, -⟩ := V
  subst hq
  exact k.st fun _ z => X.arraylength hx (by rw [eT]; exact A.1) (State.isArrayOf_alike hZ.alike A.2.1) (g := mkF m pc Ls (.ref a :: S)) rfl rfl hd _ (by rw [len_of S' N']; exact z)
theorem g_aastore (X : Stand p l e R s m args below meth c T locs cells slots) (hx : p.tables.exec = Jvm.exec) (q : Nat) (hZ : Z.Warmed39 s.vm) (eT : T.heap = h) {a b : Addr} {kA : ClassId} {C : String} {n j : Int32} {vs : List Value} {dv : Value} (V : Arv Z h a kA (.object C) n vs dv) (O : Ovr Z kA C) (I : Ins Z h b C true) (i : Nat) (hi : j.toNatClampNeg = i) (hj : ¬ j < 0 ∧ j < n) (hl : i < vs.length) (hd : decode c.code pc = .ok (.aastore, 1)) (hq : pc + 1 = q)
    (k : ∀ T' h', Stand p l e R s m args below meth c T' (locs ++ [⟨a, j.toNatClampNeg⟩]) cells slots → T'.heap = h' → Wr h h' a j.toNatClampNeg (.ref b) → Arv Z h' a kA (.object C) n (vs.set i (.ref b)) dv → Go p e below Fn Q T' (mkF m q Ls S)) : Go p e below Fn Q T (mkF m pc Ls (.ref b :: .int j :: .ref a :: S)) := by
  obtain ⟨cl, A, q1, S', N', H', G'⟩ := V
  subst hq
  obtain ⟨T', h', X', e', W', st⟩ := stR X hx hZ eT A (j := j) (inb_of S' hj) rfl (Sto.ofV A q1 O I) (g := mkF m pc Ls (.ref b :: .int j :: .ref a :: S)) rfl rfl hd
  exact (k T' h' X' e' W' (Arv.set A q1 S' N' H' G' rfl W' i hi hl)).st st
theorem g_iastore (X : Stand p l e R s m args below meth c T locs cells slots) (hx : p.tables.exec = Jvm.exec) (q : Nat) (hZ : Z.Warmed39 s.vm) (eT : T.heap = h) {a : Addr} {kA : ClassId} {n j x : Int32} {vs : List Value} {dv : Value} (V : Arv Z h a kA .int n vs dv) (i : Nat) (hi : j.toNatClampNeg = i) (hj : ¬ j < 0 ∧ j < n) (hl : i < vs.length) (hd : decode c.code pc = .ok (.iastore, 1)) (hq : pc + 1 = q)
    (k : ∀ T' h', Stand p l e R s m args below meth c T' (locs ++ [⟨a, j.toNatClampNeg⟩]) cells slots → T'.heap = h' → Wr h h' a j.toNatClampNeg (.int x) → Arv Z h' a kA .int n (vs.set i (.int x)) dv → Go p e below Fn Q T' (mkF m q Ls S)) : Go p e below Fn Q T (mkF m pc Ls (.int x :: .int j :: .ref a :: S)) := by
  obtain ⟨cl, A, q1, S', N', H', G'⟩ := V
  subst hq
  obtain ⟨T', h', X', e', W', st⟩ := stI X hx hZ eT A (j := j) (inb_of S' hj) (g := mkF m pc Ls (.int x :: .int j :: .ref a :: S)) rfl rfl hd
  exact (k T' h' X' e' W' (Arv.set A q1 S' N' H' G' rfl W' i hi hl)).st st
theorem g_castore (X : Stand p l e R s m args below meth c T locs cells slots) (hx : p.tables.exec = Jvm.exec) (q : Nat) (hZ : Z.Warmed39 s.vm) (eT : T.heap = h) {a : Addr} {kA : ClassId} {n j x : Int32} {vs : List Value} {dv : Value} (V : Arv Z h a kA .char n vs dv) (i : Nat) (hi : j.toNatClampNeg = i) (hj : ¬ j < 0 ∧ j < n) (hl : i < vs.length) (hd : decode c.code pc = .ok (.castore, 1)) (hq : pc + 1 = q)
    (k : ∀ T' h', Stand p l e R s m args below meth c T' (locs ++ [⟨a, j.toNatClampNeg⟩]) cells slots → T'.heap = h' → Wr h h' a j.toNatClampNeg (.int (nar .char x)) → Arv Z h' a kA .char n (vs.set i (.int (nar .char x))) dv → Go p e below Fn Q T' (mkF m q Ls S)) : Go p e below Fn Q T (mkF m pc Ls (.int x :: .int j :: .ref a :: S)) := by
  obtain ⟨cl, A, q1, S', N', H', G'⟩ := V
  subst hq
  obtain ⟨T', h', X', e', W', st⟩ := stC X hx hZ eT A (j := j) (inb_of S' hj) (g := mkF m pc Ls (.int x :: .int j :: .ref a :: S)) rfl rfl hd
  exact (k T' h' X' e' W' (Arv.set A q1 S' N' H' G' (fits_nar_char _) W' i hi hl)).st st
theorem g_bastore (X : Stand p l e R s m args below meth c T locs cells slots) (hx : p.tables.exec = Jvm.exec) (q : Nat) (hZ : Z.Warmed39 s.vm) (eT : T.heap = h) {a : Addr} {kA : ClassId} {n j x : Int32} {vs : List Value} {dv : Value} (V : Arv Z h a kA .byte n vs dv) (i : Nat) (hi : j.toNatClampNeg = i) (hj : ¬ j < 0 ∧ j < n) (hl : i < vs.length) (hd : decode c.code pc = .ok (.bastore, 1)) (hq : pc + 1 = q)
    (k : ∀ T' h', Stand p l e R s m args below meth c T' (locs ++ [⟨a, j.toNatClampNeg⟩]) cells slots → T'.heap = h' → Wr h h' a j.toNatClampNeg (.int (nar .byte x)) → Arv Z h' a kA .byte n (vs.set i (.int (nar .byte x))) dv → Go p e below Fn Q T' (mkF m q Ls S)) : Go p e below Fn Q T (mkF m pc Ls (.int x :: .int j :: .ref a :: S)) := by
  obtain ⟨cl, A, q1, S', N', H', G'⟩ := V
  subst hq
  obtain ⟨T', h', X', e', W', st⟩ := stB X hx hZ eT A (j := j) (inb_of S' hj) (g := mkF m pc Ls (.int x :: .int j :: .ref a :: S)) rfl rfl hd
  exact (k T' h' X' e' W' (Arv.set A q1 S' N' H' G' (fits_nar_byte _) W' i hi hl)).st st
theorem g_callS (X : Stand p l e R s m args below meth c T locs cells slots) (hx : p.tables.exec = Jvm.exec) (q : Nat) (hZ : Z.Warmed39 s.vm) {own : String} {index : Nat} {y : MethodName} {bytes : ByteArray} {maxL : Nat} {ret : Option FieldType} {rm : Room} {Qc : Option Value → Heap → List Loc → Prop} (hown : s.vm.findClass own = some m.cls) (w1 : (Jvm.Cond.methodLink own index y).before a0 Z = true) (w2 : (Jvm.Cond.static y).before a0 Z = true) (w3 : (Jvm.Cond.initialized y.cls).before a0 Z = true) (w4 : (Jvm.Cond.code y bytes maxL ret).before a0 Z = true) (hy : y.cls ≠ "java/lang/invoke/MethodHandle" ∧ y.cls ≠ "java/lang/invoke/VarHandle") (argsL rest : List Value) (hM : OwnMet l Z y bytes maxL ret [] rm argsL h Qc)
    (eT : T.heap = h) (W : Nat) (hf : rm.frames + 1 ≤ R.frames) (hl : W + (maxL + 11) + rm.locals ≤ R.locals) (hc : cells + rm.cells ≤ R.cells) (hs : slots + rm.slots ≤ R.slots) (hml : Ls.size = c.maxLocals) (hlen : ∀ sig, parseMethodDescriptor y.desc = some sig → argsL.length = sig.parameters.length) (hd : decode c.code pc = .ok (.invokestatic index, 3)) (hst : S = argsL.reverse ++ rest) (hW : (rest.map fun v => v.category).sum ≤ W) (hq : pc + 3 = q) (k : ∀ v T' L', Stand p l e R s m args below meth c T' (locs ++ L') (cells + rm.cells) (slots + rm.slots) → Qc v T'.heap L' → Go p e below Fn Q T' (mkF m q Ls (v.toList ++ rest))) : Go p e below Fn Q T (mkF m pc Ls S) := by
  subst hst
  obtain ⟨v, _, ⟨T', L', k', n'⟩, -, X', ⟨Lc, hQ, l', y', z'⟩, st⟩ := Jvm.LawKit.callS X hx (y := y) hown (mvT hZ w1) (mvT hZ w2) (mvT hZ w3) (mvT hZ w4) hy (backOf (W := W) hM hZ w4 w3 hf hl) (g := mkF m pc Ls (argsL.reverse ++ rest)) rfl hml (argsL := argsL) (rest := rest) hlen rfl (by show 2 * 0 + _ ≤ _; omega) hd (fun _ _ => ⟨rfl, eT, hc, hs⟩)
  dsimp only [Pt.U, Pt.locs, Pt.cells, Pt.slots] at X' l' y' z' st hQ
  subst l' y' z' hq
  exact (k v T' Lc X' hQ).st st
theorem g_callI (X : Stand p l e R s m args below meth c T locs cells slots) (hx : p.tables.exec = Jvm.exec) (q : Nat) (hZ : Z.Warmed39 s.vm) {own : String} {index : Nat} {y : MethodName} {bytes : ByteArray} {maxL : Nat} {rm : Room} {Qc : Option Value → Heap → List Loc → Prop} (hy1 : y.name = "<init>") (hown : s.vm.findClass own = some m.cls) (w1 : (Jvm.Cond.methodLink own index y).before a0 Z = true) (w2 : (Jvm.Cond.instanceMethod y).before a0 Z = true) (w3 : (Jvm.Cond.initialized y.cls).before a0 Z = true) (w4 : (Jvm.Cond.code y bytes maxL none).before a0 Z = true) (hy : y.cls ≠ "java/lang/invoke/MethodHandle" ∧ y.cls ≠ "java/lang/invoke/VarHandle") (a : Addr) (argsL rest : List Value) (hM : OwnMet l Z y bytes maxL none [] rm (.ref a :: argsL) h Qc)
    (eT : T.heap = h) (W : Nat) (hf : rm.frames + 1 ≤ R.frames) (hl : W + (maxL + 11) + rm.locals ≤ R.locals) (hc : cells + rm.cells ≤ R.cells) (hs : slots + rm.slots ≤ R.slots) (hml : Ls.size = c.maxLocals) (hlen : ∀ sig, parseMethodDescriptor y.desc = some sig → argsL.length = sig.parameters.length) (hd : decode c.code pc = .ok (.invokespecial index, 3)) (hst : S = argsL.reverse ++ .ref a :: rest) (hW : (rest.map fun v => v.category).sum ≤ W) (hq : pc + 3 = q) (k : ∀ v T' L', Stand p l e R s m args below meth c T' (locs ++ L') (cells + rm.cells) (slots + rm.slots) → Qc v T'.heap L' → Go p e below Fn Q T' (mkF m q Ls (v.toList ++ rest))) : Go p e below Fn Q T (mkF m pc Ls S) := by
  subst hst
  obtain ⟨v, _, ⟨T', L', k', n'⟩, -, X', ⟨Lc, hQ, l', y', z'⟩, st⟩ := X.specialBack hx (y := y) hy1 hown (mvT hZ w1) (mvT hZ w2) (mvT hZ w4) hy (backOf (W := W) hM hZ w4 w3 hf hl) (g := mkF m pc Ls (argsL.reverse ++ .ref a :: rest)) rfl hml (Steps.refl _) (a := a) (argsL := argsL) (rest := rest) hlen rfl (by show 2 * 0 + _ ≤ _; omega) hd (fun _ _ => ⟨rfl, eT, hc, hs⟩)
  dsimp only [Pt.U, Pt.locs, Pt.cells, Pt.slots] at X' l' y' z' st hQ
  subst l' y' z' hq
  exact (k v T' Lc X' hQ).st fun _ z => st.trans z
theorem g_callV (X : Stand p l e R s m args below meth c T locs cells slots) (hx : p.tables.exec = Jvm.exec) (q : Nat) (hZ : Z.Warmed39 s.vm) {own C : String} {index : Nat} {y : MethodName} {bytes : ByteArray} {maxL : Nat} {ret : Option FieldType} {rm : Room} {Qc : Option Value → Heap → List Loc → Prop} (hown : s.vm.findClass own = some m.cls) (w1 : (Jvm.Cond.methodLink own index y).before a0 Z = true) (w2 : (Jvm.Cond.declares y).before a0 Z = true) (w5 : (Jvm.Cond.selects C y y).before a0 Z = true) (w6 : (Jvm.Cond.instanceMethod y).before a0 Z = true) (w3 : (Jvm.Cond.initialized y.cls).before a0 Z = true) (w4 : (Jvm.Cond.code y bytes maxL ret).before a0 Z = true) (hy : y.cls ≠ "java/lang/invoke/MethodHandle" ∧ y.cls ≠ "java/lang/invoke/VarHandle") (a : Addr) (E : Exa Z h a C) (argsL rest : List Value) (hM : OwnMet l Z y bytes maxL ret [] rm (.ref a :: argsL) h Qc)
    (eT : T.heap = h) (W : Nat) (hf : rm.frames + 1 ≤ R.frames) (hl : W + (maxL + 11) + rm.locals ≤ R.locals) (hc : cells + rm.cells ≤ R.cells) (hs : slots + rm.slots ≤ R.slots) (hml : Ls.size = c.maxLocals) (hlen : ∀ sig, parseMethodDescriptor y.desc = some sig → argsL.length = sig.parameters.length) (hd : decode c.code pc = .ok (.invokevirtual index, 3)) (hst : S = argsL.reverse ++ .ref a :: rest) (hW : (rest.map fun v => v.category).sum ≤ W) (hq : pc + 3 = q) (k : ∀ v T' L', Stand p l e R s m args below meth c T' (locs ++ L') (cells + rm.cells) (slots + rm.slots) → Qc v T'.heap L' → Go p e below Fn Q T' (mkF m q Ls (v.toList ++ rest))) : Go p e below Fn Q T (mkF m pc Ls S) := by
  subst hst
  obtain ⟨cq, kq, qa, qb, qc⟩ := isOf (T := T) hZ eT E
  obtain ⟨v, _, ⟨T', L', k', n'⟩, -, X', ⟨Lc, hQ, l', y', z'⟩, st⟩ := X.virtualBack hx (y := y) (z := y) hown (mvT hZ w1) (mvT hZ w2) (notFace_of_selects (args := #[]) (mvT hZ w5)) (mvT hZ w5) (mvT hZ w6) hy (backOf (W := W) hM hZ w4 w3 hf hl) qa qc (g := mkF m pc Ls (argsL.reverse ++ .ref a :: rest)) rfl hml (Steps.refl _) (argsL := argsL) (rest := rest) hlen rfl (by show 2 * 0 + _ ≤ _; omega) hd (fun _ _ => ⟨rfl, eT, hc, hs⟩)
  dsimp only [Pt.U, Pt.locs, Pt.cells, Pt.slots] at X' l' y' z' st hQ
  subst l' y' z' hq
  exact (k v T' Lc X' hQ).st fun _ z => st.trans z
theorem g_newPE (X : Stand p l e R s m args below meth c T locs cells slots) (hx : p.tables.exec = Jvm.exec) (q : Nat) (hZ : Z.Warmed39 s.vm) {aty : ArrayType} (w1 : (Jvm.Cond.arrayClass (newarray.typeOf aty)).before a0 Z = true) (eT : T.heap = h) {n : Int32} (hd : decode c.code pc = .ok (.newarray aty, 2)) (hn : ¬ n < 0) (cap : Nat) (hcap : n.toNatClampNeg ≤ cap) (hb : cap * 8 ≤ 536870912) (hc : cells + 1 ≤ R.cells) (hl : slots + cap ≤ R.slots) (ad : String) (had : "[" ++ (newarray.typeOf aty).toString = ad) (hq : pc + 2 = q)
    (k : ∀ T' h' b kA, b = h.size → Stand p l e R s m args below meth c T' locs (cells + 1) (slots + cap) → T'.heap = h' → Ext h h' → Arv Z h' b kA (newarray.typeOf aty) n [] (defaultValue (newarray.typeOf aty)) → Exa Z h' b ad → Go p e below Fn Q T' (mkF m q Ls (.ref b :: S))) : Go p e below Fn Q T (mkF m pc Ls (.int n :: S)) := by
  obtain ⟨T', h', cA, X', e', E', A', I', st⟩ := newPE X hx hZ w1 eT (g := mkF m pc Ls (.int n :: S)) rfl hd rfl hn hcap hb hc hl had
  subst hq; exact (k T' h' _ cA rfl X' e' E' (Arv.new A' hn) I').st st
theorem g_clone (X : Stand p l e R s m args below meth c T locs cells slots) (hx : p.tables.exec = Jvm.exec) (q : Nat) (hZ : Z.Warmed39 s.vm) {own ad : String} {index : Nat} (hown : s.vm.findClass own = some m.cls) (w1 : (Jvm.Cond.methodLink own index ⟨ad, "clone", "()Ljava/lang/Object;"⟩).before a0 Z = true) (w2 : (Jvm.Cond.sameMethod ad "java/lang/Object" "clone" "()Ljava/lang/Object;").before a0 Z = true) (w3 : (Jvm.Cond.native ⟨"java/lang/Object", "clone", "()Ljava/lang/Object;"⟩).before a0 Z = true) (w4 : (Jvm.Cond.instanceMethod ⟨"java/lang/Object", "clone", "()Ljava/lang/Object;"⟩).before a0 Z = true) (w5 : (Jvm.Cond.selects ad ⟨ad, "clone", "()Ljava/lang/Object;"⟩ ⟨"java/lang/Object", "clone", "()Ljava/lang/Object;"⟩).before a0 Z = true) (w6 : (Jvm.Cond.castable ad "java/lang/Cloneable").before a0 Z = true)
    (eT : T.heap = h) {a : Addr} {kA : ClassId} {ty : FieldType} {n : Int32} {vs : List Value} {dv : Value} (V : Arv Z h a kA ty n vs dv) (E : Exa Z h a ad) (hml : Ls.size = c.maxLocals) (hd : decode c.code pc = .ok (.invokevirtual index, 3)) (hf : 1 ≤ R.frames) (W cap : Nat) (hW : (S.map fun v => v.category).sum ≤ W) (hl : W + 14 ≤ R.locals) (hcap : n.toNatClampNeg ≤ cap) (hc : cells + 1 ≤ R.cells) (hsl : slots + cap ≤ R.slots) (hq : pc + 3 = q)
    (k : ∀ T' h' b, b = h.size → Stand p l e R s m args below meth c T' locs (cells + 1) (slots + cap) → T'.heap = h' → Ext h h' → Arv Z h' b kA ty n vs dv → Exa Z h' b ad → Go p e below Fn Q T' (mkF m q Ls (.ref b :: S))) : Go p e below Fn Q T (mkF m pc Ls (.ref a :: S)) := by
  obtain ⟨T', h', X', e', E', V', I', st⟩ := cloneH X hx hZ hown w1 w2 w3 w4 w5 w6 eT V.arh E (g := mkF m pc Ls (.ref a :: S)) rfl hml rfl hd hf (W := W) (by show 2 * 0 + _ ≤ _; omega) hl hcap hc hsl
  subst hq; exact (k T' h' _ rfl X' e' E' V' I').st st
theorem g_cast (X : Stand p l e R s m args below meth c T locs cells slots) (hx : p.tables.exec = Jvm.exec) (q : Nat) (hZ : Z.Warmed39 s.vm) {own C : String} {index : Nat} (hown : s.vm.findClass own = some m.cls) (w1 : (Jvm.Cond.classLink own index C).before a0 Z = true) (eT : T.heap = h) {a : Addr} (I : Ins Z h a C true) (hd : decode c.code pc = .ok (.checkcast index, 3)) (hq : pc + 3 = q)
    (k : ∀ T', Stand p l e R s m args below meth c T' locs cells slots → T'.heap = h → Go p e below Fn Q T' (mkF m q Ls (.ref a :: S))) : Go p e below Fn Q T (mkF m pc Ls (.ref a :: S)) := by
  obtain ⟨T', X', e', st⟩ := castY X hx hZ hown w1 eT I (g := mkF m pc Ls (.ref a :: S)) rfl rfl hd
  subst hq; exact (k T' X' e').st st
theorem g_callU (X : Stand p l e R s m args below meth c T locs cells slots) (hx : p.tables.exec = Jvm.exec) (q : Nat) (hZ : Z.Warmed39 s.vm) {own C owner : String} {index : Nat} {x y : MethodName} {bytes : ByteArray} {maxL : Nat} {ret : Option FieldType} {rm : Room} {Qc : Option Value → Heap → List Loc → Prop} (hown : s.vm.findClass own = some m.cls) (w1 : (Jvm.Cond.methodLink own index x).before a0 Z = true) (w2 : (Jvm.Cond.sameMethod x.cls owner x.name x.desc).before a0 Z = true) (w7 : (Jvm.Cond.declares ⟨owner, x.name, x.desc⟩).before a0 Z = true) (hy : owner ≠ "java/lang/invoke/MethodHandle" ∧ owner ≠ "java/lang/invoke/VarHandle") (w5 : (Jvm.Cond.selects C x y).before a0 Z = true) (w6 : (Jvm.Cond.instanceMethod y).before a0 Z = true) (w3 : (Jvm.Cond.initialized y.cls).before a0 Z = true) (w4 : (Jvm.Cond.code y bytes maxL ret).before a0 Z = true) (a : Addr) (E : Exa Z h a C) (argsL rest : List Value) (hM : OwnMet l Z y bytes maxL ret [] rm (.ref a :: argsL) h Qc)
    (eT : T.heap = h) (W : Nat) (hf : rm.frames + 1 ≤ R.frames) (hl : W + (maxL + 11) + rm.locals ≤ R.locals) (hc : cells + rm.cells ≤ R.cells) (hs : slots + rm.slots ≤ R.slots) (hml : Ls.size = c.maxLocals) (hlen : ∀ sig, parseMethodDescriptor x.desc = some sig → argsL.length = sig.parameters.length) (hd : decode c.code pc = .ok (.invokevirtual index, 3)) (hst : S = argsL.reverse ++ .ref a :: rest) (hW : (rest.map fun v => v.category).sum ≤ W) (hq : pc + 3 = q) (k : ∀ v T' L', Stand p l e R s m args below meth c T' (locs ++ L') (cells + rm.cells) (slots + rm.slots) → Qc v T'.heap L' → Go p e below Fn Q T' (mkF m q Ls (v.toList ++ rest))) : Go p e below Fn Q T (mkF m pc Ls S) := by
  subst hst
  obtain ⟨cq, kq, qa, qb, qc⟩ := isOf (T := T) hZ eT E
  obtain ⟨v, _, ⟨T', L', k', n'⟩, -, X', ⟨Lc, hQ, l', y', z'⟩, st⟩ := X.virtualBackUp hx (x := x) (y := y) hown (mvT hZ w1) (mvT hZ w2) (mvT hZ w7) hy (mvT hZ w5) (mvT hZ w6) (backOf (W := W) hM hZ w4 w3 hf hl) qa qc (g := mkF m pc Ls (argsL.reverse ++ .ref a :: rest)) rfl hml (Steps.refl _) (argsL := argsL) (rest := rest) hlen rfl (by show 2 * 0 + _ ≤ _; omega) hd (fun _ _ => ⟨rfl, eT, hc, hs⟩)
  dsimp only [Pt.U, Pt.locs, Pt.cells, Pt.slots] at X' l' y' z' st hQ
  subst l' y' z' hq
  exact (k v T' Lc X' hQ).st fun _ z => st.trans z
theorem g_callP (X : Stand p l e R s m args below meth c T locs cells slots) (hx : p.tables.exec = Jvm.exec) (q : Nat) (hZ : Z.Warmed39 s.vm) {own C0 : String} {index : Nat} {y y0 : MethodName} {bytes : ByteArray} {maxL : Nat} {ret : Option FieldType} {rm : Room} {Qc : Option Value → Heap → List Loc → Prop} (hown : s.vm.findClass own = some m.cls) (w1 : (Jvm.Cond.methodLink own index y).before a0 Z = true) (w6 : (Jvm.Cond.instanceMethod y).before a0 Z = true) (w8 : (Jvm.Cond.privateMethod y).before a0 Z = true) (w5 : (Jvm.Cond.selects C0 y0 y0).before a0 Z = true) (hc0 : y0.cls = y.cls) (w3 : (Jvm.Cond.initialized y.cls).before a0 Z = true) (w4 : (Jvm.Cond.code y bytes maxL ret).before a0 Z = true) (hy : y.cls ≠ "java/lang/invoke/MethodHandle" ∧ y.cls ≠ "java/lang/invoke/VarHandle") {C : String} (a : Addr) (E : Exa Z h a C) (argsL rest : List Value) (hM : OwnMet l Z y bytes maxL ret [] rm (.ref a :: argsL) h Qc)
    (eT : T.heap = h) (W : Nat) (hf : rm.frames + 1 ≤ R.frames) (hl : W + (maxL + 11) + rm.locals ≤ R.locals) (hc : cells + rm.cells ≤ R.cells) (hs : slots + rm.slots ≤ R.slots) (hml : Ls.size = c.maxLocals) (hlen : ∀ sig, parseMethodDescriptor y.desc = some sig → argsL.length = sig.parameters.length) (hd : decode c.code pc = .ok (.invokevirtual index, 3)) (hst : S = argsL.reverse ++ .ref a :: rest) (hW : (rest.map fun v => v.category).sum ≤ W) (hq : pc + 3 = q) (k : ∀ v T' L', Stand p l e R s m args below meth c T' (locs ++ L') (cells + rm.cells) (slots + rm.slots) → Qc v T'.heap L' → Go p e below Fn Q T' (mkF m q Ls (v.toList ++ rest))) : Go p e below Fn Q T (mkF m pc Ls S) := by
  subst hst
  have hpriv : s.PrivateAt y := Cond.privateMethod_at (mvP hZ w8 (args := #[]))
  have hsel : (Jvm.Cond.selects y.cls y y).before args s = true := by
    obtain ⟨c2, r2, m2, -, -, q3, -, kP, hkP, hkPi⟩ := Cond.selects_spec (mvT hZ w5 : (Jvm.Cond.selects C0 y0 y0).before args s = true)
    exact selects_self_of_private (hc0 ▸ findClass_of_methodNamed q3) hkP hkPi hpriv (mvT hZ w6) hy
  obtain ⟨cq, qa, qb⟩ := E.cell
  obtain ⟨v, _, ⟨T', L', k', n'⟩, -, X', ⟨Lc, hQ, l', y', z'⟩, st⟩ := X.privateBack hx (y := y) hown (mvT hZ w1) (mvT hZ w6) hsel hpriv (mvT hZ w4) hy (backOf (W := W) hM hZ w4 w3 hf hl) (g := mkF m pc Ls (argsL.reverse ++ .ref a :: rest)) rfl hml (Steps.refl _) (a := a) (by rw [eT]; exact qa) qb (argsL := argsL) (rest := rest) hlen rfl (by show 2 * 0 + _ ≤ _; omega) hd (fun _ _ => ⟨rfl, eT, hc, hs⟩)
  dsimp only [Pt.U, Pt.locs, Pt.cells, Pt.slots] at X' l' y' z' st hQ
  subst l' y' z' hq
  exact (k v T' Lc X' hQ).st fun _ z => st.trans z
theorem own_sta_keep {h' : Heap} {C n d : String} {v : Value} (F : Sta Z h C n d v) (Kp : Keep h h' []) : Sta Z h' C n d v := by
  obtain ⟨cf, i, k, f, st, cell, h1, h2, h3, h4, h5, r⟩ := F
  exact ⟨cf, i, k, f, st, cell, h1, h2, h3, h4, Kp.2.1 _ _ h5 nin0, r⟩
theorem own_plain {C : String} {x : Addr} (F : Exa Z h x C) : ∃ cl : Cell, h[x]? = some cl ∧ cl.vm.isStatics = false := by
  obtain ⟨c, _, h1, -, -, h4, -⟩ := F; exact ⟨c, h1, h4⟩
theorem own_sta_keep' {h' : Heap} {C n d : String} {v : Value} {x : Addr} (F : Sta Z h C n d v) (Kp : Keep h h' [x]) (hp : ∃ cl : Cell, h[x]? = some cl ∧ cl.vm.isStatics = false) : Sta Z h' C n d v := by
  obtain ⟨cf, i, k, f, st, cell, h1, h2, h3, h4, h5, h6, r⟩ := F
  obtain ⟨cl, q1, q2⟩ := hp
  have ne : st ≠ x := fun q => by rw [q] at h5; rw [q1] at h5; cases h5; rw [q2] at h6; cases h6
  exact ⟨cf, i, k, f, st, cell, h1, h2, h3, h4, Kp.2.1 _ _ h5 (ninS ne nin0), h6, r⟩
end OwnKit
section OwnWords
variable {args : Array Value} {first s : State} {o : Option Outcome} {idx : List Nat} {t u : Term} {Z : State} {a : Addr} {cl : Cell} {ty : FieldType}
theorem own_int_v {k : Int32} (h : (Jvm.Cond.eq t (.int k)).value args first o s idx = some true) : t.eval args first o idx s = some (.int k) := by
  simp only [Cond.value, Term.eval] at h
  cases ht : t.eval args first o idx s with
  | none => simp [ht] at h
  | some x => cases x <;> simp [ht] at h ⊢; exact h
theorem own_ref_v (h : (Jvm.Cond.eq t u).value args first o s idx = some true) (hu : u.eval args first o idx s = some (.ref a)) : t.eval args first o idx s = some (.ref a) := by
  simp only [Cond.value, hu] at h
  cases ht : t.eval args first o idx s with
  | none => simp [ht] at h
  | some x => cases x <;> simp [ht] at h ⊢; exact h
theorem own_fld {C n d : String} {k : Int32} (h : (Jvm.Cond.eq (.field t C n d) (.int k)).value args Z none Z [] = some true) (ht : t.eval args Z none [] Z = some (.ref a)) : Fld Z Z.heap a C n d (.int k) := Fld.start ((fld_at ht).symm.trans (own_int_v h))
theorem own_len {k : Int32} (h : (Jvm.Cond.eq (.length t) (.int k)).value args Z none Z [] = some true) (ht : t.eval args Z none [] Z = some (.ref a)) (A : Arr Z Z.heap a cl ty) : cl.slots.size < 2 ^ 31 ∧ cl.slots.size.toInt32 = k := by
  have h1 := own_int_v h
  have hA : Z.arrayAt? a = some cl := Arr.fin (Vm.Alike.refl _) A
  by_cases hl : cl.slots.size < 2 ^ 31
  · rw [len_f ht hA hl] at h1
    exact ⟨hl, by simpa using h1⟩
  · simp [Term.eval, ht, hA, hl] at h1
theorem own_elem {k : Int32} {v : Value} (h : (Term.elem t (.int k)).eval args Z none [] Z = some v) (ht : t.eval args Z none [] Z = some (.ref a)) (A : Arr Z Z.heap a cl ty) : cl.slots[k.toNatClampNeg]? = some v := (elem_in h ht (Term.int_eval k) A.1).2
end OwnWords
theorem own_nn (a : Int32) : ¬ (a &&& (2147483647 : Int32)) < 0 := by
  rw [Int32.lt_iff_toInt_lt]
  show ¬ (a &&& 2147483647).toBitVec.toInt < 0
  rw [Int32.toBitVec_and, BitVec.toInt_neg_iff]
  rw [Nat.not_le, BitVec.toNat_and]
  have : a.toBitVec.toNat &&& (2147483647 : Int32).toBitVec.toNat ≤ (2147483647 : Int32).toBitVec.toNat := Nat.and_le_right
  have e : (2147483647 : Int32).toBitVec.toNat = 2147483647 := by decide
  omega
theorem own_nnL (a : Int64) : ¬ (a &&& (9223372036854775807 : Int64)) < 0 := by
  rw [Int64.lt_iff_toInt_lt]
  show ¬ (a &&& 9223372036854775807).toBitVec.toInt < 0
  rw [Int64.toBitVec_and, BitVec.toInt_neg_iff]
  rw [Nat.not_le, BitVec.toNat_and]
  have : a.toBitVec.toNat &&& (9223372036854775807 : Int64).toBitVec.toNat ≤ (9223372036854775807 : Int64).toBitVec.toNat := Nat.and_le_right
  have e : (9223372036854775807 : Int64).toBitVec.toNat = 9223372036854775807 := by decide
  omega
theorem own_modb (a n : Int32) (ha : ¬ a < 0) (hn : 0 < n) : ¬ a % n < 0 ∧ a % n < n := by
  rw [Int32.lt_iff_toInt_lt] at *
  rw [Int32.lt_iff_toInt_lt] at *
  rw [Int32.toInt_mod]
  have z : (0 : Int32).toInt = 0 := rfl
  rw [z] at *
  have h1 := Int.tmod_nonneg n.toInt (Int.not_lt.mp ha)
  have h2 := Int.tmod_lt_of_pos a.toInt hn
  omega
theorem own_22 (a : Int32) (h0 : ¬ a < 0) (h : a < 22) : a = 0 ∨ a = 1 ∨ a = 2 ∨ a = 3 ∨ a = 4 ∨ a = 5 ∨ a = 6 ∨ a = 7 ∨ a = 8 ∨ a = 9 ∨ a = 10 ∨ a = 11 ∨ a = 12 ∨ a = 13 ∨ a = 14 ∨ a = 15 ∨ a = 16 ∨ a = 17 ∨ a = 18 ∨ a = 19 ∨ a = 20 ∨ a = 21 := by
  rw [Int32.lt_iff_toInt_lt] at h0 h
  have z : (0 : Int32).toInt = 0 := rfl
  have z : (22 : Int32).toInt = 22 := rfl
  have : a.toInt = 0 ∨ a.toInt = 1 ∨ a.toInt = 2 ∨ a.toInt = 3 ∨ a.toInt = 4 ∨ a.toInt = 5 ∨ a.toInt = 6 ∨ a.toInt = 7 ∨ a.toInt = 8 ∨ a.toInt = 9 ∨ a.toInt = 10 ∨ a.toInt = 11 ∨ a.toInt = 12 ∨ a.toInt = 13 ∨ a.toInt = 14 ∨ a.toInt = 15 ∨ a.toInt = 16 ∨ a.toInt = 17 ∨ a.toInt = 18 ∨ a.toInt = 19 ∨ a.toInt = 20 ∨ a.toInt = 21 := by omega
  simp only [← Int32.toInt_inj]
  exact this
def own_un (a k2 k3 : Addr) : Int32 := if a = k2 then 1 else if a = k3 then 1 else 0
theorem own_pn0 : plainName "com/example/guarded_twins/guardedtwins/model/Expression$Operator" = true := by first | (simp [plainName, overriddenIn]; done) | decide +kernel
theorem d1_0 : decode prog_50_method_5_code 0 = .ok (.aload_n 0, 1) := by decide +kernel
theorem d1_1 : decode prog_50_method_5_code 1 = .ok (.getstatic 10, 3) := by decide +kernel
theorem d1_4 : decode prog_50_method_5_code 4 = .ok (.if_acmp .eq 10, 3) := by decide +kernel
theorem d1_14 : decode prog_50_method_5_code 14 = .ok (.iconst 1, 1) := by decide +kernel
theorem d1_15 : decode prog_50_method_5_code 15 = .ok (.goto 4, 3) := by decide +kernel
theorem d1_19 : decode prog_50_method_5_code 19 = .ok (.ireturn, 1) := by decide +kernel
theorem d1_7 : decode prog_50_method_5_code 7 = .ok (.aload_n 0, 1) := by decide +kernel
theorem d1_8 : decode prog_50_method_5_code 8 = .ok (.getstatic 13, 3) := by decide +kernel
theorem d1_11 : decode prog_50_method_5_code 11 = .ok (.if_acmp .ne 7, 3) := by decide +kernel
theorem d1_18 : decode prog_50_method_5_code 18 = .ok (.iconst 0, 1) := by decide +kernel
set_option maxRecDepth 65536 in
set_option maxHeartbeats 40000000 in
theorem rm1 (l : Launch) (Z : State) (a0 : Array Value) (hw : ∀ d ∈ tables_1, d.before a0 Z = true) (a k2 k3 : Addr) (r : Int32) (h0 : Heap) (n0 : Nat) (Z0 : n0 ≤ h0.size) (S_k2 : Sta Z h0 "com/example/guarded_twins/guardedtwins/model/Expression$Operator" "NOT" "Lcom/example/guarded_twins/guardedtwins/model/Expression$Operator;" (.ref k2)) (S_k3 : Sta Z h0 "com/example/guarded_twins/guardedtwins/model/Expression$Operator" "NEGATE" "Lcom/example/guarded_twins/guardedtwins/model/Expression$Operator;" (.ref k3)) (hr : own_un a k2 k3 = r) :
    OwnMet l Z (⟨"com/example/guarded_twins/guardedtwins/model/Expression$Operator", "isUnary", "()Z"⟩ : MethodName) prog_50_method_5_code 1 (some .boolean) [] ({ frames := 0, cells := 0, slots := 0, locals := 0 } : Room) [(.ref a)] h0 (fun v h L => v = some (.int r) ∧ Fr n0 L ∧ h = h0) := by
  refine own_body (Ls := #[.val (.ref a)]) (plainFor_of_name own_pn0) (fun m => by first | (simp [entryFrame, mkF, argsToLocals, Value.category]; done) | rfl) (fun p e s m below meth cO T0 hx hby hml hown hnm hret hlk hZ X0 e0 => ?_)
  have hown : s.vm.findClass "com/example/guarded_twins/guardedtwins/model/Expression$Operator" = some m.cls := hown
  have N0 := Fr.nil n0
  refine g_aloadN X0 hx 1 (hb hby d1_0) rfl rfl rfl ?_
  refine g_getS X0 hx 4 hZ hown (host := "") (Or.inl (own_w hw 54 rfl)) Via.refl e0 S_k2 (hb hby d1_1) rfl (fun T1 X1 e1 => ?_)
  by_cases hc2 : (Value.ref a) = (Value.ref k2)
  · refine g_ac X1 hx 14 true (hb hby d1_4) rfl rfl (decide_eq_true hc2) (by decide) (by decide) ?_
    refine g_iconst X1 hx 15 (1 : Int32) (hb hby d1_14) (by decide) rfl ?_
    refine g_goto X1 hx 19 (hb hby d1_15) (by decide) (by decide) ?_
    have q0 : a = k2 := Value.ref.inj hc2
    exact g_retZ X1 hx hret hlk rfl (hb hby d1_19) (by decide) (by decide) ⟨by rw [← hr]; simp [own_un, q0], N0, e1⟩
  · refine g_ac X1 hx 7 false (hb hby d1_4) rfl rfl (decide_eq_false hc2) (by decide) (by decide) ?_
    refine g_aloadN X1 hx 8 (hb hby d1_7) rfl rfl rfl ?_
    refine g_getS X1 hx 11 hZ hown (host := "") (Or.inl (own_w hw 55 rfl)) Via.refl e1 S_k3 (hb hby d1_8) rfl (fun T3 X3 e3 => ?_)
    by_cases hc4 : (Value.ref a) = (Value.ref k3)
    · refine g_ac X3 hx 14 true (hb hby d1_11) rfl rfl (decide_eq_true hc4) (by decide) (by decide) ?_
      refine g_iconst X3 hx 15 (1 : Int32) (hb hby d1_14) (by decide) rfl ?_
      refine g_goto X3 hx 19 (hb hby d1_15) (by decide) (by decide) ?_
      have q0 : ¬ a = k2 := fun q => hc2 (congrArg Value.ref q)
      have q1 : a = k3 := Value.ref.inj hc4
      exact g_retZ X3 hx hret hlk rfl (hb hby d1_19) (by decide) (by decide) ⟨by rw [← hr]; simp [own_un, q0, q1], N0, e3⟩
    · refine g_ac X3 hx 18 false (hb hby d1_11) rfl rfl (decide_eq_false hc4) (by decide) (by decide) ?_
      refine g_iconst X3 hx 19 (0 : Int32) (hb hby d1_18) (by decide) rfl ?_
      have q0 : ¬ a = k2 := fun q => hc2 (congrArg Value.ref q)
      have q1 : ¬ a = k3 := fun q => hc4 (congrArg Value.ref q)
      exact g_retZ X3 hx hret hlk rfl (hb hby d1_19) (by decide) (by decide) ⟨by rw [← hr]; simp [own_un, q0, q1], N0, e3⟩
theorem own_pn1 : plainName "java/lang/Enum" = true := by first | (simp [plainName, overriddenIn]; done) | decide +kernel
theorem d3_0 : decode jdk_37_method_2_code 0 = .ok (.aload_n 0, 1) := by decide +kernel
theorem d3_1 : decode jdk_37_method_2_code 1 = .ok (.getfield 7, 3) := by decide +kernel
theorem d3_4 : decode jdk_37_method_2_code 4 = .ok (.ireturn, 1) := by decide +kernel
set_option maxRecDepth 65536 in
set_option maxHeartbeats 40000000 in
theorem rm3 (l : Launch) (Z : State) (a0 : Array Value) (hw : ∀ d ∈ tables_1, d.before a0 Z = true) (a : Addr) (z : Int32) (h0 : Heap) (n0 : Nat) (Z0 : n0 ≤ h0.size) (F_a : Fld Z h0 a "java/lang/Enum" "ordinal" "I" (.int z)) :
    OwnMet l Z (⟨"java/lang/Enum", "ordinal", "()I"⟩ : MethodName) jdk_37_method_2_code 1 (some .int) [] ({ frames := 0, cells := 0, slots := 0, locals := 0 } : Room) [(.ref a)] h0 (fun v h L => v = some (.int z) ∧ Fr n0 L ∧ h = h0) := by
  refine own_body (Ls := #[.val (.ref a)]) (plainFor_of_name own_pn1) (fun m => by first | (simp [entryFrame, mkF, argsToLocals, Value.category]; done) | rfl) (fun p e s m below meth cO T0 hx hby hml hown hnm hret hlk hZ X0 e0 => ?_)
  have hown : s.vm.findClass "java/lang/Enum" = some m.cls := hown
  have N0 := Fr.nil n0
  refine g_aloadN X0 hx 1 (hb hby d3_0) rfl rfl rfl ?_
  refine g_getF X0 hx 4 hZ hown (host := "") (Or.inl (own_w hw 68 rfl)) Via.refl e0 F_a (hb hby d3_1) rfl (fun T1 X1 e1 => ?_)
  exact g_retI X1 hx hret hlk (hb hby d3_4) (by decide) (by decide) ⟨rfl, N0, e1⟩
theorem d2_0 : decode prog_50_method_6_code 0 = .ok (.aload_n 0, 1) := by decide +kernel
theorem d2_1 : decode prog_50_method_6_code 1 = .ok (.invokevirtual 93, 3) := by decide +kernel
theorem own_pd0 : parseMethodDescriptor "()I" = some ⟨[], some .int⟩ := by decide +kernel
theorem d2_4 : decode prog_50_method_6_code 4 = .ok (.getstatic 16, 3) := by decide +kernel
theorem d2_7 : decode prog_50_method_6_code 7 = .ok (.invokevirtual 93, 3) := by decide +kernel
theorem d2_10 : decode prog_50_method_6_code 10 = .ok (.if_icmp .lt 20, 3) := by decide +kernel
theorem d2_30 : decode prog_50_method_6_code 30 = .ok (.iconst 0, 1) := by decide +kernel
theorem d2_31 : decode prog_50_method_6_code 31 = .ok (.ireturn, 1) := by decide +kernel
set_option maxRecDepth 65536 in
set_option maxHeartbeats 40000000 in
theorem rm2 (l : Launch) (Z : State) (a0 : Array Value) (hw : ∀ d ∈ tables_1, d.before a0 Z = true) (a k4 : Addr) (z : Int32) (h0 : Heap) (n0 : Nat) (Z0 : n0 ≤ h0.size) (S_k4 : Sta Z h0 "com/example/guarded_twins/guardedtwins/model/Expression$Operator" "TIMES" "Lcom/example/guarded_twins/guardedtwins/model/Expression$Operator;" (.ref k4)) (E_a : Exa Z h0 a "com/example/guarded_twins/guardedtwins/model/Expression$Operator") (E_4 : Exa Z h0 k4 "com/example/guarded_twins/guardedtwins/model/Expression$Operator") (F_a : Fld Z h0 a "java/lang/Enum" "ordinal" "I" (.int z)) (F_4 : Fld Z h0 k4 "java/lang/Enum" "ordinal" "I" (.int 4)) (hz : z < 4) :
    OwnMet l Z (⟨"com/example/guarded_twins/guardedtwins/model/Expression$Operator", "isBinary", "()Z"⟩ : MethodName) prog_50_method_6_code 1 (some .boolean) [] ({ frames := 1, cells := 0, slots := 0, locals := 13 } : Room) [(.ref a)] h0 (fun v h L => v = some (.int 0) ∧ Fr n0 L ∧ h = h0) := by
  refine own_body (Ls := #[.val (.ref a)]) (plainFor_of_name own_pn0) (fun m => by first | (simp [entryFrame, mkF, argsToLocals, Value.category]; done) | rfl) (fun p e s m below meth cO T0 hx hby hml hown hnm hret hlk hZ X0 e0 => ?_)
  have hown : s.vm.findClass "com/example/guarded_twins/guardedtwins/model/Expression$Operator" = some m.cls := hown
  have N0 := Fr.nil n0
  refine g_aloadN X0 hx 1 (hb hby d2_0) rfl rfl rfl ?_
  refine g_callU X0 hx 4 hZ hown (own_w hw 61 rfl) (own_w hw 62 rfl) (own_w hw 63 rfl) (by decide) (own_w hw 65 rfl) (own_w hw 64 rfl) (own_w hw 66 rfl) (own_w hw 67 rfl) a E_a [] [] (rm3 l Z a0 hw a z h0 n0 Z0 F_a) e0 0 (by decide) (by decide) (by decide) (by decide) (by rw [hml]; rfl) (lenOf own_pd0 rfl) (hb hby d2_1) rfl (Nat.le_of_eq rfl) rfl (fun v1 T1 L1 X1 hQ1 => ?_)
  obtain ⟨rfl, N1q, e1⟩ := hQ1
  have N1 := Fr.app N0 N1q
  show Go p e below _ _ T1 (mkF m 4 #[.val (.ref a)] [(.int z)])
  refine g_getS X1 hx 7 hZ hown (host := "") (Or.inl (own_w hw 70 rfl)) Via.refl e1 S_k4 (hb hby d2_4) rfl (fun T2 X2 e2 => ?_)
  refine g_callU X2 hx 10 hZ hown (own_w hw 61 rfl) (own_w hw 62 rfl) (own_w hw 63 rfl) (by decide) (own_w hw 65 rfl) (own_w hw 64 rfl) (own_w hw 66 rfl) (own_w hw 67 rfl) k4 E_4 [] [(.int z)] (rm3 l Z a0 hw k4 (4 : Int32) h0 n0 Z0 F_4) e2 1 (by decide) (by decide) (by decide) (by decide) (by rw [hml]; rfl) (lenOf own_pd0 rfl) (hb hby d2_7) rfl (Nat.le_of_eq rfl) rfl (fun v3 T3 L3 X3 hQ3 => ?_)
  obtain ⟨rfl, N3q, e3⟩ := hQ3
  have N3 := Fr.app N1 N3q
  show Go p e below _ _ T3 (mkF m 10 #[.val (.ref a)] [(.int (4 : Int32)), (.int z)])
  have hk4 : z < (4 : Int32) := hz
  refine g_icT X3 hx 30 (hb hby d2_10) (tlt hk4).1 (by decide) (by decide) ?_
  refine g_iconst X3 hx 31 (0 : Int32) (hb hby d2_30) (by decide) rfl ?_
  exact g_retZ X3 hx hret hlk rfl (hb hby d2_31) (by decide) (by decide) ⟨rfl, N3, e3⟩
theorem own_pn2 : plainName "com/example/guarded_twins/guardedtwins/model/OperatorIsUnaryPinLaw" = true := by first | (simp [plainName, overriddenIn]; done) | decide +kernel
theorem own_pd1 : parseMethodDescriptor "()Z" = some ⟨[], some .boolean⟩ := by decide +kernel
set_option maxRecDepth 65536 in
set_option maxHeartbeats 40000000 in
theorem rm0 (l : Launch) (Z : State) (a0 : Array Value) (hw : ∀ d ∈ tables_1, d.before a0 Z = true) (x : Int32) (k0 k1 k2 k3 k4 k5 k6 k7 k8 k9 k10 k11 k12 k13 k14 k15 k16 k17 k18 k19 k20 k21 : Addr) (h0 : Heap) (n0 : Nat) (Z0 : n0 ≤ h0.size) (S_k0 : Sta Z h0 "com/example/guarded_twins/guardedtwins/model/Expression$Operator" "CONSTANT" "Lcom/example/guarded_twins/guardedtwins/model/Expression$Operator;" (.ref k0)) (S_k1 : Sta Z h0 "com/example/guarded_twins/guardedtwins/model/Expression$Operator" "NAME" "Lcom/example/guarded_twins/guardedtwins/model/Expression$Operator;" (.ref k1)) (S_k2 : Sta Z h0 "com/example/guarded_twins/guardedtwins/model/Expression$Operator" "NOT" "Lcom/example/guarded_twins/guardedtwins/model/Expression$Operator;" (.ref k2)) (S_k3 : Sta Z h0 "com/example/guarded_twins/guardedtwins/model/Expression$Operator" "NEGATE" "Lcom/example/guarded_twins/guardedtwins/model/Expression$Operator;" (.ref k3)) (S_k4 : Sta Z h0 "com/example/guarded_twins/guardedtwins/model/Expression$Operator" "TIMES" "Lcom/example/guarded_twins/guardedtwins/model/Expression$Operator;" (.ref k4)) (S_k5 : Sta Z h0 "com/example/guarded_twins/guardedtwins/model/Expression$Operator" "DIVIDE" "Lcom/example/guarded_twins/guardedtwins/model/Expression$Operator;" (.ref k5)) (S_k6 : Sta Z h0 "com/example/guarded_twins/guardedtwins/model/Expression$Operator" "MOD" "Lcom/example/guarded_twins/guardedtwins/model/Expression$Operator;" (.ref k6)) (S_k7 : Sta Z h0 "com/example/guarded_twins/guardedtwins/model/Expression$Operator" "PLUS" "Lcom/example/guarded_twins/guardedtwins/model/Expression$Operator;" (.ref k7)) (S_k8 : Sta Z h0 "com/example/guarded_twins/guardedtwins/model/Expression$Operator" "MINUS" "Lcom/example/guarded_twins/guardedtwins/model/Expression$Operator;" (.ref k8)) (S_k9 : Sta Z h0 "com/example/guarded_twins/guardedtwins/model/Expression$Operator" "EQUAL" "Lcom/example/guarded_twins/guardedtwins/model/Expression$Operator;" (.ref k9)) (S_k10 : Sta Z h0 "com/example/guarded_twins/guardedtwins/model/Expression$Operator" "NOT_EQUAL" "Lcom/example/guarded_twins/guardedtwins/model/Expression$Operator;" (.ref k10)) (S_k11 : Sta Z h0 "com/example/guarded_twins/guardedtwins/model/Expression$Operator" "LESS" "Lcom/example/guarded_twins/guardedtwins/model/Expression$Operator;" (.ref k11)) (S_k12 : Sta Z h0 "com/example/guarded_twins/guardedtwins/model/Expression$Operator" "LESS_EQUAL" "Lcom/example/guarded_twins/guardedtwins/model/Expression$Operator;" (.ref k12)) (S_k13 : Sta Z h0 "com/example/guarded_twins/guardedtwins/model/Expression$Operator" "GREATER" "Lcom/example/guarded_twins/guardedtwins/model/Expression$Operator;" (.ref k13)) (S_k14 : Sta Z h0 "com/example/guarded_twins/guardedtwins/model/Expression$Operator" "GREATER_EQUAL" "Lcom/example/guarded_twins/guardedtwins/model/Expression$Operator;" (.ref k14)) (S_k15 : Sta Z h0 "com/example/guarded_twins/guardedtwins/model/Expression$Operator" "AND" "Lcom/example/guarded_twins/guardedtwins/model/Expression$Operator;" (.ref k15)) (S_k16 : Sta Z h0 "com/example/guarded_twins/guardedtwins/model/Expression$Operator" "OR" "Lcom/example/guarded_twins/guardedtwins/model/Expression$Operator;" (.ref k16)) (S_k17 : Sta Z h0 "com/example/guarded_twins/guardedtwins/model/Expression$Operator" "XOR" "Lcom/example/guarded_twins/guardedtwins/model/Expression$Operator;" (.ref k17)) (S_k18 : Sta Z h0 "com/example/guarded_twins/guardedtwins/model/Expression$Operator" "IFF" "Lcom/example/guarded_twins/guardedtwins/model/Expression$Operator;" (.ref k18)) (S_k19 : Sta Z h0 "com/example/guarded_twins/guardedtwins/model/Expression$Operator" "IMPLIES" "Lcom/example/guarded_twins/guardedtwins/model/Expression$Operator;" (.ref k19)) (S_k20 : Sta Z h0 "com/example/guarded_twins/guardedtwins/model/Expression$Operator" "CASE" "Lcom/example/guarded_twins/guardedtwins/model/Expression$Operator;" (.ref k20)) (S_k21 : Sta Z h0 "com/example/guarded_twins/guardedtwins/model/Expression$Operator" "SET" "Lcom/example/guarded_twins/guardedtwins/model/Expression$Operator;" (.ref k21)) (E_k0 : Exa Z h0 k0 "com/example/guarded_twins/guardedtwins/model/Expression$Operator") (F_k0 : Fld Z h0 k0 "java/lang/Enum" "ordinal" "I" (.int 0)) (E_k1 : Exa Z h0 k1 "com/example/guarded_twins/guardedtwins/model/Expression$Operator") (F_k1 : Fld Z h0 k1 "java/lang/Enum" "ordinal" "I" (.int 1)) (E_k2 : Exa Z h0 k2 "com/example/guarded_twins/guardedtwins/model/Expression$Operator") (F_k2 : Fld Z h0 k2 "java/lang/Enum" "ordinal" "I" (.int 2)) (E_k3 : Exa Z h0 k3 "com/example/guarded_twins/guardedtwins/model/Expression$Operator") (F_k3 : Fld Z h0 k3 "java/lang/Enum" "ordinal" "I" (.int 3)) (E_k4 : Exa Z h0 k4 "com/example/guarded_twins/guardedtwins/model/Expression$Operator") (F_k4 : Fld Z h0 k4 "java/lang/Enum" "ordinal" "I" (.int 4)) (E_k5 : Exa Z h0 k5 "com/example/guarded_twins/guardedtwins/model/Expression$Operator") (F_k5 : Fld Z h0 k5 "java/lang/Enum" "ordinal" "I" (.int 5)) (E_k6 : Exa Z h0 k6 "com/example/guarded_twins/guardedtwins/model/Expression$Operator") (F_k6 : Fld Z h0 k6 "java/lang/Enum" "ordinal" "I" (.int 6)) (E_k7 : Exa Z h0 k7 "com/example/guarded_twins/guardedtwins/model/Expression$Operator") (F_k7 : Fld Z h0 k7 "java/lang/Enum" "ordinal" "I" (.int 7)) (E_k8 : Exa Z h0 k8 "com/example/guarded_twins/guardedtwins/model/Expression$Operator") (F_k8 : Fld Z h0 k8 "java/lang/Enum" "ordinal" "I" (.int 8)) (E_k9 : Exa Z h0 k9 "com/example/guarded_twins/guardedtwins/model/Expression$Operator") (F_k9 : Fld Z h0 k9 "java/lang/Enum" "ordinal" "I" (.int 9)) (E_k10 : Exa Z h0 k10 "com/example/guarded_twins/guardedtwins/model/Expression$Operator") (F_k10 : Fld Z h0 k10 "java/lang/Enum" "ordinal" "I" (.int 10)) (E_k11 : Exa Z h0 k11 "com/example/guarded_twins/guardedtwins/model/Expression$Operator") (F_k11 : Fld Z h0 k11 "java/lang/Enum" "ordinal" "I" (.int 11)) (E_k12 : Exa Z h0 k12 "com/example/guarded_twins/guardedtwins/model/Expression$Operator") (F_k12 : Fld Z h0 k12 "java/lang/Enum" "ordinal" "I" (.int 12)) (E_k13 : Exa Z h0 k13 "com/example/guarded_twins/guardedtwins/model/Expression$Operator") (F_k13 : Fld Z h0 k13 "java/lang/Enum" "ordinal" "I" (.int 13)) (E_k14 : Exa Z h0 k14 "com/example/guarded_twins/guardedtwins/model/Expression$Operator") (F_k14 : Fld Z h0 k14 "java/lang/Enum" "ordinal" "I" (.int 14)) (E_k15 : Exa Z h0 k15 "com/example/guarded_twins/guardedtwins/model/Expression$Operator") (F_k15 : Fld Z h0 k15 "java/lang/Enum" "ordinal" "I" (.int 15)) (E_k16 : Exa Z h0 k16 "com/example/guarded_twins/guardedtwins/model/Expression$Operator") (F_k16 : Fld Z h0 k16 "java/lang/Enum" "ordinal" "I" (.int 16)) (E_k17 : Exa Z h0 k17 "com/example/guarded_twins/guardedtwins/model/Expression$Operator") (F_k17 : Fld Z h0 k17 "java/lang/Enum" "ordinal" "I" (.int 17)) (E_k18 : Exa Z h0 k18 "com/example/guarded_twins/guardedtwins/model/Expression$Operator") (F_k18 : Fld Z h0 k18 "java/lang/Enum" "ordinal" "I" (.int 18)) (E_k19 : Exa Z h0 k19 "com/example/guarded_twins/guardedtwins/model/Expression$Operator") (F_k19 : Fld Z h0 k19 "java/lang/Enum" "ordinal" "I" (.int 19)) (E_k20 : Exa Z h0 k20 "com/example/guarded_twins/guardedtwins/model/Expression$Operator") (F_k20 : Fld Z h0 k20 "java/lang/Enum" "ordinal" "I" (.int 20)) (E_k21 : Exa Z h0 k21 "com/example/guarded_twins/guardedtwins/model/Expression$Operator") (F_k21 : Fld Z h0 k21 "java/lang/Enum" "ordinal" "I" (.int 21)) :
    OwnMet l Z Jvm.Pilot.@@N@@.x code maxLocals ret tables_1 room_1 [(.int x)] h0 (fun v h L => v = some (.int 1) ∧ Fr n0 L) := by
  refine own_body (Ls := #[.val (.int x), .unset, .unset, .unset, .unset, .unset]) (plainFor_of_name own_pn2) (fun m => by first | (simp [entryFrame, mkF, argsToLocals, Value.category, maxLocals]; done) | rfl) (fun p e s m below meth cO T0 hx hby hml hown hnm hret hlk hZ X0 e0 => ?_)
  have hml : cO.maxLocals = 6 := hml
  have hown : s.vm.findClass "com/example/guarded_twins/guardedtwins/model/OperatorIsUnaryPinLaw" = some m.cls := hown
  have N0 := Fr.nil n0
  have K0 := Keep.refl h0 []
  refine g_bipush X0 hx 2 (22 : Int32) (hb hby at_0) (by decide) rfl ?_
  refine g_newR X0 hx 5 hZ hown (own_w hw 0 rfl) (own_w hw 1 rfl) e0 (hb hby at_2) (by decide) 22 (by decide) (by decide) (by decide) (by decide) rfl (fun T1 h1 b1 kl1 g1 X1 e1 E1 A1 O1 => ?_)
  have G_b1 : n0 ≤ b1 := Nat.le_trans Z0 (Nat.le_of_eq g1.symm)
  have Z1 : n0 ≤ h1.size := Nat.le_trans Z0 E1.1
  have SZ_b1 : h0.size ≤ b1 := Nat.le_trans K0.1 (Nat.le_of_eq g1.symm)
  have K1 := K0.ext E1
  have V_b1 : Arv Z h1 b1 kl1 (.object "com/example/guarded_twins/guardedtwins/model/Expression$Operator") (22 : Int32) [.null, .null, .null, .null, .null, .null, .null, .null, .null, .null, .null, .null, .null, .null, .null, .null, .null, .null, .null, .null, .null, .null] .null := A1.pad (pad_rep [] .null 22)
  refine g_dup X1 hx 6 (hb hby at_5) rfl rfl ?_
  refine g_iconst X1 hx 7 (0 : Int32) (hb hby at_6) (by decide) rfl ?_
  refine g_getS X1 hx 10 hZ hown (host := "") (Or.inl (own_w hw 2 rfl)) Via.refl e1 (own_sta_keep S_k0 K1) (hb hby at_7) rfl (fun T2 X2 e2 => ?_)
  refine g_aastore X2 hx 11 hZ e2 V_b1 O1 (Ins.self (E_k0.keep K1)) 0 (by decide) ⟨by decide, by decide⟩ (Nat.le_of_ble_eq_true rfl) (hb hby at_10) rfl (fun T3 h3 X3 e3 W3 V3 => ?_)
  have V_b1 : Arv Z h3 b1 kl1 (.object "com/example/guarded_twins/guardedtwins/model/Expression$Operator") (22 : Int32) [(.ref k0), .null, .null, .null, .null, .null, .null, .null, .null, .null, .null, .null, .null, .null, .null, .null, .null, .null, .null, .null, .null, .null] .null := V3
  have N3 := Fr.snoc X3 N0 G_b1
  have Z3 : n0 ≤ h3.size := by rw [W3.size]; exact Z1
  have K3 := K1.wr W3 (Or.inr SZ_b1)
  refine g_dup X3 hx 12 (hb hby at_11) rfl rfl ?_
  refine g_iconst X3 hx 13 (1 : Int32) (hb hby at_12) (by decide) rfl ?_
  refine g_getS X3 hx 16 hZ hown (host := "") (Or.inl (own_w hw 6 rfl)) Via.refl e3 (own_sta_keep S_k1 K3) (hb hby at_13) rfl (fun T4 X4 e4 => ?_)
  refine g_aastore X4 hx 17 hZ e4 V_b1 O1 (Ins.self (E_k1.keep K3)) 1 (by decide) ⟨by decide, by decide⟩ (Nat.le_of_ble_eq_true rfl) (hb hby at_16) rfl (fun T5 h5 X5 e5 W5 V5 => ?_)
  have V_b1 : Arv Z h5 b1 kl1 (.object "com/example/guarded_twins/guardedtwins/model/Expression$Operator") (22 : Int32) [(.ref k0), (.ref k1), .null, .null, .null, .null, .null, .null, .null, .null, .null, .null, .null, .null, .null, .null, .null, .null, .null, .null, .null, .null] .null := V5
  have N5 := Fr.snoc X5 N3 G_b1
  have Z5 : n0 ≤ h5.size := by rw [W5.size]; exact Z3
  have K5 := K3.wr W5 (Or.inr SZ_b1)
  refine g_dup X5 hx 18 (hb hby at_17) rfl rfl ?_
  refine g_iconst X5 hx 19 (2 : Int32) (hb hby at_18) (by decide) rfl ?_
  refine g_getS X5 hx 22 hZ hown (host := "") (Or.inl (own_w hw 8 rfl)) Via.refl e5 (own_sta_keep S_k2 K5) (hb hby at_19) rfl (fun T6 X6 e6 => ?_)
  refine g_aastore X6 hx 23 hZ e6 V_b1 O1 (Ins.self (E_k2.keep K5)) 2 (by decide) ⟨by decide, by decide⟩ (Nat.le_of_ble_eq_true rfl) (hb hby at_22) rfl (fun T7 h7 X7 e7 W7 V7 => ?_)
  have V_b1 : Arv Z h7 b1 kl1 (.object "com/example/guarded_twins/guardedtwins/model/Expression$Operator") (22 : Int32) [(.ref k0), (.ref k1), (.ref k2), .null, .null, .null, .null, .null, .null, .null, .null, .null, .null, .null, .null, .null, .null, .null, .null, .null, .null, .null] .null := V7
  have N7 := Fr.snoc X7 N5 G_b1
  have Z7 : n0 ≤ h7.size := by rw [W7.size]; exact Z5
  have K7 := K5.wr W7 (Or.inr SZ_b1)
  refine g_dup X7 hx 24 (hb hby at_23) rfl rfl ?_
  refine g_iconst X7 hx 25 (3 : Int32) (hb hby at_24) (by decide) rfl ?_
  refine g_getS X7 hx 28 hZ hown (host := "") (Or.inl (own_w hw 10 rfl)) Via.refl e7 (own_sta_keep S_k3 K7) (hb hby at_25) rfl (fun T8 X8 e8 => ?_)
  refine g_aastore X8 hx 29 hZ e8 V_b1 O1 (Ins.self (E_k3.keep K7)) 3 (by decide) ⟨by decide, by decide⟩ (Nat.le_of_ble_eq_true rfl) (hb hby at_28) rfl (fun T9 h9 X9 e9 W9 V9 => ?_)
  have V_b1 : Arv Z h9 b1 kl1 (.object "com/example/guarded_twins/guardedtwins/model/Expression$Operator") (22 : Int32) [(.ref k0), (.ref k1), (.ref k2), (.ref k3), .null, .null, .null, .null, .null, .null, .null, .null, .null, .null, .null, .null, .null, .null, .null, .null, .null, .null] .null := V9
  have N9 := Fr.snoc X9 N7 G_b1
  have Z9 : n0 ≤ h9.size := by rw [W9.size]; exact Z7
  have K9 := K7.wr W9 (Or.inr SZ_b1)
  refine g_dup X9 hx 30 (hb hby at_29) rfl rfl ?_
  refine g_iconst X9 hx 31 (4 : Int32) (hb hby at_30) (by decide) rfl ?_
  refine g_getS X9 hx 34 hZ hown (host := "") (Or.inl (own_w hw 12 rfl)) Via.refl e9 (own_sta_keep S_k4 K9) (hb hby at_31) rfl (fun T10 X10 e10 => ?_)
  refine g_aastore X10 hx 35 hZ e10 V_b1 O1 (Ins.self (E_k4.keep K9)) 4 (by decide) ⟨by decide, by decide⟩ (Nat.le_of_ble_eq_true rfl) (hb hby at_34) rfl (fun T11 h11 X11 e11 W11 V11 => ?_)
  have V_b1 : Arv Z h11 b1 kl1 (.object "com/example/guarded_twins/guardedtwins/model/Expression$Operator") (22 : Int32) [(.ref k0), (.ref k1), (.ref k2), (.ref k3), (.ref k4), .null, .null, .null, .null, .null, .null, .null, .null, .null, .null, .null, .null, .null, .null, .null, .null, .null] .null := V11
  have N11 := Fr.snoc X11 N9 G_b1
  have Z11 : n0 ≤ h11.size := by rw [W11.size]; exact Z9
  have K11 := K9.wr W11 (Or.inr SZ_b1)
  refine g_dup X11 hx 36 (hb hby at_35) rfl rfl ?_
  refine g_iconst X11 hx 37 (5 : Int32) (hb hby at_36) (by decide) rfl ?_
  refine g_getS X11 hx 40 hZ hown (host := "") (Or.inl (own_w hw 14 rfl)) Via.refl e11 (own_sta_keep S_k5 K11) (hb hby at_37) rfl (fun T12 X12 e12 => ?_)
  refine g_aastore X12 hx 41 hZ e12 V_b1 O1 (Ins.self (E_k5.keep K11)) 5 (by decide) ⟨by decide, by decide⟩ (Nat.le_of_ble_eq_true rfl) (hb hby at_40) rfl (fun T13 h13 X13 e13 W13 V13 => ?_)
  have V_b1 : Arv Z h13 b1 kl1 (.object "com/example/guarded_twins/guardedtwins/model/Expression$Operator") (22 : Int32) [(.ref k0), (.ref k1), (.ref k2), (.ref k3), (.ref k4), (.ref k5), .null, .null, .null, .null, .null, .null, .null, .null, .null, .null, .null, .null, .null, .null, .null, .null] .null := V13
  have N13 := Fr.snoc X13 N11 G_b1
  have Z13 : n0 ≤ h13.size := by rw [W13.size]; exact Z11
  have K13 := K11.wr W13 (Or.inr SZ_b1)
  refine g_dup X13 hx 42 (hb hby at_41) rfl rfl ?_
  refine g_bipush X13 hx 44 (6 : Int32) (hb hby at_42) (by decide) rfl ?_
  refine g_getS X13 hx 47 hZ hown (host := "") (Or.inl (own_w hw 16 rfl)) Via.refl e13 (own_sta_keep S_k6 K13) (hb hby at_44) rfl (fun T14 X14 e14 => ?_)
  refine g_aastore X14 hx 48 hZ e14 V_b1 O1 (Ins.self (E_k6.keep K13)) 6 (by decide) ⟨by decide, by decide⟩ (Nat.le_of_ble_eq_true rfl) (hb hby at_47) rfl (fun T15 h15 X15 e15 W15 V15 => ?_)
  have V_b1 : Arv Z h15 b1 kl1 (.object "com/example/guarded_twins/guardedtwins/model/Expression$Operator") (22 : Int32) [(.ref k0), (.ref k1), (.ref k2), (.ref k3), (.ref k4), (.ref k5), (.ref k6), .null, .null, .null, .null, .null, .null, .null, .null, .null, .null, .null, .null, .null, .null, .null] .null := V15
  have N15 := Fr.snoc X15 N13 G_b1
  have Z15 : n0 ≤ h15.size := by rw [W15.size]; exact Z13
  have K15 := K13.wr W15 (Or.inr SZ_b1)
  refine g_dup X15 hx 49 (hb hby at_48) rfl rfl ?_
  refine g_bipush X15 hx 51 (7 : Int32) (hb hby at_49) (by decide) rfl ?_
  refine g_getS X15 hx 54 hZ hown (host := "") (Or.inl (own_w hw 18 rfl)) Via.refl e15 (own_sta_keep S_k7 K15) (hb hby at_51) rfl (fun T16 X16 e16 => ?_)
  refine g_aastore X16 hx 55 hZ e16 V_b1 O1 (Ins.self (E_k7.keep K15)) 7 (by decide) ⟨by decide, by decide⟩ (Nat.le_of_ble_eq_true rfl) (hb hby at_54) rfl (fun T17 h17 X17 e17 W17 V17 => ?_)
  have V_b1 : Arv Z h17 b1 kl1 (.object "com/example/guarded_twins/guardedtwins/model/Expression$Operator") (22 : Int32) [(.ref k0), (.ref k1), (.ref k2), (.ref k3), (.ref k4), (.ref k5), (.ref k6), (.ref k7), .null, .null, .null, .null, .null, .null, .null, .null, .null, .null, .null, .null, .null, .null] .null := V17
  have N17 := Fr.snoc X17 N15 G_b1
  have Z17 : n0 ≤ h17.size := by rw [W17.size]; exact Z15
  have K17 := K15.wr W17 (Or.inr SZ_b1)
  refine g_dup X17 hx 56 (hb hby at_55) rfl rfl ?_
  refine g_bipush X17 hx 58 (8 : Int32) (hb hby at_56) (by decide) rfl ?_
  refine g_getS X17 hx 61 hZ hown (host := "") (Or.inl (own_w hw 20 rfl)) Via.refl e17 (own_sta_keep S_k8 K17) (hb hby at_58) rfl (fun T18 X18 e18 => ?_)
  refine g_aastore X18 hx 62 hZ e18 V_b1 O1 (Ins.self (E_k8.keep K17)) 8 (by decide) ⟨by decide, by decide⟩ (Nat.le_of_ble_eq_true rfl) (hb hby at_61) rfl (fun T19 h19 X19 e19 W19 V19 => ?_)
  have V_b1 : Arv Z h19 b1 kl1 (.object "com/example/guarded_twins/guardedtwins/model/Expression$Operator") (22 : Int32) [(.ref k0), (.ref k1), (.ref k2), (.ref k3), (.ref k4), (.ref k5), (.ref k6), (.ref k7), (.ref k8), .null, .null, .null, .null, .null, .null, .null, .null, .null, .null, .null, .null, .null] .null := V19
  have N19 := Fr.snoc X19 N17 G_b1
  have Z19 : n0 ≤ h19.size := by rw [W19.size]; exact Z17
  have K19 := K17.wr W19 (Or.inr SZ_b1)
  refine g_dup X19 hx 63 (hb hby at_62) rfl rfl ?_
  refine g_bipush X19 hx 65 (9 : Int32) (hb hby at_63) (by decide) rfl ?_
  refine g_getS X19 hx 68 hZ hown (host := "") (Or.inl (own_w hw 22 rfl)) Via.refl e19 (own_sta_keep S_k9 K19) (hb hby at_65) rfl (fun T20 X20 e20 => ?_)
  refine g_aastore X20 hx 69 hZ e20 V_b1 O1 (Ins.self (E_k9.keep K19)) 9 (by decide) ⟨by decide, by decide⟩ (Nat.le_of_ble_eq_true rfl) (hb hby at_68) rfl (fun T21 h21 X21 e21 W21 V21 => ?_)
  have V_b1 : Arv Z h21 b1 kl1 (.object "com/example/guarded_twins/guardedtwins/model/Expression$Operator") (22 : Int32) [(.ref k0), (.ref k1), (.ref k2), (.ref k3), (.ref k4), (.ref k5), (.ref k6), (.ref k7), (.ref k8), (.ref k9), .null, .null, .null, .null, .null, .null, .null, .null, .null, .null, .null, .null] .null := V21
  have N21 := Fr.snoc X21 N19 G_b1
  have Z21 : n0 ≤ h21.size := by rw [W21.size]; exact Z19
  have K21 := K19.wr W21 (Or.inr SZ_b1)
  refine g_dup X21 hx 70 (hb hby at_69) rfl rfl ?_
  refine g_bipush X21 hx 72 (10 : Int32) (hb hby at_70) (by decide) rfl ?_
  refine g_getS X21 hx 75 hZ hown (host := "") (Or.inl (own_w hw 24 rfl)) Via.refl e21 (own_sta_keep S_k10 K21) (hb hby at_72) rfl (fun T22 X22 e22 => ?_)
  refine g_aastore X22 hx 76 hZ e22 V_b1 O1 (Ins.self (E_k10.keep K21)) 10 (by decide) ⟨by decide, by decide⟩ (Nat.le_of_ble_eq_true rfl) (hb hby at_75) rfl (fun T23 h23 X23 e23 W23 V23 => ?_)
  have V_b1 : Arv Z h23 b1 kl1 (.object "com/example/guarded_twins/guardedtwins/model/Expression$Operator") (22 : Int32) [(.ref k0), (.ref k1), (.ref k2), (.ref k3), (.ref k4), (.ref k5), (.ref k6), (.ref k7), (.ref k8), (.ref k9), (.ref k10), .null, .null, .null, .null, .null, .null, .null, .null, .null, .null, .null] .null := V23
  have N23 := Fr.snoc X23 N21 G_b1
  have Z23 : n0 ≤ h23.size := by rw [W23.size]; exact Z21
  have K23 := K21.wr W23 (Or.inr SZ_b1)
  refine g_dup X23 hx 77 (hb hby at_76) rfl rfl ?_
  refine g_bipush X23 hx 79 (11 : Int32) (hb hby at_77) (by decide) rfl ?_
  refine g_getS X23 hx 82 hZ hown (host := "") (Or.inl (own_w hw 26 rfl)) Via.refl e23 (own_sta_keep S_k11 K23) (hb hby at_79) rfl (fun T24 X24 e24 => ?_)
  refine g_aastore X24 hx 83 hZ e24 V_b1 O1 (Ins.self (E_k11.keep K23)) 11 (by decide) ⟨by decide, by decide⟩ (Nat.le_of_ble_eq_true rfl) (hb hby at_82) rfl (fun T25 h25 X25 e25 W25 V25 => ?_)
  have V_b1 : Arv Z h25 b1 kl1 (.object "com/example/guarded_twins/guardedtwins/model/Expression$Operator") (22 : Int32) [(.ref k0), (.ref k1), (.ref k2), (.ref k3), (.ref k4), (.ref k5), (.ref k6), (.ref k7), (.ref k8), (.ref k9), (.ref k10), (.ref k11), .null, .null, .null, .null, .null, .null, .null, .null, .null, .null] .null := V25
  have N25 := Fr.snoc X25 N23 G_b1
  have Z25 : n0 ≤ h25.size := by rw [W25.size]; exact Z23
  have K25 := K23.wr W25 (Or.inr SZ_b1)
  refine g_dup X25 hx 84 (hb hby at_83) rfl rfl ?_
  refine g_bipush X25 hx 86 (12 : Int32) (hb hby at_84) (by decide) rfl ?_
  refine g_getS X25 hx 89 hZ hown (host := "") (Or.inl (own_w hw 28 rfl)) Via.refl e25 (own_sta_keep S_k12 K25) (hb hby at_86) rfl (fun T26 X26 e26 => ?_)
  refine g_aastore X26 hx 90 hZ e26 V_b1 O1 (Ins.self (E_k12.keep K25)) 12 (by decide) ⟨by decide, by decide⟩ (Nat.le_of_ble_eq_true rfl) (hb hby at_89) rfl (fun T27 h27 X27 e27 W27 V27 => ?_)
  have V_b1 : Arv Z h27 b1 kl1 (.object "com/example/guarded_twins/guardedtwins/model/Expression$Operator") (22 : Int32) [(.ref k0), (.ref k1), (.ref k2), (.ref k3), (.ref k4), (.ref k5), (.ref k6), (.ref k7), (.ref k8), (.ref k9), (.ref k10), (.ref k11), (.ref k12), .null, .null, .null, .null, .null, .null, .null, .null, .null] .null := V27
  have N27 := Fr.snoc X27 N25 G_b1
  have Z27 : n0 ≤ h27.size := by rw [W27.size]; exact Z25
  have K27 := K25.wr W27 (Or.inr SZ_b1)
  refine g_dup X27 hx 91 (hb hby at_90) rfl rfl ?_
  refine g_bipush X27 hx 93 (13 : Int32) (hb hby at_91) (by decide) rfl ?_
  refine g_getS X27 hx 96 hZ hown (host := "") (Or.inl (own_w hw 30 rfl)) Via.refl e27 (own_sta_keep S_k13 K27) (hb hby at_93) rfl (fun T28 X28 e28 => ?_)
  refine g_aastore X28 hx 97 hZ e28 V_b1 O1 (Ins.self (E_k13.keep K27)) 13 (by decide) ⟨by decide, by decide⟩ (Nat.le_of_ble_eq_true rfl) (hb hby at_96) rfl (fun T29 h29 X29 e29 W29 V29 => ?_)
  have V_b1 : Arv Z h29 b1 kl1 (.object "com/example/guarded_twins/guardedtwins/model/Expression$Operator") (22 : Int32) [(.ref k0), (.ref k1), (.ref k2), (.ref k3), (.ref k4), (.ref k5), (.ref k6), (.ref k7), (.ref k8), (.ref k9), (.ref k10), (.ref k11), (.ref k12), (.ref k13), .null, .null, .null, .null, .null, .null, .null, .null] .null := V29
  have N29 := Fr.snoc X29 N27 G_b1
  have Z29 : n0 ≤ h29.size := by rw [W29.size]; exact Z27
  have K29 := K27.wr W29 (Or.inr SZ_b1)
  refine g_dup X29 hx 98 (hb hby at_97) rfl rfl ?_
  refine g_bipush X29 hx 100 (14 : Int32) (hb hby at_98) (by decide) rfl ?_
  refine g_getS X29 hx 103 hZ hown (host := "") (Or.inl (own_w hw 32 rfl)) Via.refl e29 (own_sta_keep S_k14 K29) (hb hby at_100) rfl (fun T30 X30 e30 => ?_)
  refine g_aastore X30 hx 104 hZ e30 V_b1 O1 (Ins.self (E_k14.keep K29)) 14 (by decide) ⟨by decide, by decide⟩ (Nat.le_of_ble_eq_true rfl) (hb hby at_103) rfl (fun T31 h31 X31 e31 W31 V31 => ?_)
  have V_b1 : Arv Z h31 b1 kl1 (.object "com/example/guarded_twins/guardedtwins/model/Expression$Operator") (22 : Int32) [(.ref k0), (.ref k1), (.ref k2), (.ref k3), (.ref k4), (.ref k5), (.ref k6), (.ref k7), (.ref k8), (.ref k9), (.ref k10), (.ref k11), (.ref k12), (.ref k13), (.ref k14), .null, .null, .null, .null, .null, .null, .null] .null := V31
  have N31 := Fr.snoc X31 N29 G_b1
  have Z31 : n0 ≤ h31.size := by rw [W31.size]; exact Z29
  have K31 := K29.wr W31 (Or.inr SZ_b1)
  refine g_dup X31 hx 105 (hb hby at_104) rfl rfl ?_
  refine g_bipush X31 hx 107 (15 : Int32) (hb hby at_105) (by decide) rfl ?_
  refine g_getS X31 hx 110 hZ hown (host := "") (Or.inl (own_w hw 34 rfl)) Via.refl e31 (own_sta_keep S_k15 K31) (hb hby at_107) rfl (fun T32 X32 e32 => ?_)
  refine g_aastore X32 hx 111 hZ e32 V_b1 O1 (Ins.self (E_k15.keep K31)) 15 (by decide) ⟨by decide, by decide⟩ (Nat.le_of_ble_eq_true rfl) (hb hby at_110) rfl (fun T33 h33 X33 e33 W33 V33 => ?_)
  have V_b1 : Arv Z h33 b1 kl1 (.object "com/example/guarded_twins/guardedtwins/model/Expression$Operator") (22 : Int32) [(.ref k0), (.ref k1), (.ref k2), (.ref k3), (.ref k4), (.ref k5), (.ref k6), (.ref k7), (.ref k8), (.ref k9), (.ref k10), (.ref k11), (.ref k12), (.ref k13), (.ref k14), (.ref k15), .null, .null, .null, .null, .null, .null] .null := V33
  have N33 := Fr.snoc X33 N31 G_b1
  have Z33 : n0 ≤ h33.size := by rw [W33.size]; exact Z31
  have K33 := K31.wr W33 (Or.inr SZ_b1)
  refine g_dup X33 hx 112 (hb hby at_111) rfl rfl ?_
  refine g_bipush X33 hx 114 (16 : Int32) (hb hby at_112) (by decide) rfl ?_
  refine g_getS X33 hx 117 hZ hown (host := "") (Or.inl (own_w hw 36 rfl)) Via.refl e33 (own_sta_keep S_k16 K33) (hb hby at_114) rfl (fun T34 X34 e34 => ?_)
  refine g_aastore X34 hx 118 hZ e34 V_b1 O1 (Ins.self (E_k16.keep K33)) 16 (by decide) ⟨by decide, by decide⟩ (Nat.le_of_ble_eq_true rfl) (hb hby at_117) rfl (fun T35 h35 X35 e35 W35 V35 => ?_)
  have V_b1 : Arv Z h35 b1 kl1 (.object "com/example/guarded_twins/guardedtwins/model/Expression$Operator") (22 : Int32) [(.ref k0), (.ref k1), (.ref k2), (.ref k3), (.ref k4), (.ref k5), (.ref k6), (.ref k7), (.ref k8), (.ref k9), (.ref k10), (.ref k11), (.ref k12), (.ref k13), (.ref k14), (.ref k15), (.ref k16), .null, .null, .null, .null, .null] .null := V35
  have N35 := Fr.snoc X35 N33 G_b1
  have Z35 : n0 ≤ h35.size := by rw [W35.size]; exact Z33
  have K35 := K33.wr W35 (Or.inr SZ_b1)
  refine g_dup X35 hx 119 (hb hby at_118) rfl rfl ?_
  refine g_bipush X35 hx 121 (17 : Int32) (hb hby at_119) (by decide) rfl ?_
  refine g_getS X35 hx 124 hZ hown (host := "") (Or.inl (own_w hw 38 rfl)) Via.refl e35 (own_sta_keep S_k17 K35) (hb hby at_121) rfl (fun T36 X36 e36 => ?_)
  refine g_aastore X36 hx 125 hZ e36 V_b1 O1 (Ins.self (E_k17.keep K35)) 17 (by decide) ⟨by decide, by decide⟩ (Nat.le_of_ble_eq_true rfl) (hb hby at_124) rfl (fun T37 h37 X37 e37 W37 V37 => ?_)
  have V_b1 : Arv Z h37 b1 kl1 (.object "com/example/guarded_twins/guardedtwins/model/Expression$Operator") (22 : Int32) [(.ref k0), (.ref k1), (.ref k2), (.ref k3), (.ref k4), (.ref k5), (.ref k6), (.ref k7), (.ref k8), (.ref k9), (.ref k10), (.ref k11), (.ref k12), (.ref k13), (.ref k14), (.ref k15), (.ref k16), (.ref k17), .null, .null, .null, .null] .null := V37
  have N37 := Fr.snoc X37 N35 G_b1
  have Z37 : n0 ≤ h37.size := by rw [W37.size]; exact Z35
  have K37 := K35.wr W37 (Or.inr SZ_b1)
  refine g_dup X37 hx 126 (hb hby at_125) rfl rfl ?_
  refine g_bipush X37 hx 128 (18 : Int32) (hb hby at_126) (by decide) rfl ?_
  refine g_getS X37 hx 131 hZ hown (host := "") (Or.inl (own_w hw 40 rfl)) Via.refl e37 (own_sta_keep S_k18 K37) (hb hby at_128) rfl (fun T38 X38 e38 => ?_)
  refine g_aastore X38 hx 132 hZ e38 V_b1 O1 (Ins.self (E_k18.keep K37)) 18 (by decide) ⟨by decide, by decide⟩ (Nat.le_of_ble_eq_true rfl) (hb hby at_131) rfl (fun T39 h39 X39 e39 W39 V39 => ?_)
  have V_b1 : Arv Z h39 b1 kl1 (.object "com/example/guarded_twins/guardedtwins/model/Expression$Operator") (22 : Int32) [(.ref k0), (.ref k1), (.ref k2), (.ref k3), (.ref k4), (.ref k5), (.ref k6), (.ref k7), (.ref k8), (.ref k9), (.ref k10), (.ref k11), (.ref k12), (.ref k13), (.ref k14), (.ref k15), (.ref k16), (.ref k17), (.ref k18), .null, .null, .null] .null := V39
  have N39 := Fr.snoc X39 N37 G_b1
  have Z39 : n0 ≤ h39.size := by rw [W39.size]; exact Z37
  have K39 := K37.wr W39 (Or.inr SZ_b1)
  refine g_dup X39 hx 133 (hb hby at_132) rfl rfl ?_
  refine g_bipush X39 hx 135 (19 : Int32) (hb hby at_133) (by decide) rfl ?_
  refine g_getS X39 hx 138 hZ hown (host := "") (Or.inl (own_w hw 42 rfl)) Via.refl e39 (own_sta_keep S_k19 K39) (hb hby at_135) rfl (fun T40 X40 e40 => ?_)
  refine g_aastore X40 hx 139 hZ e40 V_b1 O1 (Ins.self (E_k19.keep K39)) 19 (by decide) ⟨by decide, by decide⟩ (Nat.le_of_ble_eq_true rfl) (hb hby at_138) rfl (fun T41 h41 X41 e41 W41 V41 => ?_)
  have V_b1 : Arv Z h41 b1 kl1 (.object "com/example/guarded_twins/guardedtwins/model/Expression$Operator") (22 : Int32) [(.ref k0), (.ref k1), (.ref k2), (.ref k3), (.ref k4), (.ref k5), (.ref k6), (.ref k7), (.ref k8), (.ref k9), (.ref k10), (.ref k11), (.ref k12), (.ref k13), (.ref k14), (.ref k15), (.ref k16), (.ref k17), (.ref k18), (.ref k19), .null, .null] .null := V41
  have N41 := Fr.snoc X41 N39 G_b1
  have Z41 : n0 ≤ h41.size := by rw [W41.size]; exact Z39
  have K41 := K39.wr W41 (Or.inr SZ_b1)
  refine g_dup X41 hx 140 (hb hby at_139) rfl rfl ?_
  refine g_bipush X41 hx 142 (20 : Int32) (hb hby at_140) (by decide) rfl ?_
  refine g_getS X41 hx 145 hZ hown (host := "") (Or.inl (own_w hw 44 rfl)) Via.refl e41 (own_sta_keep S_k20 K41) (hb hby at_142) rfl (fun T42 X42 e42 => ?_)
  refine g_aastore X42 hx 146 hZ e42 V_b1 O1 (Ins.self (E_k20.keep K41)) 20 (by decide) ⟨by decide, by decide⟩ (Nat.le_of_ble_eq_true rfl) (hb hby at_145) rfl (fun T43 h43 X43 e43 W43 V43 => ?_)
  have V_b1 : Arv Z h43 b1 kl1 (.object "com/example/guarded_twins/guardedtwins/model/Expression$Operator") (22 : Int32) [(.ref k0), (.ref k1), (.ref k2), (.ref k3), (.ref k4), (.ref k5), (.ref k6), (.ref k7), (.ref k8), (.ref k9), (.ref k10), (.ref k11), (.ref k12), (.ref k13), (.ref k14), (.ref k15), (.ref k16), (.ref k17), (.ref k18), (.ref k19), (.ref k20), .null] .null := V43
  have N43 := Fr.snoc X43 N41 G_b1
  have Z43 : n0 ≤ h43.size := by rw [W43.size]; exact Z41
  have K43 := K41.wr W43 (Or.inr SZ_b1)
  refine g_dup X43 hx 147 (hb hby at_146) rfl rfl ?_
  refine g_bipush X43 hx 149 (21 : Int32) (hb hby at_147) (by decide) rfl ?_
  refine g_getS X43 hx 152 hZ hown (host := "") (Or.inl (own_w hw 46 rfl)) Via.refl e43 (own_sta_keep S_k21 K43) (hb hby at_149) rfl (fun T44 X44 e44 => ?_)
  refine g_aastore X44 hx 153 hZ e44 V_b1 O1 (Ins.self (E_k21.keep K43)) 21 (by decide) ⟨by decide, by decide⟩ (Nat.le_of_ble_eq_true rfl) (hb hby at_152) rfl (fun T45 h45 X45 e45 W45 V45 => ?_)
  have V_b1 : Arv Z h45 b1 kl1 (.object "com/example/guarded_twins/guardedtwins/model/Expression$Operator") (22 : Int32) [(.ref k0), (.ref k1), (.ref k2), (.ref k3), (.ref k4), (.ref k5), (.ref k6), (.ref k7), (.ref k8), (.ref k9), (.ref k10), (.ref k11), (.ref k12), (.ref k13), (.ref k14), (.ref k15), (.ref k16), (.ref k17), (.ref k18), (.ref k19), (.ref k20), (.ref k21)] .null := V45
  have N45 := Fr.snoc X45 N43 G_b1
  have Z45 : n0 ≤ h45.size := by rw [W45.size]; exact Z43
  have K45 := K43.wr W45 (Or.inr SZ_b1)
  refine g_astoreN X45 hx 154 #[.val (.int x), .val (.ref b1), .unset, .unset, .unset, .unset] (hb hby at_153) rfl rfl rfl ?_
  refine g_iloadN X45 hx 155 (hb hby at_154) rfl rfl ?_
  refine g_ldcI X45 hx 157 hZ hown (own_w hw 48 rfl) (hb hby at_155) rfl ?_
  refine g_iand X45 hx 158 (x &&& (2147483647 : Int32)) (hb hby at_157) rfl rfl ?_
  refine g_bipush X45 hx 160 (22 : Int32) (hb hby at_158) (by decide) rfl ?_
  refine g_irem X45 hx 161 ((x &&& (2147483647 : Int32)) % (22 : Int32)) (hb hby at_160) (by decide) rfl rfl ?_
  have hb22 := own_modb _ 22 (own_nn x) (by decide)
  generalize ((x &&& (2147483647 : Int32)) % (22 : Int32)) = i at hb22 ⊢
  rcases (own_22 i hb22.1 hb22.2) with rfl | rfl | rfl | rfl | rfl | rfl | rfl | rfl | rfl | rfl | rfl | rfl | rfl | rfl | rfl | rfl | rfl | rfl | rfl | rfl | rfl | rfl
  · refine g_istoreN X45 hx 162 #[.val (.int x), .val (.ref b1), .val (.int (0 : Int32)), .unset, .unset, .unset] (hb hby at_161) rfl rfl ?_
    refine g_aloadN X45 hx 163 (hb hby at_162) rfl rfl rfl ?_
    refine g_iloadN X45 hx 164 (hb hby at_163) rfl rfl ?_
    refine g_aaload X45 hx 165 hZ e45 V_b1 ⟨by decide, by decide⟩ (show _ = (.ref k0) from rfl) (hb hby at_164) rfl ?_
    refine g_astoreN X45 hx 166 #[.val (.int x), .val (.ref b1), .val (.int (0 : Int32)), .val (.ref k0), .unset, .unset] (hb hby at_165) rfl rfl rfl ?_
    refine g_iloadN X45 hx 167 (hb hby at_166) rfl rfl ?_
    refine g_iconst X45 hx 168 (2 : Int32) (hb hby at_167) (by decide) rfl ?_
    refine g_icF X45 hx 171 (hb hby at_168) (by decide) rfl ?_
    refine g_iloadN X45 hx 172 (hb hby at_171) rfl rfl ?_
    refine g_iconst X45 hx 173 (3 : Int32) (hb hby at_172) (by decide) rfl ?_
    refine g_icT X45 hx 180 (hb hby at_173) (by decide) (by decide) (by decide) ?_
    refine g_iconst X45 hx 181 (0 : Int32) (hb hby at_180) (by decide) rfl ?_
    refine g_istore X45 hx 183 #[.val (.int x), .val (.ref b1), .val (.int (0 : Int32)), .val (.ref k0), .val (.int (0 : Int32)), .unset] (hb hby at_181) rfl rfl ?_
    refine g_aloadN X45 hx 184 (hb hby at_183) rfl rfl rfl ?_
    refine g_callV X45 hx 187 hZ hown (own_w hw 49 rfl) (own_w hw 50 rfl) (own_w hw 52 rfl) (own_w hw 51 rfl) (own_w hw 3 rfl) (own_w hw 53 rfl) (by decide) k0 (E_k0.keep K45) [] [] (rm1 l Z a0 hw k0 k2 k3 (0 : Int32) h45 n0 Z45 (own_sta_keep S_k2 K45) (own_sta_keep S_k3 K45) (by simp [own_un, Fld.ne F_k0 F_k2 (by decide), Fld.ne F_k0 F_k3 (by decide)])) e45 0 (by decide) (by decide) (by decide) (by decide) (by rw [hml]; rfl) (lenOf own_pd1 rfl) (hb hby at_184) rfl (Nat.le_of_eq rfl) rfl (fun v46 T46 L46 X46 hQ46 => ?_)
    obtain ⟨rfl, N46q, e46⟩ := hQ46
    have N46 := Fr.app N45 N46q
    show Go p e below _ _ T46 (mkF m 187 #[.val (.int x), .val (.ref b1), .val (.int (0 : Int32)), .val (.ref k0), .val (.int (0 : Int32)), .unset] [(.int (0 : Int32))])
    refine g_istore X46 hx 189 #[.val (.int x), .val (.ref b1), .val (.int (0 : Int32)), .val (.ref k0), .val (.int (0 : Int32)), .val (.int (0 : Int32))] (hb hby at_187) rfl rfl ?_
    refine g_iload X46 hx 191 (hb hby at_189) rfl rfl ?_
    refine g_iload X46 hx 193 (hb hby at_191) rfl rfl ?_
    refine g_icF X46 hx 196 (hb hby at_193) (by decide) rfl ?_
    refine g_iload X46 hx 198 (hb hby at_196) rfl rfl ?_
    refine g_ifT X46 hx 208 (hb hby at_198) (by decide) (by decide) (by decide) ?_
    refine g_iconst X46 hx 209 (1 : Int32) (hb hby at_208) (by decide) rfl ?_
    refine g_goto X46 hx 213 (hb hby at_209) (by decide) (by decide) ?_
    exact g_retZ X46 hx hret hlk rfl (hb hby at_213) (by decide) (by decide) ⟨rfl, N46⟩
  · refine g_istoreN X45 hx 162 #[.val (.int x), .val (.ref b1), .val (.int (1 : Int32)), .unset, .unset, .unset] (hb hby at_161) rfl rfl ?_
    refine g_aloadN X45 hx 163 (hb hby at_162) rfl rfl rfl ?_
    refine g_iloadN X45 hx 164 (hb hby at_163) rfl rfl ?_
    refine g_aaload X45 hx 165 hZ e45 V_b1 ⟨by decide, by decide⟩ (show _ = (.ref k1) from rfl) (hb hby at_164) rfl ?_
    refine g_astoreN X45 hx 166 #[.val (.int x), .val (.ref b1), .val (.int (1 : Int32)), .val (.ref k1), .unset, .unset] (hb hby at_165) rfl rfl rfl ?_
    refine g_iloadN X45 hx 167 (hb hby at_166) rfl rfl ?_
    refine g_iconst X45 hx 168 (2 : Int32) (hb hby at_167) (by decide) rfl ?_
    refine g_icF X45 hx 171 (hb hby at_168) (by decide) rfl ?_
    refine g_iloadN X45 hx 172 (hb hby at_171) rfl rfl ?_
    refine g_iconst X45 hx 173 (3 : Int32) (hb hby at_172) (by decide) rfl ?_
    refine g_icT X45 hx 180 (hb hby at_173) (by decide) (by decide) (by decide) ?_
    refine g_iconst X45 hx 181 (0 : Int32) (hb hby at_180) (by decide) rfl ?_
    refine g_istore X45 hx 183 #[.val (.int x), .val (.ref b1), .val (.int (1 : Int32)), .val (.ref k1), .val (.int (0 : Int32)), .unset] (hb hby at_181) rfl rfl ?_
    refine g_aloadN X45 hx 184 (hb hby at_183) rfl rfl rfl ?_
    refine g_callV X45 hx 187 hZ hown (own_w hw 49 rfl) (own_w hw 50 rfl) (own_w hw 52 rfl) (own_w hw 51 rfl) (own_w hw 3 rfl) (own_w hw 53 rfl) (by decide) k1 (E_k1.keep K45) [] [] (rm1 l Z a0 hw k1 k2 k3 (0 : Int32) h45 n0 Z45 (own_sta_keep S_k2 K45) (own_sta_keep S_k3 K45) (by simp [own_un, Fld.ne F_k1 F_k2 (by decide), Fld.ne F_k1 F_k3 (by decide)])) e45 0 (by decide) (by decide) (by decide) (by decide) (by rw [hml]; rfl) (lenOf own_pd1 rfl) (hb hby at_184) rfl (Nat.le_of_eq rfl) rfl (fun v47 T47 L47 X47 hQ47 => ?_)
    obtain ⟨rfl, N47q, e47⟩ := hQ47
    have N47 := Fr.app N45 N47q
    show Go p e below _ _ T47 (mkF m 187 #[.val (.int x), .val (.ref b1), .val (.int (1 : Int32)), .val (.ref k1), .val (.int (0 : Int32)), .unset] [(.int (0 : Int32))])
    refine g_istore X47 hx 189 #[.val (.int x), .val (.ref b1), .val (.int (1 : Int32)), .val (.ref k1), .val (.int (0 : Int32)), .val (.int (0 : Int32))] (hb hby at_187) rfl rfl ?_
    refine g_iload X47 hx 191 (hb hby at_189) rfl rfl ?_
    refine g_iload X47 hx 193 (hb hby at_191) rfl rfl ?_
    refine g_icF X47 hx 196 (hb hby at_193) (by decide) rfl ?_
    refine g_iload X47 hx 198 (hb hby at_196) rfl rfl ?_
    refine g_ifT X47 hx 208 (hb hby at_198) (by decide) (by decide) (by decide) ?_
    refine g_iconst X47 hx 209 (1 : Int32) (hb hby at_208) (by decide) rfl ?_
    refine g_goto X47 hx 213 (hb hby at_209) (by decide) (by decide) ?_
    exact g_retZ X47 hx hret hlk rfl (hb hby at_213) (by decide) (by decide) ⟨rfl, N47⟩
  · refine g_istoreN X45 hx 162 #[.val (.int x), .val (.ref b1), .val (.int (2 : Int32)), .unset, .unset, .unset] (hb hby at_161) rfl rfl ?_
    refine g_aloadN X45 hx 163 (hb hby at_162) rfl rfl rfl ?_
    refine g_iloadN X45 hx 164 (hb hby at_163) rfl rfl ?_
    refine g_aaload X45 hx 165 hZ e45 V_b1 ⟨by decide, by decide⟩ (show _ = (.ref k2) from rfl) (hb hby at_164) rfl ?_
    refine g_astoreN X45 hx 166 #[.val (.int x), .val (.ref b1), .val (.int (2 : Int32)), .val (.ref k2), .unset, .unset] (hb hby at_165) rfl rfl rfl ?_
    refine g_iloadN X45 hx 167 (hb hby at_166) rfl rfl ?_
    refine g_iconst X45 hx 168 (2 : Int32) (hb hby at_167) (by decide) rfl ?_
    refine g_icT X45 hx 176 (hb hby at_168) (by decide) (by decide) (by decide) ?_
    refine g_iconst X45 hx 177 (1 : Int32) (hb hby at_176) (by decide) rfl ?_
    refine g_goto X45 hx 181 (hb hby at_177) (by decide) (by decide) ?_
    refine g_istore X45 hx 183 #[.val (.int x), .val (.ref b1), .val (.int (2 : Int32)), .val (.ref k2), .val (.int (1 : Int32)), .unset] (hb hby at_181) rfl rfl ?_
    refine g_aloadN X45 hx 184 (hb hby at_183) rfl rfl rfl ?_
    refine g_callV X45 hx 187 hZ hown (own_w hw 49 rfl) (own_w hw 50 rfl) (own_w hw 52 rfl) (own_w hw 51 rfl) (own_w hw 3 rfl) (own_w hw 53 rfl) (by decide) k2 (E_k2.keep K45) [] [] (rm1 l Z a0 hw k2 k2 k3 (1 : Int32) h45 n0 Z45 (own_sta_keep S_k2 K45) (own_sta_keep S_k3 K45) (by simp [own_un])) e45 0 (by decide) (by decide) (by decide) (by decide) (by rw [hml]; rfl) (lenOf own_pd1 rfl) (hb hby at_184) rfl (Nat.le_of_eq rfl) rfl (fun v48 T48 L48 X48 hQ48 => ?_)
    obtain ⟨rfl, N48q, e48⟩ := hQ48
    have N48 := Fr.app N45 N48q
    show Go p e below _ _ T48 (mkF m 187 #[.val (.int x), .val (.ref b1), .val (.int (2 : Int32)), .val (.ref k2), .val (.int (1 : Int32)), .unset] [(.int (1 : Int32))])
    refine g_istore X48 hx 189 #[.val (.int x), .val (.ref b1), .val (.int (2 : Int32)), .val (.ref k2), .val (.int (1 : Int32)), .val (.int (1 : Int32))] (hb hby at_187) rfl rfl ?_
    refine g_iload X48 hx 191 (hb hby at_189) rfl rfl ?_
    refine g_iload X48 hx 193 (hb hby at_191) rfl rfl ?_
    refine g_icF X48 hx 196 (hb hby at_193) (by decide) rfl ?_
    refine g_iload X48 hx 198 (hb hby at_196) rfl rfl ?_
    refine g_ifF X48 hx 201 (hb hby at_198) (by decide) rfl ?_
    refine g_aloadN X48 hx 202 (hb hby at_201) rfl rfl rfl ?_
    refine g_callV X48 hx 205 hZ hown (own_w hw 56 rfl) (own_w hw 57 rfl) (own_w hw 59 rfl) (own_w hw 58 rfl) (own_w hw 3 rfl) (own_w hw 60 rfl) (by decide) k2 (E_k2.keep K45) [] [] (rm2 l Z a0 hw k2 k4 (2 : Int32) h45 n0 Z45 (own_sta_keep S_k4 K45) (E_k2.keep K45) (E_k4.keep K45) (F_k2.keep K45 nin0) (F_k4.keep K45 nin0) (by decide)) e48 0 (by decide) (by decide) (by decide) (by decide) (by rw [hml]; rfl) (lenOf own_pd1 rfl) (hb hby at_202) rfl (Nat.le_of_eq rfl) rfl (fun v49 T49 L49 X49 hQ49 => ?_)
    obtain ⟨rfl, N49q, e49⟩ := hQ49
    have N49 := Fr.app N48 N49q
    show Go p e below _ _ T49 (mkF m 205 #[.val (.int x), .val (.ref b1), .val (.int (2 : Int32)), .val (.ref k2), .val (.int (1 : Int32)), .val (.int (1 : Int32))] [(.int (0 : Int32))])
    refine g_ifF X49 hx 208 (hb hby at_205) (by decide) rfl ?_
    refine g_iconst X49 hx 209 (1 : Int32) (hb hby at_208) (by decide) rfl ?_
    refine g_goto X49 hx 213 (hb hby at_209) (by decide) (by decide) ?_
    exact g_retZ X49 hx hret hlk rfl (hb hby at_213) (by decide) (by decide) ⟨rfl, N49⟩
  · refine g_istoreN X45 hx 162 #[.val (.int x), .val (.ref b1), .val (.int (3 : Int32)), .unset, .unset, .unset] (hb hby at_161) rfl rfl ?_
    refine g_aloadN X45 hx 163 (hb hby at_162) rfl rfl rfl ?_
    refine g_iloadN X45 hx 164 (hb hby at_163) rfl rfl ?_
    refine g_aaload X45 hx 165 hZ e45 V_b1 ⟨by decide, by decide⟩ (show _ = (.ref k3) from rfl) (hb hby at_164) rfl ?_
    refine g_astoreN X45 hx 166 #[.val (.int x), .val (.ref b1), .val (.int (3 : Int32)), .val (.ref k3), .unset, .unset] (hb hby at_165) rfl rfl rfl ?_
    refine g_iloadN X45 hx 167 (hb hby at_166) rfl rfl ?_
    refine g_iconst X45 hx 168 (2 : Int32) (hb hby at_167) (by decide) rfl ?_
    refine g_icF X45 hx 171 (hb hby at_168) (by decide) rfl ?_
    refine g_iloadN X45 hx 172 (hb hby at_171) rfl rfl ?_
    refine g_iconst X45 hx 173 (3 : Int32) (hb hby at_172) (by decide) rfl ?_
    refine g_icF X45 hx 176 (hb hby at_173) (by decide) rfl ?_
    refine g_iconst X45 hx 177 (1 : Int32) (hb hby at_176) (by decide) rfl ?_
    refine g_goto X45 hx 181 (hb hby at_177) (by decide) (by decide) ?_
    refine g_istore X45 hx 183 #[.val (.int x), .val (.ref b1), .val (.int (3 : Int32)), .val (.ref k3), .val (.int (1 : Int32)), .unset] (hb hby at_181) rfl rfl ?_
    refine g_aloadN X45 hx 184 (hb hby at_183) rfl rfl rfl ?_
    refine g_callV X45 hx 187 hZ hown (own_w hw 49 rfl) (own_w hw 50 rfl) (own_w hw 52 rfl) (own_w hw 51 rfl) (own_w hw 3 rfl) (own_w hw 53 rfl) (by decide) k3 (E_k3.keep K45) [] [] (rm1 l Z a0 hw k3 k2 k3 (1 : Int32) h45 n0 Z45 (own_sta_keep S_k2 K45) (own_sta_keep S_k3 K45) (by simp [own_un])) e45 0 (by decide) (by decide) (by decide) (by decide) (by rw [hml]; rfl) (lenOf own_pd1 rfl) (hb hby at_184) rfl (Nat.le_of_eq rfl) rfl (fun v50 T50 L50 X50 hQ50 => ?_)
    obtain ⟨rfl, N50q, e50⟩ := hQ50
    have N50 := Fr.app N45 N50q
    show Go p e below _ _ T50 (mkF m 187 #[.val (.int x), .val (.ref b1), .val (.int (3 : Int32)), .val (.ref k3), .val (.int (1 : Int32)), .unset] [(.int (1 : Int32))])
    refine g_istore X50 hx 189 #[.val (.int x), .val (.ref b1), .val (.int (3 : Int32)), .val (.ref k3), .val (.int (1 : Int32)), .val (.int (1 : Int32))] (hb hby at_187) rfl rfl ?_
    refine g_iload X50 hx 191 (hb hby at_189) rfl rfl ?_
    refine g_iload X50 hx 193 (hb hby at_191) rfl rfl ?_
    refine g_icF X50 hx 196 (hb hby at_193) (by decide) rfl ?_
    refine g_iload X50 hx 198 (hb hby at_196) rfl rfl ?_
    refine g_ifF X50 hx 201 (hb hby at_198) (by decide) rfl ?_
    refine g_aloadN X50 hx 202 (hb hby at_201) rfl rfl rfl ?_
    refine g_callV X50 hx 205 hZ hown (own_w hw 56 rfl) (own_w hw 57 rfl) (own_w hw 59 rfl) (own_w hw 58 rfl) (own_w hw 3 rfl) (own_w hw 60 rfl) (by decide) k3 (E_k3.keep K45) [] [] (rm2 l Z a0 hw k3 k4 (3 : Int32) h45 n0 Z45 (own_sta_keep S_k4 K45) (E_k3.keep K45) (E_k4.keep K45) (F_k3.keep K45 nin0) (F_k4.keep K45 nin0) (by decide)) e50 0 (by decide) (by decide) (by decide) (by decide) (by rw [hml]; rfl) (lenOf own_pd1 rfl) (hb hby at_202) rfl (Nat.le_of_eq rfl) rfl (fun v51 T51 L51 X51 hQ51 => ?_)
    obtain ⟨rfl, N51q, e51⟩ := hQ51
    have N51 := Fr.app N50 N51q
    show Go p e below _ _ T51 (mkF m 205 #[.val (.int x), .val (.ref b1), .val (.int (3 : Int32)), .val (.ref k3), .val (.int (1 : Int32)), .val (.int (1 : Int32))] [(.int (0 : Int32))])
    refine g_ifF X51 hx 208 (hb hby at_205) (by decide) rfl ?_
    refine g_iconst X51 hx 209 (1 : Int32) (hb hby at_208) (by decide) rfl ?_
    refine g_goto X51 hx 213 (hb hby at_209) (by decide) (by decide) ?_
    exact g_retZ X51 hx hret hlk rfl (hb hby at_213) (by decide) (by decide) ⟨rfl, N51⟩
  · refine g_istoreN X45 hx 162 #[.val (.int x), .val (.ref b1), .val (.int (4 : Int32)), .unset, .unset, .unset] (hb hby at_161) rfl rfl ?_
    refine g_aloadN X45 hx 163 (hb hby at_162) rfl rfl rfl ?_
    refine g_iloadN X45 hx 164 (hb hby at_163) rfl rfl ?_
    refine g_aaload X45 hx 165 hZ e45 V_b1 ⟨by decide, by decide⟩ (show _ = (.ref k4) from rfl) (hb hby at_164) rfl ?_
    refine g_astoreN X45 hx 166 #[.val (.int x), .val (.ref b1), .val (.int (4 : Int32)), .val (.ref k4), .unset, .unset] (hb hby at_165) rfl rfl rfl ?_
    refine g_iloadN X45 hx 167 (hb hby at_166) rfl rfl ?_
    refine g_iconst X45 hx 168 (2 : Int32) (hb hby at_167) (by decide) rfl ?_
    refine g_icF X45 hx 171 (hb hby at_168) (by decide) rfl ?_
    refine g_iloadN X45 hx 172 (hb hby at_171) rfl rfl ?_
    refine g_iconst X45 hx 173 (3 : Int32) (hb hby at_172) (by decide) rfl ?_
    refine g_icT X45 hx 180 (hb hby at_173) (by decide) (by decide) (by decide) ?_
    refine g_iconst X45 hx 181 (0 : Int32) (hb hby at_180) (by decide) rfl ?_
    refine g_istore X45 hx 183 #[.val (.int x), .val (.ref b1), .val (.int (4 : Int32)), .val (.ref k4), .val (.int (0 : Int32)), .unset] (hb hby at_181) rfl rfl ?_
    refine g_aloadN X45 hx 184 (hb hby at_183) rfl rfl rfl ?_
    refine g_callV X45 hx 187 hZ hown (own_w hw 49 rfl) (own_w hw 50 rfl) (own_w hw 52 rfl) (own_w hw 51 rfl) (own_w hw 3 rfl) (own_w hw 53 rfl) (by decide) k4 (E_k4.keep K45) [] [] (rm1 l Z a0 hw k4 k2 k3 (0 : Int32) h45 n0 Z45 (own_sta_keep S_k2 K45) (own_sta_keep S_k3 K45) (by simp [own_un, Fld.ne F_k4 F_k2 (by decide), Fld.ne F_k4 F_k3 (by decide)])) e45 0 (by decide) (by decide) (by decide) (by decide) (by rw [hml]; rfl) (lenOf own_pd1 rfl) (hb hby at_184) rfl (Nat.le_of_eq rfl) rfl (fun v52 T52 L52 X52 hQ52 => ?_)
    obtain ⟨rfl, N52q, e52⟩ := hQ52
    have N52 := Fr.app N45 N52q
    show Go p e below _ _ T52 (mkF m 187 #[.val (.int x), .val (.ref b1), .val (.int (4 : Int32)), .val (.ref k4), .val (.int (0 : Int32)), .unset] [(.int (0 : Int32))])
    refine g_istore X52 hx 189 #[.val (.int x), .val (.ref b1), .val (.int (4 : Int32)), .val (.ref k4), .val (.int (0 : Int32)), .val (.int (0 : Int32))] (hb hby at_187) rfl rfl ?_
    refine g_iload X52 hx 191 (hb hby at_189) rfl rfl ?_
    refine g_iload X52 hx 193 (hb hby at_191) rfl rfl ?_
    refine g_icF X52 hx 196 (hb hby at_193) (by decide) rfl ?_
    refine g_iload X52 hx 198 (hb hby at_196) rfl rfl ?_
    refine g_ifT X52 hx 208 (hb hby at_198) (by decide) (by decide) (by decide) ?_
    refine g_iconst X52 hx 209 (1 : Int32) (hb hby at_208) (by decide) rfl ?_
    refine g_goto X52 hx 213 (hb hby at_209) (by decide) (by decide) ?_
    exact g_retZ X52 hx hret hlk rfl (hb hby at_213) (by decide) (by decide) ⟨rfl, N52⟩
  · refine g_istoreN X45 hx 162 #[.val (.int x), .val (.ref b1), .val (.int (5 : Int32)), .unset, .unset, .unset] (hb hby at_161) rfl rfl ?_
    refine g_aloadN X45 hx 163 (hb hby at_162) rfl rfl rfl ?_
    refine g_iloadN X45 hx 164 (hb hby at_163) rfl rfl ?_
    refine g_aaload X45 hx 165 hZ e45 V_b1 ⟨by decide, by decide⟩ (show _ = (.ref k5) from rfl) (hb hby at_164) rfl ?_
    refine g_astoreN X45 hx 166 #[.val (.int x), .val (.ref b1), .val (.int (5 : Int32)), .val (.ref k5), .unset, .unset] (hb hby at_165) rfl rfl rfl ?_
    refine g_iloadN X45 hx 167 (hb hby at_166) rfl rfl ?_
    refine g_iconst X45 hx 168 (2 : Int32) (hb hby at_167) (by decide) rfl ?_
    refine g_icF X45 hx 171 (hb hby at_168) (by decide) rfl ?_
    refine g_iloadN X45 hx 172 (hb hby at_171) rfl rfl ?_
    refine g_iconst X45 hx 173 (3 : Int32) (hb hby at_172) (by decide) rfl ?_
    refine g_icT X45 hx 180 (hb hby at_173) (by decide) (by decide) (by decide) ?_
    refine g_iconst X45 hx 181 (0 : Int32) (hb hby at_180) (by decide) rfl ?_
    refine g_istore X45 hx 183 #[.val (.int x), .val (.ref b1), .val (.int (5 : Int32)), .val (.ref k5), .val (.int (0 : Int32)), .unset] (hb hby at_181) rfl rfl ?_
    refine g_aloadN X45 hx 184 (hb hby at_183) rfl rfl rfl ?_
    refine g_callV X45 hx 187 hZ hown (own_w hw 49 rfl) (own_w hw 50 rfl) (own_w hw 52 rfl) (own_w hw 51 rfl) (own_w hw 3 rfl) (own_w hw 53 rfl) (by decide) k5 (E_k5.keep K45) [] [] (rm1 l Z a0 hw k5 k2 k3 (0 : Int32) h45 n0 Z45 (own_sta_keep S_k2 K45) (own_sta_keep S_k3 K45) (by simp [own_un, Fld.ne F_k5 F_k2 (by decide), Fld.ne F_k5 F_k3 (by decide)])) e45 0 (by decide) (by decide) (by decide) (by decide) (by rw [hml]; rfl) (lenOf own_pd1 rfl) (hb hby at_184) rfl (Nat.le_of_eq rfl) rfl (fun v53 T53 L53 X53 hQ53 => ?_)
    obtain ⟨rfl, N53q, e53⟩ := hQ53
    have N53 := Fr.app N45 N53q
    show Go p e below _ _ T53 (mkF m 187 #[.val (.int x), .val (.ref b1), .val (.int (5 : Int32)), .val (.ref k5), .val (.int (0 : Int32)), .unset] [(.int (0 : Int32))])
    refine g_istore X53 hx 189 #[.val (.int x), .val (.ref b1), .val (.int (5 : Int32)), .val (.ref k5), .val (.int (0 : Int32)), .val (.int (0 : Int32))] (hb hby at_187) rfl rfl ?_
    refine g_iload X53 hx 191 (hb hby at_189) rfl rfl ?_
    refine g_iload X53 hx 193 (hb hby at_191) rfl rfl ?_
    refine g_icF X53 hx 196 (hb hby at_193) (by decide) rfl ?_
    refine g_iload X53 hx 198 (hb hby at_196) rfl rfl ?_
    refine g_ifT X53 hx 208 (hb hby at_198) (by decide) (by decide) (by decide) ?_
    refine g_iconst X53 hx 209 (1 : Int32) (hb hby at_208) (by decide) rfl ?_
    refine g_goto X53 hx 213 (hb hby at_209) (by decide) (by decide) ?_
    exact g_retZ X53 hx hret hlk rfl (hb hby at_213) (by decide) (by decide) ⟨rfl, N53⟩
  · refine g_istoreN X45 hx 162 #[.val (.int x), .val (.ref b1), .val (.int (6 : Int32)), .unset, .unset, .unset] (hb hby at_161) rfl rfl ?_
    refine g_aloadN X45 hx 163 (hb hby at_162) rfl rfl rfl ?_
    refine g_iloadN X45 hx 164 (hb hby at_163) rfl rfl ?_
    refine g_aaload X45 hx 165 hZ e45 V_b1 ⟨by decide, by decide⟩ (show _ = (.ref k6) from rfl) (hb hby at_164) rfl ?_
    refine g_astoreN X45 hx 166 #[.val (.int x), .val (.ref b1), .val (.int (6 : Int32)), .val (.ref k6), .unset, .unset] (hb hby at_165) rfl rfl rfl ?_
    refine g_iloadN X45 hx 167 (hb hby at_166) rfl rfl ?_
    refine g_iconst X45 hx 168 (2 : Int32) (hb hby at_167) (by decide) rfl ?_
    refine g_icF X45 hx 171 (hb hby at_168) (by decide) rfl ?_
    refine g_iloadN X45 hx 172 (hb hby at_171) rfl rfl ?_
    refine g_iconst X45 hx 173 (3 : Int32) (hb hby at_172) (by decide) rfl ?_
    refine g_icT X45 hx 180 (hb hby at_173) (by decide) (by decide) (by decide) ?_
    refine g_iconst X45 hx 181 (0 : Int32) (hb hby at_180) (by decide) rfl ?_
    refine g_istore X45 hx 183 #[.val (.int x), .val (.ref b1), .val (.int (6 : Int32)), .val (.ref k6), .val (.int (0 : Int32)), .unset] (hb hby at_181) rfl rfl ?_
    refine g_aloadN X45 hx 184 (hb hby at_183) rfl rfl rfl ?_
    refine g_callV X45 hx 187 hZ hown (own_w hw 49 rfl) (own_w hw 50 rfl) (own_w hw 52 rfl) (own_w hw 51 rfl) (own_w hw 3 rfl) (own_w hw 53 rfl) (by decide) k6 (E_k6.keep K45) [] [] (rm1 l Z a0 hw k6 k2 k3 (0 : Int32) h45 n0 Z45 (own_sta_keep S_k2 K45) (own_sta_keep S_k3 K45) (by simp [own_un, Fld.ne F_k6 F_k2 (by decide), Fld.ne F_k6 F_k3 (by decide)])) e45 0 (by decide) (by decide) (by decide) (by decide) (by rw [hml]; rfl) (lenOf own_pd1 rfl) (hb hby at_184) rfl (Nat.le_of_eq rfl) rfl (fun v54 T54 L54 X54 hQ54 => ?_)
    obtain ⟨rfl, N54q, e54⟩ := hQ54
    have N54 := Fr.app N45 N54q
    show Go p e below _ _ T54 (mkF m 187 #[.val (.int x), .val (.ref b1), .val (.int (6 : Int32)), .val (.ref k6), .val (.int (0 : Int32)), .unset] [(.int (0 : Int32))])
    refine g_istore X54 hx 189 #[.val (.int x), .val (.ref b1), .val (.int (6 : Int32)), .val (.ref k6), .val (.int (0 : Int32)), .val (.int (0 : Int32))] (hb hby at_187) rfl rfl ?_
    refine g_iload X54 hx 191 (hb hby at_189) rfl rfl ?_
    refine g_iload X54 hx 193 (hb hby at_191) rfl rfl ?_
    refine g_icF X54 hx 196 (hb hby at_193) (by decide) rfl ?_
    refine g_iload X54 hx 198 (hb hby at_196) rfl rfl ?_
    refine g_ifT X54 hx 208 (hb hby at_198) (by decide) (by decide) (by decide) ?_
    refine g_iconst X54 hx 209 (1 : Int32) (hb hby at_208) (by decide) rfl ?_
    refine g_goto X54 hx 213 (hb hby at_209) (by decide) (by decide) ?_
    exact g_retZ X54 hx hret hlk rfl (hb hby at_213) (by decide) (by decide) ⟨rfl, N54⟩
  · refine g_istoreN X45 hx 162 #[.val (.int x), .val (.ref b1), .val (.int (7 : Int32)), .unset, .unset, .unset] (hb hby at_161) rfl rfl ?_
    refine g_aloadN X45 hx 163 (hb hby at_162) rfl rfl rfl ?_
    refine g_iloadN X45 hx 164 (hb hby at_163) rfl rfl ?_
    refine g_aaload X45 hx 165 hZ e45 V_b1 ⟨by decide, by decide⟩ (show _ = (.ref k7) from rfl) (hb hby at_164) rfl ?_
    refine g_astoreN X45 hx 166 #[.val (.int x), .val (.ref b1), .val (.int (7 : Int32)), .val (.ref k7), .unset, .unset] (hb hby at_165) rfl rfl rfl ?_
    refine g_iloadN X45 hx 167 (hb hby at_166) rfl rfl ?_
    refine g_iconst X45 hx 168 (2 : Int32) (hb hby at_167) (by decide) rfl ?_
    refine g_icF X45 hx 171 (hb hby at_168) (by decide) rfl ?_
    refine g_iloadN X45 hx 172 (hb hby at_171) rfl rfl ?_
    refine g_iconst X45 hx 173 (3 : Int32) (hb hby at_172) (by decide) rfl ?_
    refine g_icT X45 hx 180 (hb hby at_173) (by decide) (by decide) (by decide) ?_
    refine g_iconst X45 hx 181 (0 : Int32) (hb hby at_180) (by decide) rfl ?_
    refine g_istore X45 hx 183 #[.val (.int x), .val (.ref b1), .val (.int (7 : Int32)), .val (.ref k7), .val (.int (0 : Int32)), .unset] (hb hby at_181) rfl rfl ?_
    refine g_aloadN X45 hx 184 (hb hby at_183) rfl rfl rfl ?_
    refine g_callV X45 hx 187 hZ hown (own_w hw 49 rfl) (own_w hw 50 rfl) (own_w hw 52 rfl) (own_w hw 51 rfl) (own_w hw 3 rfl) (own_w hw 53 rfl) (by decide) k7 (E_k7.keep K45) [] [] (rm1 l Z a0 hw k7 k2 k3 (0 : Int32) h45 n0 Z45 (own_sta_keep S_k2 K45) (own_sta_keep S_k3 K45) (by simp [own_un, Fld.ne F_k7 F_k2 (by decide), Fld.ne F_k7 F_k3 (by decide)])) e45 0 (by decide) (by decide) (by decide) (by decide) (by rw [hml]; rfl) (lenOf own_pd1 rfl) (hb hby at_184) rfl (Nat.le_of_eq rfl) rfl (fun v55 T55 L55 X55 hQ55 => ?_)
    obtain ⟨rfl, N55q, e55⟩ := hQ55
    have N55 := Fr.app N45 N55q
    show Go p e below _ _ T55 (mkF m 187 #[.val (.int x), .val (.ref b1), .val (.int (7 : Int32)), .val (.ref k7), .val (.int (0 : Int32)), .unset] [(.int (0 : Int32))])
    refine g_istore X55 hx 189 #[.val (.int x), .val (.ref b1), .val (.int (7 : Int32)), .val (.ref k7), .val (.int (0 : Int32)), .val (.int (0 : Int32))] (hb hby at_187) rfl rfl ?_
    refine g_iload X55 hx 191 (hb hby at_189) rfl rfl ?_
    refine g_iload X55 hx 193 (hb hby at_191) rfl rfl ?_
    refine g_icF X55 hx 196 (hb hby at_193) (by decide) rfl ?_
    refine g_iload X55 hx 198 (hb hby at_196) rfl rfl ?_
    refine g_ifT X55 hx 208 (hb hby at_198) (by decide) (by decide) (by decide) ?_
    refine g_iconst X55 hx 209 (1 : Int32) (hb hby at_208) (by decide) rfl ?_
    refine g_goto X55 hx 213 (hb hby at_209) (by decide) (by decide) ?_
    exact g_retZ X55 hx hret hlk rfl (hb hby at_213) (by decide) (by decide) ⟨rfl, N55⟩
  · refine g_istoreN X45 hx 162 #[.val (.int x), .val (.ref b1), .val (.int (8 : Int32)), .unset, .unset, .unset] (hb hby at_161) rfl rfl ?_
    refine g_aloadN X45 hx 163 (hb hby at_162) rfl rfl rfl ?_
    refine g_iloadN X45 hx 164 (hb hby at_163) rfl rfl ?_
    refine g_aaload X45 hx 165 hZ e45 V_b1 ⟨by decide, by decide⟩ (show _ = (.ref k8) from rfl) (hb hby at_164) rfl ?_
    refine g_astoreN X45 hx 166 #[.val (.int x), .val (.ref b1), .val (.int (8 : Int32)), .val (.ref k8), .unset, .unset] (hb hby at_165) rfl rfl rfl ?_
    refine g_iloadN X45 hx 167 (hb hby at_166) rfl rfl ?_
    refine g_iconst X45 hx 168 (2 : Int32) (hb hby at_167) (by decide) rfl ?_
    refine g_icF X45 hx 171 (hb hby at_168) (by decide) rfl ?_
    refine g_iloadN X45 hx 172 (hb hby at_171) rfl rfl ?_
    refine g_iconst X45 hx 173 (3 : Int32) (hb hby at_172) (by decide) rfl ?_
    refine g_icT X45 hx 180 (hb hby at_173) (by decide) (by decide) (by decide) ?_
    refine g_iconst X45 hx 181 (0 : Int32) (hb hby at_180) (by decide) rfl ?_
    refine g_istore X45 hx 183 #[.val (.int x), .val (.ref b1), .val (.int (8 : Int32)), .val (.ref k8), .val (.int (0 : Int32)), .unset] (hb hby at_181) rfl rfl ?_
    refine g_aloadN X45 hx 184 (hb hby at_183) rfl rfl rfl ?_
    refine g_callV X45 hx 187 hZ hown (own_w hw 49 rfl) (own_w hw 50 rfl) (own_w hw 52 rfl) (own_w hw 51 rfl) (own_w hw 3 rfl) (own_w hw 53 rfl) (by decide) k8 (E_k8.keep K45) [] [] (rm1 l Z a0 hw k8 k2 k3 (0 : Int32) h45 n0 Z45 (own_sta_keep S_k2 K45) (own_sta_keep S_k3 K45) (by simp [own_un, Fld.ne F_k8 F_k2 (by decide), Fld.ne F_k8 F_k3 (by decide)])) e45 0 (by decide) (by decide) (by decide) (by decide) (by rw [hml]; rfl) (lenOf own_pd1 rfl) (hb hby at_184) rfl (Nat.le_of_eq rfl) rfl (fun v56 T56 L56 X56 hQ56 => ?_)
    obtain ⟨rfl, N56q, e56⟩ := hQ56
    have N56 := Fr.app N45 N56q
    show Go p e below _ _ T56 (mkF m 187 #[.val (.int x), .val (.ref b1), .val (.int (8 : Int32)), .val (.ref k8), .val (.int (0 : Int32)), .unset] [(.int (0 : Int32))])
    refine g_istore X56 hx 189 #[.val (.int x), .val (.ref b1), .val (.int (8 : Int32)), .val (.ref k8), .val (.int (0 : Int32)), .val (.int (0 : Int32))] (hb hby at_187) rfl rfl ?_
    refine g_iload X56 hx 191 (hb hby at_189) rfl rfl ?_
    refine g_iload X56 hx 193 (hb hby at_191) rfl rfl ?_
    refine g_icF X56 hx 196 (hb hby at_193) (by decide) rfl ?_
    refine g_iload X56 hx 198 (hb hby at_196) rfl rfl ?_
    refine g_ifT X56 hx 208 (hb hby at_198) (by decide) (by decide) (by decide) ?_
    refine g_iconst X56 hx 209 (1 : Int32) (hb hby at_208) (by decide) rfl ?_
    refine g_goto X56 hx 213 (hb hby at_209) (by decide) (by decide) ?_
    exact g_retZ X56 hx hret hlk rfl (hb hby at_213) (by decide) (by decide) ⟨rfl, N56⟩
  · refine g_istoreN X45 hx 162 #[.val (.int x), .val (.ref b1), .val (.int (9 : Int32)), .unset, .unset, .unset] (hb hby at_161) rfl rfl ?_
    refine g_aloadN X45 hx 163 (hb hby at_162) rfl rfl rfl ?_
    refine g_iloadN X45 hx 164 (hb hby at_163) rfl rfl ?_
    refine g_aaload X45 hx 165 hZ e45 V_b1 ⟨by decide, by decide⟩ (show _ = (.ref k9) from rfl) (hb hby at_164) rfl ?_
    refine g_astoreN X45 hx 166 #[.val (.int x), .val (.ref b1), .val (.int (9 : Int32)), .val (.ref k9), .unset, .unset] (hb hby at_165) rfl rfl rfl ?_
    refine g_iloadN X45 hx 167 (hb hby at_166) rfl rfl ?_
    refine g_iconst X45 hx 168 (2 : Int32) (hb hby at_167) (by decide) rfl ?_
    refine g_icF X45 hx 171 (hb hby at_168) (by decide) rfl ?_
    refine g_iloadN X45 hx 172 (hb hby at_171) rfl rfl ?_
    refine g_iconst X45 hx 173 (3 : Int32) (hb hby at_172) (by decide) rfl ?_
    refine g_icT X45 hx 180 (hb hby at_173) (by decide) (by decide) (by decide) ?_
    refine g_iconst X45 hx 181 (0 : Int32) (hb hby at_180) (by decide) rfl ?_
    refine g_istore X45 hx 183 #[.val (.int x), .val (.ref b1), .val (.int (9 : Int32)), .val (.ref k9), .val (.int (0 : Int32)), .unset] (hb hby at_181) rfl rfl ?_
    refine g_aloadN X45 hx 184 (hb hby at_183) rfl rfl rfl ?_
    refine g_callV X45 hx 187 hZ hown (own_w hw 49 rfl) (own_w hw 50 rfl) (own_w hw 52 rfl) (own_w hw 51 rfl) (own_w hw 3 rfl) (own_w hw 53 rfl) (by decide) k9 (E_k9.keep K45) [] [] (rm1 l Z a0 hw k9 k2 k3 (0 : Int32) h45 n0 Z45 (own_sta_keep S_k2 K45) (own_sta_keep S_k3 K45) (by simp [own_un, Fld.ne F_k9 F_k2 (by decide), Fld.ne F_k9 F_k3 (by decide)])) e45 0 (by decide) (by decide) (by decide) (by decide) (by rw [hml]; rfl) (lenOf own_pd1 rfl) (hb hby at_184) rfl (Nat.le_of_eq rfl) rfl (fun v57 T57 L57 X57 hQ57 => ?_)
    obtain ⟨rfl, N57q, e57⟩ := hQ57
    have N57 := Fr.app N45 N57q
    show Go p e below _ _ T57 (mkF m 187 #[.val (.int x), .val (.ref b1), .val (.int (9 : Int32)), .val (.ref k9), .val (.int (0 : Int32)), .unset] [(.int (0 : Int32))])
    refine g_istore X57 hx 189 #[.val (.int x), .val (.ref b1), .val (.int (9 : Int32)), .val (.ref k9), .val (.int (0 : Int32)), .val (.int (0 : Int32))] (hb hby at_187) rfl rfl ?_
    refine g_iload X57 hx 191 (hb hby at_189) rfl rfl ?_
    refine g_iload X57 hx 193 (hb hby at_191) rfl rfl ?_
    refine g_icF X57 hx 196 (hb hby at_193) (by decide) rfl ?_
    refine g_iload X57 hx 198 (hb hby at_196) rfl rfl ?_
    refine g_ifT X57 hx 208 (hb hby at_198) (by decide) (by decide) (by decide) ?_
    refine g_iconst X57 hx 209 (1 : Int32) (hb hby at_208) (by decide) rfl ?_
    refine g_goto X57 hx 213 (hb hby at_209) (by decide) (by decide) ?_
    exact g_retZ X57 hx hret hlk rfl (hb hby at_213) (by decide) (by decide) ⟨rfl, N57⟩
  · refine g_istoreN X45 hx 162 #[.val (.int x), .val (.ref b1), .val (.int (10 : Int32)), .unset, .unset, .unset] (hb hby at_161) rfl rfl ?_
    refine g_aloadN X45 hx 163 (hb hby at_162) rfl rfl rfl ?_
    refine g_iloadN X45 hx 164 (hb hby at_163) rfl rfl ?_
    refine g_aaload X45 hx 165 hZ e45 V_b1 ⟨by decide, by decide⟩ (show _ = (.ref k10) from rfl) (hb hby at_164) rfl ?_
    refine g_astoreN X45 hx 166 #[.val (.int x), .val (.ref b1), .val (.int (10 : Int32)), .val (.ref k10), .unset, .unset] (hb hby at_165) rfl rfl rfl ?_
    refine g_iloadN X45 hx 167 (hb hby at_166) rfl rfl ?_
    refine g_iconst X45 hx 168 (2 : Int32) (hb hby at_167) (by decide) rfl ?_
    refine g_icF X45 hx 171 (hb hby at_168) (by decide) rfl ?_
    refine g_iloadN X45 hx 172 (hb hby at_171) rfl rfl ?_
    refine g_iconst X45 hx 173 (3 : Int32) (hb hby at_172) (by decide) rfl ?_
    refine g_icT X45 hx 180 (hb hby at_173) (by decide) (by decide) (by decide) ?_
    refine g_iconst X45 hx 181 (0 : Int32) (hb hby at_180) (by decide) rfl ?_
    refine g_istore X45 hx 183 #[.val (.int x), .val (.ref b1), .val (.int (10 : Int32)), .val (.ref k10), .val (.int (0 : Int32)), .unset] (hb hby at_181) rfl rfl ?_
    refine g_aloadN X45 hx 184 (hb hby at_183) rfl rfl rfl ?_
    refine g_callV X45 hx 187 hZ hown (own_w hw 49 rfl) (own_w hw 50 rfl) (own_w hw 52 rfl) (own_w hw 51 rfl) (own_w hw 3 rfl) (own_w hw 53 rfl) (by decide) k10 (E_k10.keep K45) [] [] (rm1 l Z a0 hw k10 k2 k3 (0 : Int32) h45 n0 Z45 (own_sta_keep S_k2 K45) (own_sta_keep S_k3 K45) (by simp [own_un, Fld.ne F_k10 F_k2 (by decide), Fld.ne F_k10 F_k3 (by decide)])) e45 0 (by decide) (by decide) (by decide) (by decide) (by rw [hml]; rfl) (lenOf own_pd1 rfl) (hb hby at_184) rfl (Nat.le_of_eq rfl) rfl (fun v58 T58 L58 X58 hQ58 => ?_)
    obtain ⟨rfl, N58q, e58⟩ := hQ58
    have N58 := Fr.app N45 N58q
    show Go p e below _ _ T58 (mkF m 187 #[.val (.int x), .val (.ref b1), .val (.int (10 : Int32)), .val (.ref k10), .val (.int (0 : Int32)), .unset] [(.int (0 : Int32))])
    refine g_istore X58 hx 189 #[.val (.int x), .val (.ref b1), .val (.int (10 : Int32)), .val (.ref k10), .val (.int (0 : Int32)), .val (.int (0 : Int32))] (hb hby at_187) rfl rfl ?_
    refine g_iload X58 hx 191 (hb hby at_189) rfl rfl ?_
    refine g_iload X58 hx 193 (hb hby at_191) rfl rfl ?_
    refine g_icF X58 hx 196 (hb hby at_193) (by decide) rfl ?_
    refine g_iload X58 hx 198 (hb hby at_196) rfl rfl ?_
    refine g_ifT X58 hx 208 (hb hby at_198) (by decide) (by decide) (by decide) ?_
    refine g_iconst X58 hx 209 (1 : Int32) (hb hby at_208) (by decide) rfl ?_
    refine g_goto X58 hx 213 (hb hby at_209) (by decide) (by decide) ?_
    exact g_retZ X58 hx hret hlk rfl (hb hby at_213) (by decide) (by decide) ⟨rfl, N58⟩
  · refine g_istoreN X45 hx 162 #[.val (.int x), .val (.ref b1), .val (.int (11 : Int32)), .unset, .unset, .unset] (hb hby at_161) rfl rfl ?_
    refine g_aloadN X45 hx 163 (hb hby at_162) rfl rfl rfl ?_
    refine g_iloadN X45 hx 164 (hb hby at_163) rfl rfl ?_
    refine g_aaload X45 hx 165 hZ e45 V_b1 ⟨by decide, by decide⟩ (show _ = (.ref k11) from rfl) (hb hby at_164) rfl ?_
    refine g_astoreN X45 hx 166 #[.val (.int x), .val (.ref b1), .val (.int (11 : Int32)), .val (.ref k11), .unset, .unset] (hb hby at_165) rfl rfl rfl ?_
    refine g_iloadN X45 hx 167 (hb hby at_166) rfl rfl ?_
    refine g_iconst X45 hx 168 (2 : Int32) (hb hby at_167) (by decide) rfl ?_
    refine g_icF X45 hx 171 (hb hby at_168) (by decide) rfl ?_
    refine g_iloadN X45 hx 172 (hb hby at_171) rfl rfl ?_
    refine g_iconst X45 hx 173 (3 : Int32) (hb hby at_172) (by decide) rfl ?_
    refine g_icT X45 hx 180 (hb hby at_173) (by decide) (by decide) (by decide) ?_
    refine g_iconst X45 hx 181 (0 : Int32) (hb hby at_180) (by decide) rfl ?_
    refine g_istore X45 hx 183 #[.val (.int x), .val (.ref b1), .val (.int (11 : Int32)), .val (.ref k11), .val (.int (0 : Int32)), .unset] (hb hby at_181) rfl rfl ?_
    refine g_aloadN X45 hx 184 (hb hby at_183) rfl rfl rfl ?_
    refine g_callV X45 hx 187 hZ hown (own_w hw 49 rfl) (own_w hw 50 rfl) (own_w hw 52 rfl) (own_w hw 51 rfl) (own_w hw 3 rfl) (own_w hw 53 rfl) (by decide) k11 (E_k11.keep K45) [] [] (rm1 l Z a0 hw k11 k2 k3 (0 : Int32) h45 n0 Z45 (own_sta_keep S_k2 K45) (own_sta_keep S_k3 K45) (by simp [own_un, Fld.ne F_k11 F_k2 (by decide), Fld.ne F_k11 F_k3 (by decide)])) e45 0 (by decide) (by decide) (by decide) (by decide) (by rw [hml]; rfl) (lenOf own_pd1 rfl) (hb hby at_184) rfl (Nat.le_of_eq rfl) rfl (fun v59 T59 L59 X59 hQ59 => ?_)
    obtain ⟨rfl, N59q, e59⟩ := hQ59
    have N59 := Fr.app N45 N59q
    show Go p e below _ _ T59 (mkF m 187 #[.val (.int x), .val (.ref b1), .val (.int (11 : Int32)), .val (.ref k11), .val (.int (0 : Int32)), .unset] [(.int (0 : Int32))])
    refine g_istore X59 hx 189 #[.val (.int x), .val (.ref b1), .val (.int (11 : Int32)), .val (.ref k11), .val (.int (0 : Int32)), .val (.int (0 : Int32))] (hb hby at_187) rfl rfl ?_
    refine g_iload X59 hx 191 (hb hby at_189) rfl rfl ?_
    refine g_iload X59 hx 193 (hb hby at_191) rfl rfl ?_
    refine g_icF X59 hx 196 (hb hby at_193) (by decide) rfl ?_
    refine g_iload X59 hx 198 (hb hby at_196) rfl rfl ?_
    refine g_ifT X59 hx 208 (hb hby at_198) (by decide) (by decide) (by decide) ?_
    refine g_iconst X59 hx 209 (1 : Int32) (hb hby at_208) (by decide) rfl ?_
    refine g_goto X59 hx 213 (hb hby at_209) (by decide) (by decide) ?_
    exact g_retZ X59 hx hret hlk rfl (hb hby at_213) (by decide) (by decide) ⟨rfl, N59⟩
  · refine g_istoreN X45 hx 162 #[.val (.int x), .val (.ref b1), .val (.int (12 : Int32)), .unset, .unset, .unset] (hb hby at_161) rfl rfl ?_
    refine g_aloadN X45 hx 163 (hb hby at_162) rfl rfl rfl ?_
    refine g_iloadN X45 hx 164 (hb hby at_163) rfl rfl ?_
    refine g_aaload X45 hx 165 hZ e45 V_b1 ⟨by decide, by decide⟩ (show _ = (.ref k12) from rfl) (hb hby at_164) rfl ?_
    refine g_astoreN X45 hx 166 #[.val (.int x), .val (.ref b1), .val (.int (12 : Int32)), .val (.ref k12), .unset, .unset] (hb hby at_165) rfl rfl rfl ?_
    refine g_iloadN X45 hx 167 (hb hby at_166) rfl rfl ?_
    refine g_iconst X45 hx 168 (2 : Int32) (hb hby at_167) (by decide) rfl ?_
    refine g_icF X45 hx 171 (hb hby at_168) (by decide) rfl ?_
    refine g_iloadN X45 hx 172 (hb hby at_171) rfl rfl ?_
    refine g_iconst X45 hx 173 (3 : Int32) (hb hby at_172) (by decide) rfl ?_
    refine g_icT X45 hx 180 (hb hby at_173) (by decide) (by decide) (by decide) ?_
    refine g_iconst X45 hx 181 (0 : Int32) (hb hby at_180) (by decide) rfl ?_
    refine g_istore X45 hx 183 #[.val (.int x), .val (.ref b1), .val (.int (12 : Int32)), .val (.ref k12), .val (.int (0 : Int32)), .unset] (hb hby at_181) rfl rfl ?_
    refine g_aloadN X45 hx 184 (hb hby at_183) rfl rfl rfl ?_
    refine g_callV X45 hx 187 hZ hown (own_w hw 49 rfl) (own_w hw 50 rfl) (own_w hw 52 rfl) (own_w hw 51 rfl) (own_w hw 3 rfl) (own_w hw 53 rfl) (by decide) k12 (E_k12.keep K45) [] [] (rm1 l Z a0 hw k12 k2 k3 (0 : Int32) h45 n0 Z45 (own_sta_keep S_k2 K45) (own_sta_keep S_k3 K45) (by simp [own_un, Fld.ne F_k12 F_k2 (by decide), Fld.ne F_k12 F_k3 (by decide)])) e45 0 (by decide) (by decide) (by decide) (by decide) (by rw [hml]; rfl) (lenOf own_pd1 rfl) (hb hby at_184) rfl (Nat.le_of_eq rfl) rfl (fun v60 T60 L60 X60 hQ60 => ?_)
    obtain ⟨rfl, N60q, e60⟩ := hQ60
    have N60 := Fr.app N45 N60q
    show Go p e below _ _ T60 (mkF m 187 #[.val (.int x), .val (.ref b1), .val (.int (12 : Int32)), .val (.ref k12), .val (.int (0 : Int32)), .unset] [(.int (0 : Int32))])
    refine g_istore X60 hx 189 #[.val (.int x), .val (.ref b1), .val (.int (12 : Int32)), .val (.ref k12), .val (.int (0 : Int32)), .val (.int (0 : Int32))] (hb hby at_187) rfl rfl ?_
    refine g_iload X60 hx 191 (hb hby at_189) rfl rfl ?_
    refine g_iload X60 hx 193 (hb hby at_191) rfl rfl ?_
    refine g_icF X60 hx 196 (hb hby at_193) (by decide) rfl ?_
    refine g_iload X60 hx 198 (hb hby at_196) rfl rfl ?_
    refine g_ifT X60 hx 208 (hb hby at_198) (by decide) (by decide) (by decide) ?_
    refine g_iconst X60 hx 209 (1 : Int32) (hb hby at_208) (by decide) rfl ?_
    refine g_goto X60 hx 213 (hb hby at_209) (by decide) (by decide) ?_
    exact g_retZ X60 hx hret hlk rfl (hb hby at_213) (by decide) (by decide) ⟨rfl, N60⟩
  · refine g_istoreN X45 hx 162 #[.val (.int x), .val (.ref b1), .val (.int (13 : Int32)), .unset, .unset, .unset] (hb hby at_161) rfl rfl ?_
    refine g_aloadN X45 hx 163 (hb hby at_162) rfl rfl rfl ?_
    refine g_iloadN X45 hx 164 (hb hby at_163) rfl rfl ?_
    refine g_aaload X45 hx 165 hZ e45 V_b1 ⟨by decide, by decide⟩ (show _ = (.ref k13) from rfl) (hb hby at_164) rfl ?_
    refine g_astoreN X45 hx 166 #[.val (.int x), .val (.ref b1), .val (.int (13 : Int32)), .val (.ref k13), .unset, .unset] (hb hby at_165) rfl rfl rfl ?_
    refine g_iloadN X45 hx 167 (hb hby at_166) rfl rfl ?_
    refine g_iconst X45 hx 168 (2 : Int32) (hb hby at_167) (by decide) rfl ?_
    refine g_icF X45 hx 171 (hb hby at_168) (by decide) rfl ?_
    refine g_iloadN X45 hx 172 (hb hby at_171) rfl rfl ?_
    refine g_iconst X45 hx 173 (3 : Int32) (hb hby at_172) (by decide) rfl ?_
    refine g_icT X45 hx 180 (hb hby at_173) (by decide) (by decide) (by decide) ?_
    refine g_iconst X45 hx 181 (0 : Int32) (hb hby at_180) (by decide) rfl ?_
    refine g_istore X45 hx 183 #[.val (.int x), .val (.ref b1), .val (.int (13 : Int32)), .val (.ref k13), .val (.int (0 : Int32)), .unset] (hb hby at_181) rfl rfl ?_
    refine g_aloadN X45 hx 184 (hb hby at_183) rfl rfl rfl ?_
    refine g_callV X45 hx 187 hZ hown (own_w hw 49 rfl) (own_w hw 50 rfl) (own_w hw 52 rfl) (own_w hw 51 rfl) (own_w hw 3 rfl) (own_w hw 53 rfl) (by decide) k13 (E_k13.keep K45) [] [] (rm1 l Z a0 hw k13 k2 k3 (0 : Int32) h45 n0 Z45 (own_sta_keep S_k2 K45) (own_sta_keep S_k3 K45) (by simp [own_un, Fld.ne F_k13 F_k2 (by decide), Fld.ne F_k13 F_k3 (by decide)])) e45 0 (by decide) (by decide) (by decide) (by decide) (by rw [hml]; rfl) (lenOf own_pd1 rfl) (hb hby at_184) rfl (Nat.le_of_eq rfl) rfl (fun v61 T61 L61 X61 hQ61 => ?_)
    obtain ⟨rfl, N61q, e61⟩ := hQ61
    have N61 := Fr.app N45 N61q
    show Go p e below _ _ T61 (mkF m 187 #[.val (.int x), .val (.ref b1), .val (.int (13 : Int32)), .val (.ref k13), .val (.int (0 : Int32)), .unset] [(.int (0 : Int32))])
    refine g_istore X61 hx 189 #[.val (.int x), .val (.ref b1), .val (.int (13 : Int32)), .val (.ref k13), .val (.int (0 : Int32)), .val (.int (0 : Int32))] (hb hby at_187) rfl rfl ?_
    refine g_iload X61 hx 191 (hb hby at_189) rfl rfl ?_
    refine g_iload X61 hx 193 (hb hby at_191) rfl rfl ?_
    refine g_icF X61 hx 196 (hb hby at_193) (by decide) rfl ?_
    refine g_iload X61 hx 198 (hb hby at_196) rfl rfl ?_
    refine g_ifT X61 hx 208 (hb hby at_198) (by decide) (by decide) (by decide) ?_
    refine g_iconst X61 hx 209 (1 : Int32) (hb hby at_208) (by decide) rfl ?_
    refine g_goto X61 hx 213 (hb hby at_209) (by decide) (by decide) ?_
    exact g_retZ X61 hx hret hlk rfl (hb hby at_213) (by decide) (by decide) ⟨rfl, N61⟩
  · refine g_istoreN X45 hx 162 #[.val (.int x), .val (.ref b1), .val (.int (14 : Int32)), .unset, .unset, .unset] (hb hby at_161) rfl rfl ?_
    refine g_aloadN X45 hx 163 (hb hby at_162) rfl rfl rfl ?_
    refine g_iloadN X45 hx 164 (hb hby at_163) rfl rfl ?_
    refine g_aaload X45 hx 165 hZ e45 V_b1 ⟨by decide, by decide⟩ (show _ = (.ref k14) from rfl) (hb hby at_164) rfl ?_
    refine g_astoreN X45 hx 166 #[.val (.int x), .val (.ref b1), .val (.int (14 : Int32)), .val (.ref k14), .unset, .unset] (hb hby at_165) rfl rfl rfl ?_
    refine g_iloadN X45 hx 167 (hb hby at_166) rfl rfl ?_
    refine g_iconst X45 hx 168 (2 : Int32) (hb hby at_167) (by decide) rfl ?_
    refine g_icF X45 hx 171 (hb hby at_168) (by decide) rfl ?_
    refine g_iloadN X45 hx 172 (hb hby at_171) rfl rfl ?_
    refine g_iconst X45 hx 173 (3 : Int32) (hb hby at_172) (by decide) rfl ?_
    refine g_icT X45 hx 180 (hb hby at_173) (by decide) (by decide) (by decide) ?_
    refine g_iconst X45 hx 181 (0 : Int32) (hb hby at_180) (by decide) rfl ?_
    refine g_istore X45 hx 183 #[.val (.int x), .val (.ref b1), .val (.int (14 : Int32)), .val (.ref k14), .val (.int (0 : Int32)), .unset] (hb hby at_181) rfl rfl ?_
    refine g_aloadN X45 hx 184 (hb hby at_183) rfl rfl rfl ?_
    refine g_callV X45 hx 187 hZ hown (own_w hw 49 rfl) (own_w hw 50 rfl) (own_w hw 52 rfl) (own_w hw 51 rfl) (own_w hw 3 rfl) (own_w hw 53 rfl) (by decide) k14 (E_k14.keep K45) [] [] (rm1 l Z a0 hw k14 k2 k3 (0 : Int32) h45 n0 Z45 (own_sta_keep S_k2 K45) (own_sta_keep S_k3 K45) (by simp [own_un, Fld.ne F_k14 F_k2 (by decide), Fld.ne F_k14 F_k3 (by decide)])) e45 0 (by decide) (by decide) (by decide) (by decide) (by rw [hml]; rfl) (lenOf own_pd1 rfl) (hb hby at_184) rfl (Nat.le_of_eq rfl) rfl (fun v62 T62 L62 X62 hQ62 => ?_)
    obtain ⟨rfl, N62q, e62⟩ := hQ62
    have N62 := Fr.app N45 N62q
    show Go p e below _ _ T62 (mkF m 187 #[.val (.int x), .val (.ref b1), .val (.int (14 : Int32)), .val (.ref k14), .val (.int (0 : Int32)), .unset] [(.int (0 : Int32))])
    refine g_istore X62 hx 189 #[.val (.int x), .val (.ref b1), .val (.int (14 : Int32)), .val (.ref k14), .val (.int (0 : Int32)), .val (.int (0 : Int32))] (hb hby at_187) rfl rfl ?_
    refine g_iload X62 hx 191 (hb hby at_189) rfl rfl ?_
    refine g_iload X62 hx 193 (hb hby at_191) rfl rfl ?_
    refine g_icF X62 hx 196 (hb hby at_193) (by decide) rfl ?_
    refine g_iload X62 hx 198 (hb hby at_196) rfl rfl ?_
    refine g_ifT X62 hx 208 (hb hby at_198) (by decide) (by decide) (by decide) ?_
    refine g_iconst X62 hx 209 (1 : Int32) (hb hby at_208) (by decide) rfl ?_
    refine g_goto X62 hx 213 (hb hby at_209) (by decide) (by decide) ?_
    exact g_retZ X62 hx hret hlk rfl (hb hby at_213) (by decide) (by decide) ⟨rfl, N62⟩
  · refine g_istoreN X45 hx 162 #[.val (.int x), .val (.ref b1), .val (.int (15 : Int32)), .unset, .unset, .unset] (hb hby at_161) rfl rfl ?_
    refine g_aloadN X45 hx 163 (hb hby at_162) rfl rfl rfl ?_
    refine g_iloadN X45 hx 164 (hb hby at_163) rfl rfl ?_
    refine g_aaload X45 hx 165 hZ e45 V_b1 ⟨by decide, by decide⟩ (show _ = (.ref k15) from rfl) (hb hby at_164) rfl ?_
    refine g_astoreN X45 hx 166 #[.val (.int x), .val (.ref b1), .val (.int (15 : Int32)), .val (.ref k15), .unset, .unset] (hb hby at_165) rfl rfl rfl ?_
    refine g_iloadN X45 hx 167 (hb hby at_166) rfl rfl ?_
    refine g_iconst X45 hx 168 (2 : Int32) (hb hby at_167) (by decide) rfl ?_
    refine g_icF X45 hx 171 (hb hby at_168) (by decide) rfl ?_
    refine g_iloadN X45 hx 172 (hb hby at_171) rfl rfl ?_
    refine g_iconst X45 hx 173 (3 : Int32) (hb hby at_172) (by decide) rfl ?_
    refine g_icT X45 hx 180 (hb hby at_173) (by decide) (by decide) (by decide) ?_
    refine g_iconst X45 hx 181 (0 : Int32) (hb hby at_180) (by decide) rfl ?_
    refine g_istore X45 hx 183 #[.val (.int x), .val (.ref b1), .val (.int (15 : Int32)), .val (.ref k15), .val (.int (0 : Int32)), .unset] (hb hby at_181) rfl rfl ?_
    refine g_aloadN X45 hx 184 (hb hby at_183) rfl rfl rfl ?_
    refine g_callV X45 hx 187 hZ hown (own_w hw 49 rfl) (own_w hw 50 rfl) (own_w hw 52 rfl) (own_w hw 51 rfl) (own_w hw 3 rfl) (own_w hw 53 rfl) (by decide) k15 (E_k15.keep K45) [] [] (rm1 l Z a0 hw k15 k2 k3 (0 : Int32) h45 n0 Z45 (own_sta_keep S_k2 K45) (own_sta_keep S_k3 K45) (by simp [own_un, Fld.ne F_k15 F_k2 (by decide), Fld.ne F_k15 F_k3 (by decide)])) e45 0 (by decide) (by decide) (by decide) (by decide) (by rw [hml]; rfl) (lenOf own_pd1 rfl) (hb hby at_184) rfl (Nat.le_of_eq rfl) rfl (fun v63 T63 L63 X63 hQ63 => ?_)
    obtain ⟨rfl, N63q, e63⟩ := hQ63
    have N63 := Fr.app N45 N63q
    show Go p e below _ _ T63 (mkF m 187 #[.val (.int x), .val (.ref b1), .val (.int (15 : Int32)), .val (.ref k15), .val (.int (0 : Int32)), .unset] [(.int (0 : Int32))])
    refine g_istore X63 hx 189 #[.val (.int x), .val (.ref b1), .val (.int (15 : Int32)), .val (.ref k15), .val (.int (0 : Int32)), .val (.int (0 : Int32))] (hb hby at_187) rfl rfl ?_
    refine g_iload X63 hx 191 (hb hby at_189) rfl rfl ?_
    refine g_iload X63 hx 193 (hb hby at_191) rfl rfl ?_
    refine g_icF X63 hx 196 (hb hby at_193) (by decide) rfl ?_
    refine g_iload X63 hx 198 (hb hby at_196) rfl rfl ?_
    refine g_ifT X63 hx 208 (hb hby at_198) (by decide) (by decide) (by decide) ?_
    refine g_iconst X63 hx 209 (1 : Int32) (hb hby at_208) (by decide) rfl ?_
    refine g_goto X63 hx 213 (hb hby at_209) (by decide) (by decide) ?_
    exact g_retZ X63 hx hret hlk rfl (hb hby at_213) (by decide) (by decide) ⟨rfl, N63⟩
  · refine g_istoreN X45 hx 162 #[.val (.int x), .val (.ref b1), .val (.int (16 : Int32)), .unset, .unset, .unset] (hb hby at_161) rfl rfl ?_
    refine g_aloadN X45 hx 163 (hb hby at_162) rfl rfl rfl ?_
    refine g_iloadN X45 hx 164 (hb hby at_163) rfl rfl ?_
    refine g_aaload X45 hx 165 hZ e45 V_b1 ⟨by decide, by decide⟩ (show _ = (.ref k16) from rfl) (hb hby at_164) rfl ?_
    refine g_astoreN X45 hx 166 #[.val (.int x), .val (.ref b1), .val (.int (16 : Int32)), .val (.ref k16), .unset, .unset] (hb hby at_165) rfl rfl rfl ?_
    refine g_iloadN X45 hx 167 (hb hby at_166) rfl rfl ?_
    refine g_iconst X45 hx 168 (2 : Int32) (hb hby at_167) (by decide) rfl ?_
    refine g_icF X45 hx 171 (hb hby at_168) (by decide) rfl ?_
    refine g_iloadN X45 hx 172 (hb hby at_171) rfl rfl ?_
    refine g_iconst X45 hx 173 (3 : Int32) (hb hby at_172) (by decide) rfl ?_
    refine g_icT X45 hx 180 (hb hby at_173) (by decide) (by decide) (by decide) ?_
    refine g_iconst X45 hx 181 (0 : Int32) (hb hby at_180) (by decide) rfl ?_
    refine g_istore X45 hx 183 #[.val (.int x), .val (.ref b1), .val (.int (16 : Int32)), .val (.ref k16), .val (.int (0 : Int32)), .unset] (hb hby at_181) rfl rfl ?_
    refine g_aloadN X45 hx 184 (hb hby at_183) rfl rfl rfl ?_
    refine g_callV X45 hx 187 hZ hown (own_w hw 49 rfl) (own_w hw 50 rfl) (own_w hw 52 rfl) (own_w hw 51 rfl) (own_w hw 3 rfl) (own_w hw 53 rfl) (by decide) k16 (E_k16.keep K45) [] [] (rm1 l Z a0 hw k16 k2 k3 (0 : Int32) h45 n0 Z45 (own_sta_keep S_k2 K45) (own_sta_keep S_k3 K45) (by simp [own_un, Fld.ne F_k16 F_k2 (by decide), Fld.ne F_k16 F_k3 (by decide)])) e45 0 (by decide) (by decide) (by decide) (by decide) (by rw [hml]; rfl) (lenOf own_pd1 rfl) (hb hby at_184) rfl (Nat.le_of_eq rfl) rfl (fun v64 T64 L64 X64 hQ64 => ?_)
    obtain ⟨rfl, N64q, e64⟩ := hQ64
    have N64 := Fr.app N45 N64q
    show Go p e below _ _ T64 (mkF m 187 #[.val (.int x), .val (.ref b1), .val (.int (16 : Int32)), .val (.ref k16), .val (.int (0 : Int32)), .unset] [(.int (0 : Int32))])
    refine g_istore X64 hx 189 #[.val (.int x), .val (.ref b1), .val (.int (16 : Int32)), .val (.ref k16), .val (.int (0 : Int32)), .val (.int (0 : Int32))] (hb hby at_187) rfl rfl ?_
    refine g_iload X64 hx 191 (hb hby at_189) rfl rfl ?_
    refine g_iload X64 hx 193 (hb hby at_191) rfl rfl ?_
    refine g_icF X64 hx 196 (hb hby at_193) (by decide) rfl ?_
    refine g_iload X64 hx 198 (hb hby at_196) rfl rfl ?_
    refine g_ifT X64 hx 208 (hb hby at_198) (by decide) (by decide) (by decide) ?_
    refine g_iconst X64 hx 209 (1 : Int32) (hb hby at_208) (by decide) rfl ?_
    refine g_goto X64 hx 213 (hb hby at_209) (by decide) (by decide) ?_
    exact g_retZ X64 hx hret hlk rfl (hb hby at_213) (by decide) (by decide) ⟨rfl, N64⟩
  · refine g_istoreN X45 hx 162 #[.val (.int x), .val (.ref b1), .val (.int (17 : Int32)), .unset, .unset, .unset] (hb hby at_161) rfl rfl ?_
    refine g_aloadN X45 hx 163 (hb hby at_162) rfl rfl rfl ?_
    refine g_iloadN X45 hx 164 (hb hby at_163) rfl rfl ?_
    refine g_aaload X45 hx 165 hZ e45 V_b1 ⟨by decide, by decide⟩ (show _ = (.ref k17) from rfl) (hb hby at_164) rfl ?_
    refine g_astoreN X45 hx 166 #[.val (.int x), .val (.ref b1), .val (.int (17 : Int32)), .val (.ref k17), .unset, .unset] (hb hby at_165) rfl rfl rfl ?_
    refine g_iloadN X45 hx 167 (hb hby at_166) rfl rfl ?_
    refine g_iconst X45 hx 168 (2 : Int32) (hb hby at_167) (by decide) rfl ?_
    refine g_icF X45 hx 171 (hb hby at_168) (by decide) rfl ?_
    refine g_iloadN X45 hx 172 (hb hby at_171) rfl rfl ?_
    refine g_iconst X45 hx 173 (3 : Int32) (hb hby at_172) (by decide) rfl ?_
    refine g_icT X45 hx 180 (hb hby at_173) (by decide) (by decide) (by decide) ?_
    refine g_iconst X45 hx 181 (0 : Int32) (hb hby at_180) (by decide) rfl ?_
    refine g_istore X45 hx 183 #[.val (.int x), .val (.ref b1), .val (.int (17 : Int32)), .val (.ref k17), .val (.int (0 : Int32)), .unset] (hb hby at_181) rfl rfl ?_
    refine g_aloadN X45 hx 184 (hb hby at_183) rfl rfl rfl ?_
    refine g_callV X45 hx 187 hZ hown (own_w hw 49 rfl) (own_w hw 50 rfl) (own_w hw 52 rfl) (own_w hw 51 rfl) (own_w hw 3 rfl) (own_w hw 53 rfl) (by decide) k17 (E_k17.keep K45) [] [] (rm1 l Z a0 hw k17 k2 k3 (0 : Int32) h45 n0 Z45 (own_sta_keep S_k2 K45) (own_sta_keep S_k3 K45) (by simp [own_un, Fld.ne F_k17 F_k2 (by decide), Fld.ne F_k17 F_k3 (by decide)])) e45 0 (by decide) (by decide) (by decide) (by decide) (by rw [hml]; rfl) (lenOf own_pd1 rfl) (hb hby at_184) rfl (Nat.le_of_eq rfl) rfl (fun v65 T65 L65 X65 hQ65 => ?_)
    obtain ⟨rfl, N65q, e65⟩ := hQ65
    have N65 := Fr.app N45 N65q
    show Go p e below _ _ T65 (mkF m 187 #[.val (.int x), .val (.ref b1), .val (.int (17 : Int32)), .val (.ref k17), .val (.int (0 : Int32)), .unset] [(.int (0 : Int32))])
    refine g_istore X65 hx 189 #[.val (.int x), .val (.ref b1), .val (.int (17 : Int32)), .val (.ref k17), .val (.int (0 : Int32)), .val (.int (0 : Int32))] (hb hby at_187) rfl rfl ?_
    refine g_iload X65 hx 191 (hb hby at_189) rfl rfl ?_
    refine g_iload X65 hx 193 (hb hby at_191) rfl rfl ?_
    refine g_icF X65 hx 196 (hb hby at_193) (by decide) rfl ?_
    refine g_iload X65 hx 198 (hb hby at_196) rfl rfl ?_
    refine g_ifT X65 hx 208 (hb hby at_198) (by decide) (by decide) (by decide) ?_
    refine g_iconst X65 hx 209 (1 : Int32) (hb hby at_208) (by decide) rfl ?_
    refine g_goto X65 hx 213 (hb hby at_209) (by decide) (by decide) ?_
    exact g_retZ X65 hx hret hlk rfl (hb hby at_213) (by decide) (by decide) ⟨rfl, N65⟩
  · refine g_istoreN X45 hx 162 #[.val (.int x), .val (.ref b1), .val (.int (18 : Int32)), .unset, .unset, .unset] (hb hby at_161) rfl rfl ?_
    refine g_aloadN X45 hx 163 (hb hby at_162) rfl rfl rfl ?_
    refine g_iloadN X45 hx 164 (hb hby at_163) rfl rfl ?_
    refine g_aaload X45 hx 165 hZ e45 V_b1 ⟨by decide, by decide⟩ (show _ = (.ref k18) from rfl) (hb hby at_164) rfl ?_
    refine g_astoreN X45 hx 166 #[.val (.int x), .val (.ref b1), .val (.int (18 : Int32)), .val (.ref k18), .unset, .unset] (hb hby at_165) rfl rfl rfl ?_
    refine g_iloadN X45 hx 167 (hb hby at_166) rfl rfl ?_
    refine g_iconst X45 hx 168 (2 : Int32) (hb hby at_167) (by decide) rfl ?_
    refine g_icF X45 hx 171 (hb hby at_168) (by decide) rfl ?_
    refine g_iloadN X45 hx 172 (hb hby at_171) rfl rfl ?_
    refine g_iconst X45 hx 173 (3 : Int32) (hb hby at_172) (by decide) rfl ?_
    refine g_icT X45 hx 180 (hb hby at_173) (by decide) (by decide) (by decide) ?_
    refine g_iconst X45 hx 181 (0 : Int32) (hb hby at_180) (by decide) rfl ?_
    refine g_istore X45 hx 183 #[.val (.int x), .val (.ref b1), .val (.int (18 : Int32)), .val (.ref k18), .val (.int (0 : Int32)), .unset] (hb hby at_181) rfl rfl ?_
    refine g_aloadN X45 hx 184 (hb hby at_183) rfl rfl rfl ?_
    refine g_callV X45 hx 187 hZ hown (own_w hw 49 rfl) (own_w hw 50 rfl) (own_w hw 52 rfl) (own_w hw 51 rfl) (own_w hw 3 rfl) (own_w hw 53 rfl) (by decide) k18 (E_k18.keep K45) [] [] (rm1 l Z a0 hw k18 k2 k3 (0 : Int32) h45 n0 Z45 (own_sta_keep S_k2 K45) (own_sta_keep S_k3 K45) (by simp [own_un, Fld.ne F_k18 F_k2 (by decide), Fld.ne F_k18 F_k3 (by decide)])) e45 0 (by decide) (by decide) (by decide) (by decide) (by rw [hml]; rfl) (lenOf own_pd1 rfl) (hb hby at_184) rfl (Nat.le_of_eq rfl) rfl (fun v66 T66 L66 X66 hQ66 => ?_)
    obtain ⟨rfl, N66q, e66⟩ := hQ66
    have N66 := Fr.app N45 N66q
    show Go p e below _ _ T66 (mkF m 187 #[.val (.int x), .val (.ref b1), .val (.int (18 : Int32)), .val (.ref k18), .val (.int (0 : Int32)), .unset] [(.int (0 : Int32))])
    refine g_istore X66 hx 189 #[.val (.int x), .val (.ref b1), .val (.int (18 : Int32)), .val (.ref k18), .val (.int (0 : Int32)), .val (.int (0 : Int32))] (hb hby at_187) rfl rfl ?_
    refine g_iload X66 hx 191 (hb hby at_189) rfl rfl ?_
    refine g_iload X66 hx 193 (hb hby at_191) rfl rfl ?_
    refine g_icF X66 hx 196 (hb hby at_193) (by decide) rfl ?_
    refine g_iload X66 hx 198 (hb hby at_196) rfl rfl ?_
    refine g_ifT X66 hx 208 (hb hby at_198) (by decide) (by decide) (by decide) ?_
    refine g_iconst X66 hx 209 (1 : Int32) (hb hby at_208) (by decide) rfl ?_
    refine g_goto X66 hx 213 (hb hby at_209) (by decide) (by decide) ?_
    exact g_retZ X66 hx hret hlk rfl (hb hby at_213) (by decide) (by decide) ⟨rfl, N66⟩
  · refine g_istoreN X45 hx 162 #[.val (.int x), .val (.ref b1), .val (.int (19 : Int32)), .unset, .unset, .unset] (hb hby at_161) rfl rfl ?_
    refine g_aloadN X45 hx 163 (hb hby at_162) rfl rfl rfl ?_
    refine g_iloadN X45 hx 164 (hb hby at_163) rfl rfl ?_
    refine g_aaload X45 hx 165 hZ e45 V_b1 ⟨by decide, by decide⟩ (show _ = (.ref k19) from rfl) (hb hby at_164) rfl ?_
    refine g_astoreN X45 hx 166 #[.val (.int x), .val (.ref b1), .val (.int (19 : Int32)), .val (.ref k19), .unset, .unset] (hb hby at_165) rfl rfl rfl ?_
    refine g_iloadN X45 hx 167 (hb hby at_166) rfl rfl ?_
    refine g_iconst X45 hx 168 (2 : Int32) (hb hby at_167) (by decide) rfl ?_
    refine g_icF X45 hx 171 (hb hby at_168) (by decide) rfl ?_
    refine g_iloadN X45 hx 172 (hb hby at_171) rfl rfl ?_
    refine g_iconst X45 hx 173 (3 : Int32) (hb hby at_172) (by decide) rfl ?_
    refine g_icT X45 hx 180 (hb hby at_173) (by decide) (by decide) (by decide) ?_
    refine g_iconst X45 hx 181 (0 : Int32) (hb hby at_180) (by decide) rfl ?_
    refine g_istore X45 hx 183 #[.val (.int x), .val (.ref b1), .val (.int (19 : Int32)), .val (.ref k19), .val (.int (0 : Int32)), .unset] (hb hby at_181) rfl rfl ?_
    refine g_aloadN X45 hx 184 (hb hby at_183) rfl rfl rfl ?_
    refine g_callV X45 hx 187 hZ hown (own_w hw 49 rfl) (own_w hw 50 rfl) (own_w hw 52 rfl) (own_w hw 51 rfl) (own_w hw 3 rfl) (own_w hw 53 rfl) (by decide) k19 (E_k19.keep K45) [] [] (rm1 l Z a0 hw k19 k2 k3 (0 : Int32) h45 n0 Z45 (own_sta_keep S_k2 K45) (own_sta_keep S_k3 K45) (by simp [own_un, Fld.ne F_k19 F_k2 (by decide), Fld.ne F_k19 F_k3 (by decide)])) e45 0 (by decide) (by decide) (by decide) (by decide) (by rw [hml]; rfl) (lenOf own_pd1 rfl) (hb hby at_184) rfl (Nat.le_of_eq rfl) rfl (fun v67 T67 L67 X67 hQ67 => ?_)
    obtain ⟨rfl, N67q, e67⟩ := hQ67
    have N67 := Fr.app N45 N67q
    show Go p e below _ _ T67 (mkF m 187 #[.val (.int x), .val (.ref b1), .val (.int (19 : Int32)), .val (.ref k19), .val (.int (0 : Int32)), .unset] [(.int (0 : Int32))])
    refine g_istore X67 hx 189 #[.val (.int x), .val (.ref b1), .val (.int (19 : Int32)), .val (.ref k19), .val (.int (0 : Int32)), .val (.int (0 : Int32))] (hb hby at_187) rfl rfl ?_
    refine g_iload X67 hx 191 (hb hby at_189) rfl rfl ?_
    refine g_iload X67 hx 193 (hb hby at_191) rfl rfl ?_
    refine g_icF X67 hx 196 (hb hby at_193) (by decide) rfl ?_
    refine g_iload X67 hx 198 (hb hby at_196) rfl rfl ?_
    refine g_ifT X67 hx 208 (hb hby at_198) (by decide) (by decide) (by decide) ?_
    refine g_iconst X67 hx 209 (1 : Int32) (hb hby at_208) (by decide) rfl ?_
    refine g_goto X67 hx 213 (hb hby at_209) (by decide) (by decide) ?_
    exact g_retZ X67 hx hret hlk rfl (hb hby at_213) (by decide) (by decide) ⟨rfl, N67⟩
  · refine g_istoreN X45 hx 162 #[.val (.int x), .val (.ref b1), .val (.int (20 : Int32)), .unset, .unset, .unset] (hb hby at_161) rfl rfl ?_
    refine g_aloadN X45 hx 163 (hb hby at_162) rfl rfl rfl ?_
    refine g_iloadN X45 hx 164 (hb hby at_163) rfl rfl ?_
    refine g_aaload X45 hx 165 hZ e45 V_b1 ⟨by decide, by decide⟩ (show _ = (.ref k20) from rfl) (hb hby at_164) rfl ?_
    refine g_astoreN X45 hx 166 #[.val (.int x), .val (.ref b1), .val (.int (20 : Int32)), .val (.ref k20), .unset, .unset] (hb hby at_165) rfl rfl rfl ?_
    refine g_iloadN X45 hx 167 (hb hby at_166) rfl rfl ?_
    refine g_iconst X45 hx 168 (2 : Int32) (hb hby at_167) (by decide) rfl ?_
    refine g_icF X45 hx 171 (hb hby at_168) (by decide) rfl ?_
    refine g_iloadN X45 hx 172 (hb hby at_171) rfl rfl ?_
    refine g_iconst X45 hx 173 (3 : Int32) (hb hby at_172) (by decide) rfl ?_
    refine g_icT X45 hx 180 (hb hby at_173) (by decide) (by decide) (by decide) ?_
    refine g_iconst X45 hx 181 (0 : Int32) (hb hby at_180) (by decide) rfl ?_
    refine g_istore X45 hx 183 #[.val (.int x), .val (.ref b1), .val (.int (20 : Int32)), .val (.ref k20), .val (.int (0 : Int32)), .unset] (hb hby at_181) rfl rfl ?_
    refine g_aloadN X45 hx 184 (hb hby at_183) rfl rfl rfl ?_
    refine g_callV X45 hx 187 hZ hown (own_w hw 49 rfl) (own_w hw 50 rfl) (own_w hw 52 rfl) (own_w hw 51 rfl) (own_w hw 3 rfl) (own_w hw 53 rfl) (by decide) k20 (E_k20.keep K45) [] [] (rm1 l Z a0 hw k20 k2 k3 (0 : Int32) h45 n0 Z45 (own_sta_keep S_k2 K45) (own_sta_keep S_k3 K45) (by simp [own_un, Fld.ne F_k20 F_k2 (by decide), Fld.ne F_k20 F_k3 (by decide)])) e45 0 (by decide) (by decide) (by decide) (by decide) (by rw [hml]; rfl) (lenOf own_pd1 rfl) (hb hby at_184) rfl (Nat.le_of_eq rfl) rfl (fun v68 T68 L68 X68 hQ68 => ?_)
    obtain ⟨rfl, N68q, e68⟩ := hQ68
    have N68 := Fr.app N45 N68q
    show Go p e below _ _ T68 (mkF m 187 #[.val (.int x), .val (.ref b1), .val (.int (20 : Int32)), .val (.ref k20), .val (.int (0 : Int32)), .unset] [(.int (0 : Int32))])
    refine g_istore X68 hx 189 #[.val (.int x), .val (.ref b1), .val (.int (20 : Int32)), .val (.ref k20), .val (.int (0 : Int32)), .val (.int (0 : Int32))] (hb hby at_187) rfl rfl ?_
    refine g_iload X68 hx 191 (hb hby at_189) rfl rfl ?_
    refine g_iload X68 hx 193 (hb hby at_191) rfl rfl ?_
    refine g_icF X68 hx 196 (hb hby at_193) (by decide) rfl ?_
    refine g_iload X68 hx 198 (hb hby at_196) rfl rfl ?_
    refine g_ifT X68 hx 208 (hb hby at_198) (by decide) (by decide) (by decide) ?_
    refine g_iconst X68 hx 209 (1 : Int32) (hb hby at_208) (by decide) rfl ?_
    refine g_goto X68 hx 213 (hb hby at_209) (by decide) (by decide) ?_
    exact g_retZ X68 hx hret hlk rfl (hb hby at_213) (by decide) (by decide) ⟨rfl, N68⟩
  · refine g_istoreN X45 hx 162 #[.val (.int x), .val (.ref b1), .val (.int (21 : Int32)), .unset, .unset, .unset] (hb hby at_161) rfl rfl ?_
    refine g_aloadN X45 hx 163 (hb hby at_162) rfl rfl rfl ?_
    refine g_iloadN X45 hx 164 (hb hby at_163) rfl rfl ?_
    refine g_aaload X45 hx 165 hZ e45 V_b1 ⟨by decide, by decide⟩ (show _ = (.ref k21) from rfl) (hb hby at_164) rfl ?_
    refine g_astoreN X45 hx 166 #[.val (.int x), .val (.ref b1), .val (.int (21 : Int32)), .val (.ref k21), .unset, .unset] (hb hby at_165) rfl rfl rfl ?_
    refine g_iloadN X45 hx 167 (hb hby at_166) rfl rfl ?_
    refine g_iconst X45 hx 168 (2 : Int32) (hb hby at_167) (by decide) rfl ?_
    refine g_icF X45 hx 171 (hb hby at_168) (by decide) rfl ?_
    refine g_iloadN X45 hx 172 (hb hby at_171) rfl rfl ?_
    refine g_iconst X45 hx 173 (3 : Int32) (hb hby at_172) (by decide) rfl ?_
    refine g_icT X45 hx 180 (hb hby at_173) (by decide) (by decide) (by decide) ?_
    refine g_iconst X45 hx 181 (0 : Int32) (hb hby at_180) (by decide) rfl ?_
    refine g_istore X45 hx 183 #[.val (.int x), .val (.ref b1), .val (.int (21 : Int32)), .val (.ref k21), .val (.int (0 : Int32)), .unset] (hb hby at_181) rfl rfl ?_
    refine g_aloadN X45 hx 184 (hb hby at_183) rfl rfl rfl ?_
    refine g_callV X45 hx 187 hZ hown (own_w hw 49 rfl) (own_w hw 50 rfl) (own_w hw 52 rfl) (own_w hw 51 rfl) (own_w hw 3 rfl) (own_w hw 53 rfl) (by decide) k21 (E_k21.keep K45) [] [] (rm1 l Z a0 hw k21 k2 k3 (0 : Int32) h45 n0 Z45 (own_sta_keep S_k2 K45) (own_sta_keep S_k3 K45) (by simp [own_un, Fld.ne F_k21 F_k2 (by decide), Fld.ne F_k21 F_k3 (by decide)])) e45 0 (by decide) (by decide) (by decide) (by decide) (by rw [hml]; rfl) (lenOf own_pd1 rfl) (hb hby at_184) rfl (Nat.le_of_eq rfl) rfl (fun v69 T69 L69 X69 hQ69 => ?_)
    obtain ⟨rfl, N69q, e69⟩ := hQ69
    have N69 := Fr.app N45 N69q
    show Go p e below _ _ T69 (mkF m 187 #[.val (.int x), .val (.ref b1), .val (.int (21 : Int32)), .val (.ref k21), .val (.int (0 : Int32)), .unset] [(.int (0 : Int32))])
    refine g_istore X69 hx 189 #[.val (.int x), .val (.ref b1), .val (.int (21 : Int32)), .val (.ref k21), .val (.int (0 : Int32)), .val (.int (0 : Int32))] (hb hby at_187) rfl rfl ?_
    refine g_iload X69 hx 191 (hb hby at_189) rfl rfl ?_
    refine g_iload X69 hx 193 (hb hby at_191) rfl rfl ?_
    refine g_icF X69 hx 196 (hb hby at_193) (by decide) rfl ?_
    refine g_iload X69 hx 198 (hb hby at_196) rfl rfl ?_
    refine g_ifT X69 hx 208 (hb hby at_198) (by decide) (by decide) (by decide) ?_
    refine g_iconst X69 hx 209 (1 : Int32) (hb hby at_208) (by decide) rfl ?_
    refine g_goto X69 hx 213 (hb hby at_209) (by decide) (by decide) ?_
    exact g_retZ X69 hx hret hlk rfl (hb hby at_213) (by decide) (by decide) ⟨rfl, N69⟩
set_option maxRecDepth 65536 in
set_option maxHeartbeats 40000000 in
theorem comes_1 {Post : Tables → Env → Array Value → State → Outcome → State → Prop} (hpost : ∀ tb e args s v u, (limb_1_1.after args s (.returned v) u = true ∧ limb_1_2.after args s (.returned v) u = true ∧ True) → FrameEnd s (.returned v) u (Jvm.fieldLocs frame_1_writes args s ++ Jvm.arrayLocs frame_1_arrays args s ++ Jvm.staticLocs frame_1_statics s) 16 128 → Post tb e args s (.returned v) u) :
    ArmFor flags0 classFile x code maxLocals ret World_1 tables_1 room_1 Calls_1 rest_1 Pre_1 Post := by
  intro l hfl _ _ p e ha hc hk s m args below hf hA hF happ hP
  obtain ⟨hcalls, hrest, hpre⟩ := hP
  obtain ⟨-, -, -, hnamed, -, -, -, hat⟩ := (Spec.applies_iff hf).mp happ
  obtain ⟨hg, hn⟩ := and_e (Cond.before_iff.mp (show (Jvm.Cond.and given_1 narrow_1).before args s = true from hpre))
  obtain ⟨ga1, gb1⟩ := and_e hg
  obtain ⟨w0, rfl⟩ : ∃ w0 : Value, args = #[w0] := by
    have hs : args.size = 1 := by simpa [Cond.value, given_1] using ga1
    obtain ⟨L⟩ := args
    match L, hs with
    | [w0], _ => exact ⟨w0, rfl⟩
  have hw := fun d (hd : d ∈ tables_1) => atoms_spec (ws := Jvm.Cond.code x code maxLocals ret :: tables_1) hat d (List.mem_cons_of_mem _ hd)
  have hfit : Fit s := fun {y c} hc i hi => by
    obtain ⟨ha, rfl⟩ := Array.getElem?_eq_some_iff.mp hc
    have q := List.all_eq_true.mp ((Array.all_eq_true_iff_forall_mem.mp hF) _ (Array.getElem_mem ha)) i (List.mem_range.mpr hi)
    simpa [Array.getElem?_eq_getElem hi] using q
  obtain ⟨i0, ei0⟩ := is_v gb1
  obtain rfl : w0 = (.int i0) := Option.some.inj ei0
  obtain ⟨na1, nb1⟩ := and_e hn
  obtain ⟨na2, nb2⟩ := and_e nb1
  obtain ⟨na3, nb3⟩ := and_e nb2
  obtain ⟨na4, nb4⟩ := and_e nb3
  obtain ⟨na5, nb5⟩ := and_e nb4
  obtain ⟨na6, nb6⟩ := and_e nb5
  obtain ⟨na7, nb7⟩ := and_e nb6
  obtain ⟨na8, nb8⟩ := and_e nb7
  obtain ⟨na9, nb9⟩ := and_e nb8
  obtain ⟨na10, nb10⟩ := and_e nb9
  obtain ⟨na11, nb11⟩ := and_e nb10
  obtain ⟨na12, nb12⟩ := and_e nb11
  obtain ⟨na13, nb13⟩ := and_e nb12
  obtain ⟨na14, nb14⟩ := and_e nb13
  obtain ⟨na15, nb15⟩ := and_e nb14
  obtain ⟨na16, nb16⟩ := and_e nb15
  obtain ⟨na17, nb17⟩ := and_e nb16
  obtain ⟨na18, nb18⟩ := and_e nb17
  obtain ⟨na19, nb19⟩ := and_e nb18
  obtain ⟨na20, nb20⟩ := and_e nb19
  obtain ⟨na21, nb21⟩ := and_e nb20
  obtain ⟨na22, nb22⟩ := and_e nb21
  obtain ⟨na23, nb23⟩ := and_e nb22
  obtain ⟨na24, nb24⟩ := and_e nb23
  obtain ⟨na25, nb25⟩ := and_e nb24
  obtain ⟨na26, nb26⟩ := and_e nb25
  obtain ⟨na27, nb27⟩ := and_e nb26
  obtain ⟨na28, nb28⟩ := and_e nb27
  obtain ⟨na29, nb29⟩ := and_e nb28
  obtain ⟨na30, nb30⟩ := and_e nb29
  obtain ⟨na31, nb31⟩ := and_e nb30
  obtain ⟨na32, nb32⟩ := and_e nb31
  obtain ⟨na33, nb33⟩ := and_e nb32
  obtain ⟨na34, nb34⟩ := and_e nb33
  obtain ⟨na35, nb35⟩ := and_e nb34
  obtain ⟨na36, nb36⟩ := and_e nb35
  obtain ⟨na37, nb37⟩ := and_e nb36
  obtain ⟨na38, nb38⟩ := and_e nb37
  obtain ⟨na39, nb39⟩ := and_e nb38
  obtain ⟨na40, nb40⟩ := and_e nb39
  obtain ⟨na41, nb41⟩ := and_e nb40
  obtain ⟨na42, nb42⟩ := and_e nb41
  obtain ⟨na43, nb43⟩ := and_e nb42
  obtain ⟨k0, e_k0⟩ := exa_v na1
  have S_k0 : Sta s s.heap "com/example/guarded_twins/guardedtwins/model/Expression$Operator" "CONSTANT" "Lcom/example/guarded_twins/guardedtwins/model/Expression$Operator;" (.ref k0) := Sta.start e_k0 (Or.inr ⟨own_w hw 3 rfl, own_w hw 4 rfl⟩)
  have E_k0 := Exa.start e_k0 na1
  have F_k0 := own_fld na23 e_k0
  obtain ⟨k1, e_k1⟩ := exa_v na2
  have S_k1 : Sta s s.heap "com/example/guarded_twins/guardedtwins/model/Expression$Operator" "NAME" "Lcom/example/guarded_twins/guardedtwins/model/Expression$Operator;" (.ref k1) := Sta.start e_k1 (Or.inr ⟨own_w hw 3 rfl, own_w hw 7 rfl⟩)
  have E_k1 := Exa.start e_k1 na2
  have F_k1 := own_fld na31 e_k1
  obtain ⟨k2, e_k2⟩ := exa_v na3
  have S_k2 : Sta s s.heap "com/example/guarded_twins/guardedtwins/model/Expression$Operator" "NOT" "Lcom/example/guarded_twins/guardedtwins/model/Expression$Operator;" (.ref k2) := Sta.start e_k2 (Or.inr ⟨own_w hw 3 rfl, own_w hw 9 rfl⟩)
  have E_k2 := Exa.start e_k2 na3
  have F_k2 := own_fld na24 e_k2
  obtain ⟨k3, e_k3⟩ := exa_v na4
  have S_k3 : Sta s s.heap "com/example/guarded_twins/guardedtwins/model/Expression$Operator" "NEGATE" "Lcom/example/guarded_twins/guardedtwins/model/Expression$Operator;" (.ref k3) := Sta.start e_k3 (Or.inr ⟨own_w hw 3 rfl, own_w hw 11 rfl⟩)
  have E_k3 := Exa.start e_k3 na4
  have F_k3 := own_fld na25 e_k3
  obtain ⟨k4, e_k4⟩ := exa_v na5
  have S_k4 : Sta s s.heap "com/example/guarded_twins/guardedtwins/model/Expression$Operator" "TIMES" "Lcom/example/guarded_twins/guardedtwins/model/Expression$Operator;" (.ref k4) := Sta.start e_k4 (Or.inr ⟨own_w hw 3 rfl, own_w hw 13 rfl⟩)
  have E_k4 := Exa.start e_k4 na5
  have F_k4 := own_fld na26 e_k4
  obtain ⟨k5, e_k5⟩ := exa_v na6
  have S_k5 : Sta s s.heap "com/example/guarded_twins/guardedtwins/model/Expression$Operator" "DIVIDE" "Lcom/example/guarded_twins/guardedtwins/model/Expression$Operator;" (.ref k5) := Sta.start e_k5 (Or.inr ⟨own_w hw 3 rfl, own_w hw 15 rfl⟩)
  have E_k5 := Exa.start e_k5 na6
  have F_k5 := own_fld na33 e_k5
  obtain ⟨k6, e_k6⟩ := exa_v na7
  have S_k6 : Sta s s.heap "com/example/guarded_twins/guardedtwins/model/Expression$Operator" "MOD" "Lcom/example/guarded_twins/guardedtwins/model/Expression$Operator;" (.ref k6) := Sta.start e_k6 (Or.inr ⟨own_w hw 3 rfl, own_w hw 17 rfl⟩)
  have E_k6 := Exa.start e_k6 na7
  have F_k6 := own_fld na35 e_k6
  obtain ⟨k7, e_k7⟩ := exa_v na8
  have S_k7 : Sta s s.heap "com/example/guarded_twins/guardedtwins/model/Expression$Operator" "PLUS" "Lcom/example/guarded_twins/guardedtwins/model/Expression$Operator;" (.ref k7) := Sta.start e_k7 (Or.inr ⟨own_w hw 3 rfl, own_w hw 19 rfl⟩)
  have E_k7 := Exa.start e_k7 na8
  have F_k7 := own_fld na27 e_k7
  obtain ⟨k8, e_k8⟩ := exa_v na9
  have S_k8 : Sta s s.heap "com/example/guarded_twins/guardedtwins/model/Expression$Operator" "MINUS" "Lcom/example/guarded_twins/guardedtwins/model/Expression$Operator;" (.ref k8) := Sta.start e_k8 (Or.inr ⟨own_w hw 3 rfl, own_w hw 21 rfl⟩)
  have E_k8 := Exa.start e_k8 na9
  have F_k8 := own_fld na28 e_k8
  obtain ⟨k9, e_k9⟩ := exa_v na10
  have S_k9 : Sta s s.heap "com/example/guarded_twins/guardedtwins/model/Expression$Operator" "EQUAL" "Lcom/example/guarded_twins/guardedtwins/model/Expression$Operator;" (.ref k9) := Sta.start e_k9 (Or.inr ⟨own_w hw 3 rfl, own_w hw 23 rfl⟩)
  have E_k9 := Exa.start e_k9 na10
  have F_k9 := own_fld na32 e_k9
  obtain ⟨k10, e_k10⟩ := exa_v na11
  have S_k10 : Sta s s.heap "com/example/guarded_twins/guardedtwins/model/Expression$Operator" "NOT_EQUAL" "Lcom/example/guarded_twins/guardedtwins/model/Expression$Operator;" (.ref k10) := Sta.start e_k10 (Or.inr ⟨own_w hw 3 rfl, own_w hw 25 rfl⟩)
  have E_k10 := Exa.start e_k10 na11
  have F_k10 := own_fld na30 e_k10
  obtain ⟨k11, e_k11⟩ := exa_v na12
  have S_k11 : Sta s s.heap "com/example/guarded_twins/guardedtwins/model/Expression$Operator" "LESS" "Lcom/example/guarded_twins/guardedtwins/model/Expression$Operator;" (.ref k11) := Sta.start e_k11 (Or.inr ⟨own_w hw 3 rfl, own_w hw 27 rfl⟩)
  have E_k11 := Exa.start e_k11 na12
  have F_k11 := own_fld na29 e_k11
  obtain ⟨k12, e_k12⟩ := exa_v na13
  have S_k12 : Sta s s.heap "com/example/guarded_twins/guardedtwins/model/Expression$Operator" "LESS_EQUAL" "Lcom/example/guarded_twins/guardedtwins/model/Expression$Operator;" (.ref k12) := Sta.start e_k12 (Or.inr ⟨own_w hw 3 rfl, own_w hw 29 rfl⟩)
  have E_k12 := Exa.start e_k12 na13
  have F_k12 := own_fld na41 e_k12
  obtain ⟨k13, e_k13⟩ := exa_v na14
  have S_k13 : Sta s s.heap "com/example/guarded_twins/guardedtwins/model/Expression$Operator" "GREATER" "Lcom/example/guarded_twins/guardedtwins/model/Expression$Operator;" (.ref k13) := Sta.start e_k13 (Or.inr ⟨own_w hw 3 rfl, own_w hw 31 rfl⟩)
  have E_k13 := Exa.start e_k13 na14
  have F_k13 := own_fld na42 e_k13
  obtain ⟨k14, e_k14⟩ := exa_v na15
  have S_k14 : Sta s s.heap "com/example/guarded_twins/guardedtwins/model/Expression$Operator" "GREATER_EQUAL" "Lcom/example/guarded_twins/guardedtwins/model/Expression$Operator;" (.ref k14) := Sta.start e_k14 (Or.inr ⟨own_w hw 3 rfl, own_w hw 33 rfl⟩)
  have E_k14 := Exa.start e_k14 na15
  have F_k14 := own_fld na40 e_k14
  obtain ⟨k15, e_k15⟩ := exa_v na16
  have S_k15 : Sta s s.heap "com/example/guarded_twins/guardedtwins/model/Expression$Operator" "AND" "Lcom/example/guarded_twins/guardedtwins/model/Expression$Operator;" (.ref k15) := Sta.start e_k15 (Or.inr ⟨own_w hw 3 rfl, own_w hw 35 rfl⟩)
  have E_k15 := Exa.start e_k15 na16
  have F_k15 := own_fld na38 e_k15
  obtain ⟨k16, e_k16⟩ := exa_v na17
  have S_k16 : Sta s s.heap "com/example/guarded_twins/guardedtwins/model/Expression$Operator" "OR" "Lcom/example/guarded_twins/guardedtwins/model/Expression$Operator;" (.ref k16) := Sta.start e_k16 (Or.inr ⟨own_w hw 3 rfl, own_w hw 37 rfl⟩)
  have E_k16 := Exa.start e_k16 na17
  have F_k16 := own_fld na34 e_k16
  obtain ⟨k17, e_k17⟩ := exa_v na18
  have S_k17 : Sta s s.heap "com/example/guarded_twins/guardedtwins/model/Expression$Operator" "XOR" "Lcom/example/guarded_twins/guardedtwins/model/Expression$Operator;" (.ref k17) := Sta.start e_k17 (Or.inr ⟨own_w hw 3 rfl, own_w hw 39 rfl⟩)
  have E_k17 := Exa.start e_k17 na18
  have F_k17 := own_fld na43 e_k17
  obtain ⟨k18, e_k18⟩ := exa_v na19
  have S_k18 : Sta s s.heap "com/example/guarded_twins/guardedtwins/model/Expression$Operator" "IFF" "Lcom/example/guarded_twins/guardedtwins/model/Expression$Operator;" (.ref k18) := Sta.start e_k18 (Or.inr ⟨own_w hw 3 rfl, own_w hw 41 rfl⟩)
  have E_k18 := Exa.start e_k18 na19
  have F_k18 := own_fld na37 e_k18
  obtain ⟨k19, e_k19⟩ := exa_v na20
  have S_k19 : Sta s s.heap "com/example/guarded_twins/guardedtwins/model/Expression$Operator" "IMPLIES" "Lcom/example/guarded_twins/guardedtwins/model/Expression$Operator;" (.ref k19) := Sta.start e_k19 (Or.inr ⟨own_w hw 3 rfl, own_w hw 43 rfl⟩)
  have E_k19 := Exa.start e_k19 na20
  have F_k19 := own_fld na36 e_k19
  obtain ⟨k20, e_k20⟩ := exa_v na21
  have S_k20 : Sta s s.heap "com/example/guarded_twins/guardedtwins/model/Expression$Operator" "CASE" "Lcom/example/guarded_twins/guardedtwins/model/Expression$Operator;" (.ref k20) := Sta.start e_k20 (Or.inr ⟨own_w hw 3 rfl, own_w hw 45 rfl⟩)
  have E_k20 := Exa.start e_k20 na21
  have F_k20 := own_fld nb43 e_k20
  obtain ⟨k21, e_k21⟩ := exa_v na22
  have S_k21 : Sta s s.heap "com/example/guarded_twins/guardedtwins/model/Expression$Operator" "SET" "Lcom/example/guarded_twins/guardedtwins/model/Expression$Operator;" (.ref k21) := Sta.start e_k21 (Or.inr ⟨own_w hw 3 rfl, own_w hw 47 rfl⟩)
  have E_k21 := Exa.start e_k21 na22
  have F_k21 := own_fld na39 e_k21
  obtain ⟨n, o, h1, h2, h3, _, L, rfl, ⟨rfl, N⟩, hq⟩ := rm0 l s _ hw i0 k0 k1 k2 k3 k4 k5 k6 k7 k8 k9 k10 k11 k12 k13 k14 k15 k16 k17 k18 k19 k20 k21 s.heap s.heap.size (Nat.le_refl _) S_k0 S_k1 S_k2 S_k3 S_k4 S_k5 S_k6 S_k7 S_k8 S_k9 S_k10 S_k11 S_k12 S_k13 S_k14 S_k15 S_k16 S_k17 S_k18 S_k19 S_k20 S_k21 E_k0 F_k0 E_k1 F_k1 E_k2 F_k2 E_k3 F_k3 E_k4 F_k4 E_k5 F_k5 E_k6 F_k6 E_k7 F_k7 E_k8 F_k8 E_k9 F_k9 E_k10 F_k10 E_k11 F_k11 E_k12 F_k12 E_k13 F_k13 E_k14 F_k14 E_k15 F_k15 E_k16 F_k16 E_k17 F_k17 E_k18 F_k18 E_k19 F_k19 E_k20 F_k20 E_k21 F_k21 p e ha hc hk s m _ below hf ((Spec.applies_iff_loose hf).mp happ).1 ⟨rfl, State.Warmed39.refl s, rfl⟩ trivial
  refine ⟨n, _, h1, h2, h3, hpost _ _ _ _ _ _ ⟨Cond.after_iff.mpr rfl, Cond.after_iff.mpr (eq_i res_at (Term.int_eval (1)) rfl), trivial⟩ ⟨hq.1, hq.2.1, (hq.2.2.sift fun y hy => Or.inr (N y hy)).mono (by decide) (by decide)⟩⟩
theorem main_1_1 : Claimed_1_1 := comes_1 fun _ _ _ _ _ _ h hF => ⟨h.1, hF⟩
theorem main_1_2 : Claimed_1_2 := comes_1 fun _ _ _ _ _ _ h hF => ⟨h.2.1, hF⟩
end Jvm.Pilot.@@N@@
namespace Jvm.Pilot.@@N@@
open Jvm Jvm.ClassFile Sem Op Lib Jvm.Free Jvm.Stand Jvm.Pilot.@@N@@.Jvm.D
/-! MADE BY PROGRAM (witnessworld.py) out of the Statement's table words and the real class files: 13 classes; the members and pool entries that the words name. The judged class is class 1, her method 1. -/
namespace start1
open Jvm.ClassFile
def u (s : String) : CpInfo := .utf8 (stringToUtf16 s)
/-- a pool by its gaps: so many unusable entries, then the entry; so many at the end -/
def gap : Nat → List CpInfo → List CpInfo
  | 0, r => r
  | n + 1, r => .unusable :: gap n r
def poolList (es : List (Nat × CpInfo)) (last : Nat) : List CpInfo := es.foldr (fun e r => gap e.1 (e.2 :: r)) (gap last [])
def pool (es : List (Nat × CpInfo)) (last : Nat) : Array CpInfo := ⟨poolList es last⟩
def fileOf (pool : Array CpInfo) (this : Nat) (attrs : Array Attribute := #[]) (ms : Array MethodInfo := #[]) (fl : Nat := 33) (sup : Nat := 0) (ifs : Array Nat := #[]) (fds : Array FieldInfo := #[]) : ClassFile where
  minorVersion := 0
  majorVersion := 65
  constantPool := pool
  accessFlags := fl
  thisClass := this
  superClass := sup
  interfaces := ifs
  fields := fds
  methods := ms
  attributes := attrs
def plain (name : String) (sup : Option ClassId) : Class where
  name := name
  kind := .ordinary
  loader := none
  accessFlags := 33
  super := sup
  interfaces := #[]
  cf := none
  fields := #[]
  methods := #[]
  instanceTypes := #[]
  staticTypes := #[]
  resolved := #[]
  callSites := []
  init := .initialized
  statics := none
  mirror := none

def pool0 : Array CpInfo := pool [(5, u "<init>"), (0, u "()V"), (1, .class_ 10), (1, u "java/lang/Object")] 113

def k0m0 : Method := { name := "<init>", desc := "()V", sig := { parameters := [], returnType := none }, accessFlags := 1, code := none }
/-- java/lang/Object -/
def k0 : Class := { plain "java/lang/Object" none with
  accessFlags := 33
  interfaces := #[]
  cf := some (fileOf pool0 8 #[] #[{ accessFlags := 1, nameIndex := 5, descriptorIndex := 6, attributes := #[] }] 33 0 #[] #[])
  fields := #[]
  methods := #[k0m0]
  instanceTypes := #[]
  staticTypes := #[]
  resolved := Array.replicate 124 none
  statics := none }

def pool1 : Array CpInfo := pool [(2, .class_ 4), (1, u "java/lang/Object"), (0, u "<init>"), (0, u "()V"), (0, .class_ 8), (0, u "com/example/guarded_twins/guardedtwins/model/Expression$Operator"), (0, .fieldref 7 10), (0, .nameAndType 11 12), (0, u "CONSTANT"), (0, u "Lcom/example/guarded_twins/guardedtwins/model/Expression$Operator;"), (0, .fieldref 7 14), (0, .nameAndType 15 12), (0, u "NAME"), (0, .fieldref 7 17), (0, .nameAndType 18 12), (0, u "NOT"), (0, .fieldref 7 20), (0, .nameAndType 21 12), (0, u "NEGATE"), (0, .fieldref 7 23), (0, .nameAndType 24 12), (0, u "TIMES"), (0, .fieldref 7 26), (0, .nameAndType 27 12), (0, u "DIVIDE"), (0, .fieldref 7 29), (0, .nameAndType 30 12), (0, u "MOD"), (0, .fieldref 7 32), (0, .nameAndType 33 12), (0, u "PLUS"), (0, .fieldref 7 35), (0, .nameAndType 36 12), (0, u "MINUS"), (0, .fieldref 7 38), (0, .nameAndType 39 12), (0, u "EQUAL"), (0, .fieldref 7 41), (0, .nameAndType 42 12), (0, u "NOT_EQUAL"), (0, .fieldref 7 44), (0, .nameAndType 45 12), (0, u "LESS"), (0, .fieldref 7 47), (0, .nameAndType 48 12), (0, u "LESS_EQUAL"), (0, .fieldref 7 50), (0, .nameAndType 51 12), (0, u "GREATER"), (0, .fieldref 7 53), (0, .nameAndType 54 12), (0, u "GREATER_EQUAL"), (0, .fieldref 7 56), (0, .nameAndType 57 12), (0, u "AND"), (0, .fieldref 7 59), (0, .nameAndType 60 12), (0, u "OR"), (0, .fieldref 7 62), (0, .nameAndType 63 12), (0, u "XOR"), (0, .fieldref 7 65), (0, .nameAndType 66 12), (0, u "IFF"), (0, .fieldref 7 68), (0, .nameAndType 69 12), (0, u "IMPLIES"), (0, .fieldref 7 71), (0, .nameAndType 72 12), (0, u "CASE"), (0, .fieldref 7 74), (0, .nameAndType 75 12), (0, u "SET"), (0, .integer 2147483647), (0, .methodref 7 78), (0, .nameAndType 79 80), (0, u "isUnary"), (0, u "()Z"), (0, .methodref 7 82), (0, .nameAndType 83 80), (0, u "isBinary"), (0, .class_ 85), (0, u "com/example/guarded_twins/guardedtwins/model/OperatorIsUnaryPinLaw"), (2, u "law"), (0, u "(I)Z")] 9

def k1m0 : Method := { name := "<init>", desc := "()V", sig := { parameters := [], returnType := none }, accessFlags := 1, code := none }
def k1c1 : Code := { maxStack := 4, maxLocals := 6, code := code, exceptionTable := #[], attributes := #[] }
def k1m1 : Method := { name := "law", desc := "(I)Z", sig := { parameters := [.int], returnType := some .boolean }, accessFlags := 9, code := some k1c1 }
/-- com/example/guarded_twins/guardedtwins/model/OperatorIsUnaryPinLaw -/
def k1 : Class := { plain "com/example/guarded_twins/guardedtwins/model/OperatorIsUnaryPinLaw" (some 0) with
  accessFlags := 49
  interfaces := #[]
  cf := some (fileOf pool1 84 #[] #[{ accessFlags := 1, nameIndex := 5, descriptorIndex := 6, attributes := #[] }, { accessFlags := 9, nameIndex := 88, descriptorIndex := 89, attributes := #[] }] 49 2 #[] #[])
  fields := #[]
  methods := #[k1m0, k1m1]
  instanceTypes := #[]
  staticTypes := #[]
  resolved := Array.replicate 99 none
  statics := none }

def pool2 : Array CpInfo := pool [(1, .class_ 2), (0, u "java/lang/constant/Constable"), (0, .class_ 4), (0, u "java/lang/Object")] 6

/-- java/lang/constant/Constable -/
def k2 : Class := { plain "java/lang/constant/Constable" (some 0) with
  accessFlags := 1537
  interfaces := #[]
  cf := some (fileOf pool2 1 #[] #[] 1537 3 #[] #[])
  fields := #[]
  methods := #[]
  instanceTypes := #[]
  staticTypes := #[]
  resolved := Array.replicate 11 none
  statics := none }

def pool3 : Array CpInfo := pool [(1, .class_ 2), (0, u "java/lang/Comparable"), (0, .class_ 4), (0, u "java/lang/Object")] 7

/-- java/lang/Comparable -/
def k3 : Class := { plain "java/lang/Comparable" (some 0) with
  accessFlags := 1537
  interfaces := #[]
  cf := some (fileOf pool3 1 #[] #[] 1537 3 #[] #[])
  fields := #[]
  methods := #[]
  instanceTypes := #[]
  staticTypes := #[]
  resolved := Array.replicate 12 none
  statics := none }

def pool4 : Array CpInfo := pool [(1, .class_ 2), (0, u "java/io/Serializable"), (0, .class_ 4), (0, u "java/lang/Object")] 2

/-- java/io/Serializable -/
def k4 : Class := { plain "java/io/Serializable" (some 0) with
  accessFlags := 1537
  interfaces := #[]
  cf := some (fileOf pool4 1 #[] #[] 1537 3 #[] #[])
  fields := #[]
  methods := #[]
  instanceTypes := #[]
  staticTypes := #[]
  resolved := Array.replicate 7 none
  statics := none }

def pool5 : Array CpInfo := pool [(2, .class_ 4), (1, u "java/lang/Enum"), (0, u "name"), (0, u "Ljava/lang/String;"), (0, .fieldref 2 8), (0, .nameAndType 9 10), (0, u "ordinal"), (0, u "I"), (1, .class_ 14), (1, u "java/lang/Object"), (4, u "hash"), (86, .class_ 108), (1, u "java/lang/Enum$EnumDesc"), (2, .class_ 112), (0, u "java/lang/constant/Constable"), (0, .class_ 114), (0, u "java/lang/Comparable"), (0, .class_ 116), (0, u "java/io/Serializable"), (9, u "()I")] 77

def k5c0 : Code := { maxStack := 1, maxLocals := 1, code := jdk_37_method_2_code, exceptionTable := #[], attributes := #[] }
def k5m0 : Method := { name := "ordinal", desc := "()I", sig := { parameters := [], returnType := some .int }, accessFlags := 17, code := some k5c0 }
/-- java/lang/Enum -/
def k5 : Class := { plain "java/lang/Enum" (some 0) with
  accessFlags := 1057
  interfaces := #[2, 3, 4]
  cf := some (fileOf pool5 2 #[.nestMembers #[106]] #[{ accessFlags := 17, nameIndex := 9, descriptorIndex := 126, attributes := #[] }] 1057 12 #[111, 113, 115] #[{ accessFlags := 18, nameIndex := 5, descriptorIndex := 6, attributes := #[] }, { accessFlags := 18, nameIndex := 9, descriptorIndex := 10, attributes := #[] }, { accessFlags := 2, nameIndex := 19, descriptorIndex := 10, attributes := #[] }])
  fields := #[{ name := "name", type := (.object "java/lang/String"), accessFlags := 18, slot := 0, constantValue := 0 }, { name := "ordinal", type := .int, accessFlags := 18, slot := 1, constantValue := 0 }, { name := "hash", type := .int, accessFlags := 2, slot := 2, constantValue := 0 }]
  methods := #[k5m0]
  instanceTypes := #[(.object "java/lang/String"), .int, .int]
  staticTypes := #[]
  resolved := Array.replicate 204 none
  statics := none }

def pool6 : Array CpInfo := pool [(1, .class_ 2), (0, u "com/example/guarded_twins/guardedtwins/model/Expression$Operator"), (2, u "CONSTANT"), (0, u "Lcom/example/guarded_twins/guardedtwins/model/Expression$Operator;"), (2, u "NAME"), (0, .fieldref 1 11), (0, .nameAndType 12 6), (0, u "NOT"), (0, .fieldref 1 14), (0, .nameAndType 15 6), (0, u "NEGATE"), (0, .fieldref 1 17), (0, .nameAndType 18 6), (0, u "TIMES"), (2, u "DIVIDE"), (2, u "MOD"), (2, u "PLUS"), (2, u "MINUS"), (2, u "EQUAL"), (2, u "NOT_EQUAL"), (2, u "LESS"), (2, u "LESS_EQUAL"), (2, u "GREATER"), (2, u "GREATER_EQUAL"), (2, u "AND"), (2, u "OR"), (2, u "XOR"), (2, u "IFF"), (2, u "IMPLIES"), (2, u "CASE"), (2, u "SET"), (2, u "$VALUES"), (0, u "[Lcom/example/guarded_twins/guardedtwins/model/Expression$Operator;"), (6, .class_ 82), (1, u "java/lang/Enum"), (8, u "symbol"), (0, u "Ljava/lang/String;"), (0, .methodref 1 94), (0, .nameAndType 95 96), (0, u "ordinal"), (0, u "()I"), (77, u "isUnary"), (0, u "()Z"), (1, u "isBinary"), (6, .class_ 185), (0, u "com/example/guarded_twins/guardedtwins/model/Expression")] 2

def k6c0 : Code := { maxStack := 2, maxLocals := 1, code := prog_50_method_5_code, exceptionTable := #[], attributes := #[] }
def k6m0 : Method := { name := "isUnary", desc := "()Z", sig := { parameters := [], returnType := some .boolean }, accessFlags := 1, code := some k6c0 }
def k6c1 : Code := { maxStack := 2, maxLocals := 1, code := prog_50_method_6_code, exceptionTable := #[], attributes := #[] }
def k6m1 : Method := { name := "isBinary", desc := "()Z", sig := { parameters := [], returnType := some .boolean }, accessFlags := 1, code := some k6c1 }
/-- com/example/guarded_twins/guardedtwins/model/Expression$Operator -/
def k6 : Class := { plain "com/example/guarded_twins/guardedtwins/model/Expression$Operator" (some 5) with
  accessFlags := 16433
  interfaces := #[]
  cf := some (fileOf pool6 1 #[.nestHost 184] #[{ accessFlags := 1, nameIndex := 174, descriptorIndex := 175, attributes := #[] }, { accessFlags := 1, nameIndex := 177, descriptorIndex := 175, attributes := #[] }] 16433 80 #[] #[{ accessFlags := 16409, nameIndex := 5, descriptorIndex := 6, attributes := #[] }, { accessFlags := 16409, nameIndex := 9, descriptorIndex := 6, attributes := #[] }, { accessFlags := 16409, nameIndex := 12, descriptorIndex := 6, attributes := #[] }, { accessFlags := 16409, nameIndex := 15, descriptorIndex := 6, attributes := #[] }, { accessFlags := 16409, nameIndex := 18, descriptorIndex := 6, attributes := #[] }, { accessFlags := 16409, nameIndex := 21, descriptorIndex := 6, attributes := #[] }, { accessFlags := 16409, nameIndex := 24, descriptorIndex := 6, attributes := #[] }, { accessFlags := 16409, nameIndex := 27, descriptorIndex := 6, attributes := #[] }, { accessFlags := 16409, nameIndex := 30, descriptorIndex := 6, attributes := #[] }, { accessFlags := 16409, nameIndex := 33, descriptorIndex := 6, attributes := #[] }, { accessFlags := 16409, nameIndex := 36, descriptorIndex := 6, attributes := #[] }, { accessFlags := 16409, nameIndex := 39, descriptorIndex := 6, attributes := #[] }, { accessFlags := 16409, nameIndex := 42, descriptorIndex := 6, attributes := #[] }, { accessFlags := 16409, nameIndex := 45, descriptorIndex := 6, attributes := #[] }, { accessFlags := 16409, nameIndex := 48, descriptorIndex := 6, attributes := #[] }, { accessFlags := 16409, nameIndex := 51, descriptorIndex := 6, attributes := #[] }, { accessFlags := 16409, nameIndex := 54, descriptorIndex := 6, attributes := #[] }, { accessFlags := 16409, nameIndex := 57, descriptorIndex := 6, attributes := #[] }, { accessFlags := 16409, nameIndex := 60, descriptorIndex := 6, attributes := #[] }, { accessFlags := 16409, nameIndex := 63, descriptorIndex := 6, attributes := #[] }, { accessFlags := 16409, nameIndex := 66, descriptorIndex := 6, attributes := #[] }, { accessFlags := 16409, nameIndex := 69, descriptorIndex := 6, attributes := #[] }, { accessFlags := 18, nameIndex := 91, descriptorIndex := 92, attributes := #[] }, { accessFlags := 4122, nameIndex := 72, descriptorIndex := 73, attributes := #[] }])
  fields := #[{ name := "CONSTANT", type := (.object "com/example/guarded_twins/guardedtwins/model/Expression$Operator"), accessFlags := 16409, slot := 0, constantValue := 0 }, { name := "NAME", type := (.object "com/example/guarded_twins/guardedtwins/model/Expression$Operator"), accessFlags := 16409, slot := 1, constantValue := 0 }, { name := "NOT", type := (.object "com/example/guarded_twins/guardedtwins/model/Expression$Operator"), accessFlags := 16409, slot := 2, constantValue := 0 }, { name := "NEGATE", type := (.object "com/example/guarded_twins/guardedtwins/model/Expression$Operator"), accessFlags := 16409, slot := 3, constantValue := 0 }, { name := "TIMES", type := (.object "com/example/guarded_twins/guardedtwins/model/Expression$Operator"), accessFlags := 16409, slot := 4, constantValue := 0 }, { name := "DIVIDE", type := (.object "com/example/guarded_twins/guardedtwins/model/Expression$Operator"), accessFlags := 16409, slot := 5, constantValue := 0 }, { name := "MOD", type := (.object "com/example/guarded_twins/guardedtwins/model/Expression$Operator"), accessFlags := 16409, slot := 6, constantValue := 0 }, { name := "PLUS", type := (.object "com/example/guarded_twins/guardedtwins/model/Expression$Operator"), accessFlags := 16409, slot := 7, constantValue := 0 }, { name := "MINUS", type := (.object "com/example/guarded_twins/guardedtwins/model/Expression$Operator"), accessFlags := 16409, slot := 8, constantValue := 0 }, { name := "EQUAL", type := (.object "com/example/guarded_twins/guardedtwins/model/Expression$Operator"), accessFlags := 16409, slot := 9, constantValue := 0 }, { name := "NOT_EQUAL", type := (.object "com/example/guarded_twins/guardedtwins/model/Expression$Operator"), accessFlags := 16409, slot := 10, constantValue := 0 }, { name := "LESS", type := (.object "com/example/guarded_twins/guardedtwins/model/Expression$Operator"), accessFlags := 16409, slot := 11, constantValue := 0 }, { name := "LESS_EQUAL", type := (.object "com/example/guarded_twins/guardedtwins/model/Expression$Operator"), accessFlags := 16409, slot := 12, constantValue := 0 }, { name := "GREATER", type := (.object "com/example/guarded_twins/guardedtwins/model/Expression$Operator"), accessFlags := 16409, slot := 13, constantValue := 0 }, { name := "GREATER_EQUAL", type := (.object "com/example/guarded_twins/guardedtwins/model/Expression$Operator"), accessFlags := 16409, slot := 14, constantValue := 0 }, { name := "AND", type := (.object "com/example/guarded_twins/guardedtwins/model/Expression$Operator"), accessFlags := 16409, slot := 15, constantValue := 0 }, { name := "OR", type := (.object "com/example/guarded_twins/guardedtwins/model/Expression$Operator"), accessFlags := 16409, slot := 16, constantValue := 0 }, { name := "XOR", type := (.object "com/example/guarded_twins/guardedtwins/model/Expression$Operator"), accessFlags := 16409, slot := 17, constantValue := 0 }, { name := "IFF", type := (.object "com/example/guarded_twins/guardedtwins/model/Expression$Operator"), accessFlags := 16409, slot := 18, constantValue := 0 }, { name := "IMPLIES", type := (.object "com/example/guarded_twins/guardedtwins/model/Expression$Operator"), accessFlags := 16409, slot := 19, constantValue := 0 }, { name := "CASE", type := (.object "com/example/guarded_twins/guardedtwins/model/Expression$Operator"), accessFlags := 16409, slot := 20, constantValue := 0 }, { name := "SET", type := (.object "com/example/guarded_twins/guardedtwins/model/Expression$Operator"), accessFlags := 16409, slot := 21, constantValue := 0 }, { name := "symbol", type := (.object "java/lang/String"), accessFlags := 18, slot := 3, constantValue := 0 }, { name := "$VALUES", type := (.array (.object "com/example/guarded_twins/guardedtwins/model/Expression$Operator")), accessFlags := 4122, slot := 22, constantValue := 0 }]
  methods := #[k6m0, k6m1]
  instanceTypes := #[(.object "java/lang/String"), .int, .int, (.object "java/lang/String")]
  staticTypes := #[(.object "com/example/guarded_twins/guardedtwins/model/Expression$Operator"), (.object "com/example/guarded_twins/guardedtwins/model/Expression$Operator"), (.object "com/example/guarded_twins/guardedtwins/model/Expression$Operator"), (.object "com/example/guarded_twins/guardedtwins/model/Expression$Operator"), (.object "com/example/guarded_twins/guardedtwins/model/Expression$Operator"), (.object "com/example/guarded_twins/guardedtwins/model/Expression$Operator"), (.object "com/example/guarded_twins/guardedtwins/model/Expression$Operator"), (.object "com/example/guarded_twins/guardedtwins/model/Expression$Operator"), (.object "com/example/guarded_twins/guardedtwins/model/Expression$Operator"), (.object "com/example/guarded_twins/guardedtwins/model/Expression$Operator"), (.object "com/example/guarded_twins/guardedtwins/model/Expression$Operator"), (.object "com/example/guarded_twins/guardedtwins/model/Expression$Operator"), (.object "com/example/guarded_twins/guardedtwins/model/Expression$Operator"), (.object "com/example/guarded_twins/guardedtwins/model/Expression$Operator"), (.object "com/example/guarded_twins/guardedtwins/model/Expression$Operator"), (.object "com/example/guarded_twins/guardedtwins/model/Expression$Operator"), (.object "com/example/guarded_twins/guardedtwins/model/Expression$Operator"), (.object "com/example/guarded_twins/guardedtwins/model/Expression$Operator"), (.object "com/example/guarded_twins/guardedtwins/model/Expression$Operator"), (.object "com/example/guarded_twins/guardedtwins/model/Expression$Operator"), (.object "com/example/guarded_twins/guardedtwins/model/Expression$Operator"), (.object "com/example/guarded_twins/guardedtwins/model/Expression$Operator"), (.array (.object "com/example/guarded_twins/guardedtwins/model/Expression$Operator"))]
  resolved := Array.replicate 188 none
  statics := some 0 }

def pool7 : Array CpInfo := pool [(1, u "java/lang/Cloneable"), (0, .class_ 1), (0, u "java/lang/Object"), (0, .class_ 3)] 3

/-- java/lang/Cloneable -/
def k7 : Class := { plain "java/lang/Cloneable" (some 0) with
  accessFlags := 1537
  interfaces := #[]
  cf := some (fileOf pool7 2 #[] #[] 1537 4 #[] #[])
  fields := #[]
  methods := #[]
  instanceTypes := #[]
  staticTypes := #[]
  resolved := Array.replicate 8 none
  statics := none }

/-- the primitive byte -/
def k8 : Class := { plain "byte" none with kind := .primitive 'B', accessFlags := 0x411 }
/-- [B -/
def k9 : Class := { plain "[B" (some 0) with kind := .array 8 .byte, interfaces := #[7, 4], accessFlags := 1041 }

/-- the primitive int -/
def k10 : Class := { plain "int" none with kind := .primitive 'I', accessFlags := 0x411 }
/-- [I -/
def k11 : Class := { plain "[I" (some 0) with kind := .array 10 .int, interfaces := #[7, 4], accessFlags := 1041 }

/-- [Lcom/example/guarded_twins/guardedtwins/model/Expression$Operator; -/
def k12 : Class := { plain "[Lcom/example/guarded_twins/guardedtwins/model/Expression$Operator;" (some 0) with kind := .array 6 (.object "com/example/guarded_twins/guardedtwins/model/Expression$Operator"), interfaces := #[7, 4], accessFlags := 1041 }

def heap : Heap := #[{ cls := 6, slots := #[.ref 1, .ref 2, .ref 3, .ref 4, .ref 5, .ref 6, .ref 7, .ref 8, .ref 9, .ref 10, .ref 11, .ref 12, .ref 13, .ref 14, .ref 15, .ref 16, .ref 17, .ref 18, .ref 19, .ref 20, .ref 21, .ref 22, .null], vm := .statics 6 },
  { cls := 6, slots := #[.null, .int 0, .int 0, .null], vm := .none },
  { cls := 6, slots := #[.null, .int 1, .int 0, .null], vm := .none },
  { cls := 6, slots := #[.null, .int 2, .int 0, .null], vm := .none },
  { cls := 6, slots := #[.null, .int 3, .int 0, .null], vm := .none },
  { cls := 6, slots := #[.null, .int 4, .int 0, .null], vm := .none },
  { cls := 6, slots := #[.null, .int 5, .int 0, .null], vm := .none },
  { cls := 6, slots := #[.null, .int 6, .int 0, .null], vm := .none },
  { cls := 6, slots := #[.null, .int 7, .int 0, .null], vm := .none },
  { cls := 6, slots := #[.null, .int 8, .int 0, .null], vm := .none },
  { cls := 6, slots := #[.null, .int 9, .int 0, .null], vm := .none },
  { cls := 6, slots := #[.null, .int 10, .int 0, .null], vm := .none },
  { cls := 6, slots := #[.null, .int 11, .int 0, .null], vm := .none },
  { cls := 6, slots := #[.null, .int 12, .int 0, .null], vm := .none },
  { cls := 6, slots := #[.null, .int 13, .int 0, .null], vm := .none },
  { cls := 6, slots := #[.null, .int 14, .int 0, .null], vm := .none },
  { cls := 6, slots := #[.null, .int 15, .int 0, .null], vm := .none },
  { cls := 6, slots := #[.null, .int 16, .int 0, .null], vm := .none },
  { cls := 6, slots := #[.null, .int 17, .int 0, .null], vm := .none },
  { cls := 6, slots := #[.null, .int 18, .int 0, .null], vm := .none },
  { cls := 6, slots := #[.null, .int 19, .int 0, .null], vm := .none },
  { cls := 6, slots := #[.null, .int 20, .int 0, .null], vm := .none },
  { cls := 6, slots := #[.null, .int 21, .int 0, .null], vm := .none }]
def classes : Array Class := #[k0, k1, k2, k3, k4, k5, k6, k7, k8, k9, k10, k11, k12]
def interned : List (Array UInt16 × Addr) := []
def slotsUsed : Nat := 111
def theMethod : MethodId := ⟨1, 1⟩
def args0 : Array Value := #[.int 5]
def aboutOver (below : List Frame) : State where
  vm := { classes := classes, interned := interned.toArray }
  heap := heap
  slotsUsed := slotsUsed
  threads := #[{ frames := .invoking theMethod args0 :: below }]
def below0 : List Frame := [.native { method := ⟨0, 0⟩, args := #[] }]
def about1 : State := aboutOver below0
def p0 : Program := .bare "" "" ""
def e0 : Env := launch0.env 0 0 0
theorem w_frames : about1.frames = Frame.invoking theMethod args0 :: below0 := rfl
set_option maxRecDepth 65536 in
theorem w_args : argsFit about1.vm theMethod args0 = true := by decide +kernel
set_option maxRecDepth 65536 in
theorem w_heap : heapFits about1 = true := by decide +kernel
set_option maxRecDepth 65536 in
theorem w_runnable : about1.curStatus? = some .runnable := by decide +kernel
set_option maxRecDepth 65536 in
theorem w_alone : about1.alone = true := by decide +kernel
set_option maxRecDepth 65536 in
theorem w_named : about1.methodNamed? x = some theMethod := by decide +kernel
set_option maxRecDepth 65536 in
theorem w_hears : about1.hears theMethod below0 = true := by decide +kernel
set_option maxRecDepth 65536 in
theorem w_ripe : about1.ripe theMethod args0 below0 = true := by decide +kernel
theorem w_running : about1.status = .running := rfl
set_option maxRecDepth 65536 in
theorem w_room : about1.hasRoom e0.platform room_1 = true :=
  launch0.hasRoom_least _ room_1 (by decide +kernel) (by decide +kernel) (by decide +kernel) (by decide +kernel) (by decide +kernel) (by decide +kernel)
theorem allAtoms_all (ts : List Jvm.Cond) (a : Array Jvm.Value) (st : Jvm.State) : (allAtoms ts).before a st = ts.all (fun c => c.before a st) := by
  induction ts with
  | nil => rfl
  | cons c t ih =>
    show (Jvm.Cond.and c (allAtoms t)).before a st = _
    rw [Jvm.Cond.before_and, ih, List.all_cons]
def words1 : List Jvm.Cond := Jvm.Cond.code x code maxLocals ret :: tables_1
/-- a 'code' word, met by the world's own term for the bytes: nothing is compared byte by byte -/
theorem code_word {y : MethodName} {bytes : ByteArray} {mx : Nat} {rt : Option FieldType} {a : Array Value} {s : State} {m : MethodId} {meth : Method} {c : Code} (h1 : s.methodNamed? y = some m) (h2 : s.vm.method? m = some meth) (h3 : meth.code = some c) (h4 : c.code = bytes)
    (h5 : (c.maxLocals == mx && c.exceptionTable.isEmpty && decide (c.maxStack ≤ mostOperands) && decide (meth.sig.returnType = rt) && !meth.locks && decide (parseMethodDescriptor y.desc = some meth.sig)) = true) : (Jvm.Cond.code y bytes mx rt).before a s = true := by
  simp only [Bool.and_eq_true, beq_iff_eq, Bool.not_eq_true', decide_eq_true_eq] at h5
  obtain ⟨⟨⟨⟨⟨g1, g2⟩, g3⟩, g4⟩, g5⟩, g6⟩ := h5
  simp [Cond.before, Cond.holds, Cond.value, h1, h2, h3, h4, g1, g2, g3, g4, g5, g6]
def isCode : Jvm.Cond → Bool
  | .code _ _ _ _ => true
  | _ => false
theorem all_split {L : List Jvm.Cond} {P : Jvm.Cond → Bool} (h1 : L.all (fun c => isCode c || P c) = true) (h2 : ∀ c ∈ L.filter isCode, P c = true) : L.all P = true := by
  refine List.all_eq_true.mpr fun c hc => ?_
  have h := List.all_eq_true.mp h1 c hc
  rcases Bool.eq_false_or_eq_true (isCode c) with hi | hi
  · exact h2 c (List.mem_filter.mpr ⟨hc, hi⟩)
  · simpa [hi] using h
set_option maxRecDepth 65536 in
theorem w_c0 : (Jvm.Cond.code x code maxLocals ret).before args0 about1 = true := code_word (m := ⟨1, 1⟩) (meth := k1m1) (c := k1c1) (by decide +kernel) rfl rfl rfl (by decide +kernel)
set_option maxRecDepth 65536 in
theorem w_c1 : (Jvm.Cond.code ({ cls := "com/example/guarded_twins/guardedtwins/model/Expression$Operator", name := "isUnary", desc := "()Z" } : Jvm.MethodName) prog_50_method_5_code (1 : Nat) (Option.some Jvm.ClassFile.FieldType.boolean)).before args0 about1 = true := code_word (m := ⟨6, 0⟩) (meth := k6m0) (c := k6c0) (by decide +kernel) rfl rfl rfl (by decide +kernel)
set_option maxRecDepth 65536 in
theorem w_c2 : (Jvm.Cond.code ({ cls := "com/example/guarded_twins/guardedtwins/model/Expression$Operator", name := "isBinary", desc := "()Z" } : Jvm.MethodName) prog_50_method_6_code (1 : Nat) (Option.some Jvm.ClassFile.FieldType.boolean)).before args0 about1 = true := code_word (m := ⟨6, 1⟩) (meth := k6m1) (c := k6c1) (by decide +kernel) rfl rfl rfl (by decide +kernel)
set_option maxRecDepth 65536 in
theorem w_c3 : (Jvm.Cond.code ({ cls := "java/lang/Enum", name := "ordinal", desc := "()I" } : Jvm.MethodName) jdk_37_method_2_code (1 : Nat) (Option.some Jvm.ClassFile.FieldType.int)).before args0 about1 = true := code_word (m := ⟨5, 0⟩) (meth := k5m0) (c := k5c0) (by decide +kernel) rfl rfl rfl (by decide +kernel)
def codes1 : List Jvm.Cond := [Jvm.Cond.code x code maxLocals ret, Jvm.Cond.code ({ cls := "com/example/guarded_twins/guardedtwins/model/Expression$Operator", name := "isUnary", desc := "()Z" } : Jvm.MethodName) prog_50_method_5_code (1 : Nat) (Option.some Jvm.ClassFile.FieldType.boolean), Jvm.Cond.code ({ cls := "com/example/guarded_twins/guardedtwins/model/Expression$Operator", name := "isBinary", desc := "()Z" } : Jvm.MethodName) prog_50_method_6_code (1 : Nat) (Option.some Jvm.ClassFile.FieldType.boolean), Jvm.Cond.code ({ cls := "java/lang/Enum", name := "ordinal", desc := "()I" } : Jvm.MethodName) jdk_37_method_2_code (1 : Nat) (Option.some Jvm.ClassFile.FieldType.int)]
set_option maxRecDepth 65536 in
theorem codes_eq : words1.filter isCode = codes1 := rfl
theorem w_codes : ∀ c ∈ words1.filter isCode, c.before args0 about1 = true := by
  rw [codes_eq]
  intro c hc
  simp only [codes1, List.mem_cons, List.not_mem_nil, or_false] at hc
  rcases hc with rfl | rfl | rfl | rfl
  · exact w_c0
  · exact w_c1
  · exact w_c2
  · exact w_c3
set_option maxRecDepth 65536 in
theorem w_t1 : (words1.take 24).all (fun c => isCode c || c.before args0 about1) = true := by decide +kernel
set_option maxRecDepth 65536 in
theorem w_t2 : ((words1.drop 24).take 24).all (fun c => isCode c || c.before args0 about1) = true := by decide +kernel
set_option maxRecDepth 65536 in
theorem w_t3 : ((words1.drop 24).drop 24).all (fun c => isCode c || c.before args0 about1) = true := by decide +kernel
theorem w_tables : (allAtoms (Jvm.Cond.code x code maxLocals ret :: tables_1)).before args0 about1 = true := by
  rw [allAtoms_all]
  show words1.all (fun c => c.before args0 about1) = true
  refine all_split ?_ w_codes
  rw [← List.take_append_drop 24 words1, List.all_append, w_t1, ← List.take_append_drop 24 (words1.drop 24), List.all_append, w_t2, w_t3]
  rfl
set_option maxRecDepth 65536 in
theorem w_case : (Jvm.Cond.and given_1 narrow_1).before args0 about1 = true := by decide +kernel
theorem w_applies : (headSpec (Jvm.Cond.code x code maxLocals ret :: tables_1) room_1).applies x e0.platform about1 = true :=
  (Spec.applies_iff w_frames).mpr ⟨w_running, w_runnable, w_alone, w_named, w_hears, w_ripe, w_room, w_tables⟩
theorem atStart : AtStart classFile x code maxLocals ret World_1 tables_1 room_1 Calls_1 rest_1 Pre_1 launch0 p0 e0 about1 theMethod args0 below0 :=
  ⟨lists_1, trivial, launch0.admits_env _ _ _, launch0.least_env, fairChoices_fair.cas, fairChoices_fair.clock, w_frames, w_args, w_heap, w_applies, trivial, trivial, w_case⟩
end start1
theorem witness_1 : WitnessClaimed_1 := ⟨start1.p0, start1.e0, start1.about1, start1.theMethod, start1.args0, start1.below0, start1.atStart⟩
end Jvm.Pilot.@@N@@
