import JvmDerived
import JvmDerived.Pilot.@@N@@Statement
import JvmDerived.Pilot.@@N@@Code
set_option linter.unusedVariables false
set_option linter.unusedSimpArgs false
namespace Jvm.Pilot.@@N@@
open Jvm Jvm.ClassFile Sem Op Lib Jvm.Free Jvm.Stand Jvm.LawKit Jvm.RoadKit Bundle Jvm.Pilot.@@N@@.Jvm.D
section OwnKit
variable {p : Program} {l : Launch} {e : Env} {R : Room} {s : State} {m : MethodId} {args : Array Value} {below : List Frame} {meth : Method} {c : Code} {T : State} {locs : List Loc} {cells slots : Nat} {Z : State} {a0 : Array Value} {h : Heap} {pc : Nat} {Ls : Array Slot} {S : List Value} {Q : Option Value → Heap → List Loc → Prop} {K J : Nat} {Fn : Outcome → State → List Loc → Prop}
/-- from here the body comes to its return, and then Q holds -/
def Go (p : Program) (e : Env) (below : List Frame) (Fn : Outcome → State → List Loc → Prop) (Q : Option Value → Heap → List Loc → Prop) (T : State) (g : JFrame) : Prop :=
  ∃ s₂ o, Steps p.tables e below (T.setTop g) s₂ ∧ s₂.status = .running ∧ Ended s₂ below o ∧ ∃ v L, o = .returned v ∧ Q v s₂.heap L ∧ Fn o s₂ L
theorem Go.st {T' : State} {g g' : JFrame} (st : ∀ t, Steps p.tables e below (T'.setTop g') t → Steps p.tables e below (T.setTop g) t) (k : Go p e below Fn Q T' g') : Go p e below Fn Q T g := by
  obtain ⟨s2, o, h1, h2⟩ := k
  exact ⟨s2, o, st _ h1, h2⟩
theorem own_w {d : Jvm.Cond} (hw : ∀ d ∈ tables_1, d.before a0 Z = true) (i : Nat) (h : tables_1[i]? = some d) : d.before a0 Z = true := hw _ (List.mem_of_getElem? h)
/-- a body's contract, at the heap h0 -/
def OwnMet (l : Launch) (Z : State) (y : MethodName) (bytes : ByteArray) (maxL : Nat) (ret : Option FieldType) (ws : List Jvm.Cond) (rm : Room) (as' : List Value) (h0 : Heap) (Qc : Option Value → Heap → List Loc → Prop) : Prop :=
  MetFree l y (head1 (Jvm.Cond.code y bytes maxL ret :: ws) rm) (fun a U => a = as'.toArray ∧ Z.Warmed39 U.vm ∧ U.heap = h0) (fun _ _ _ _ _ => True) (fun _ U o U' => ∃ v L, o = .returned v ∧ Qc v U'.heap L ∧ FrameEnd U o U' L rm.cells rm.slots)
theorem own_body {y : MethodName} {bytes : ByteArray} {maxL : Nat} {ret : Option FieldType} {ws : List Jvm.Cond} {rm : Room} {as' : List Value} {h0 : Heap} {Qc : Option Value → Heap → List Loc → Prop} {Ls : Array Slot} (hpl : plainFor y = true) (hef : ∀ m, entryFrame m as'.toArray maxL = mkF m 0 Ls [])
    (k : ∀ (p : Program) (e : Env) (s : State) (m : MethodId) (below : List Frame) (meth : Method) (c : Code) (T : State), p.tables.exec = Jvm.exec → c.code = bytes → c.maxLocals = maxL → s.vm.findClass y.cls = some m.cls → meth.name = y.name → meth.sig.returnType = ret → meth.locks = false → Z.Warmed39 s.vm → Stand p l e rm s m as'.toArray below meth c T [] 0 0 → T.heap = h0 → Go p e below (fun o t L => FrameEnd s o t L rm.cells rm.slots) Qc T (mkF m 0 Ls [])) : OwnMet l Z y bytes maxL ret ws rm as' h0 Qc := by
  refine MetFree.of_bodySF hpl hisR ?_
  intro p e s m args below meth c s₁ Bd hml0 hP hK
  obtain ⟨rfl, hZ, hh⟩ := hP
  have e0 : s₁.heap = h0 := by rw [← hh, Bd.state]; rfl
  have g := k p e s m below meth c s₁ Bd.exec Bd.bytes hml0 (findClass_of_methodNamed Bd.named) (name_of_methodNamed Bd.named Bd.method).1 Bd.returns (BodyLoose.notSynchronized Bd) hZ (Stand.of_body Bd) e0
  rw [hef]
  exact g
theorem Go.mono {Q' : Option Value → Heap → List Loc → Prop} {g : JFrame} (k : Go p e below Fn Q' T g) (hq : ∀ v h L, Q' v h L → Q v h L) : Go p e below Fn Q T g := by
  obtain ⟨s2, o, h1, h2, h3, v, L, h4, h5, h6⟩ := k
  exact ⟨s2, o, h1, h2, h3, v, L, h4, hq _ _ _ h5, h6⟩

theorem g_iloadN (X : Stand p l e R s m args below meth c T locs cells slots) (hx : p.tables.exec = Jvm.exec) (q : Nat) {k : Fin 4} {v : Int32} (hd : decode c.code pc = .ok (.iload_n k, 1)) (hl : Ls[k.val]? = some (.val (.int v))) (hq : pc + 1 = q) (k : Go p e below Fn Q T (mkF m q Ls (.int v :: S))) : Go p e below Fn Q T (mkF m pc Ls (S)) := by
  subst hq; exact k.st fun _ z => XS.iloadN X.here hx rfl hd hl z
theorem g_iload (X : Stand p l e R s m args below meth c T locs cells slots) (hx : p.tables.exec = Jvm.exec) (q : Nat) {k : Nat} {v : Int32} (hd : decode c.code pc = .ok (.iload k, 2)) (hl : Ls[k]? = some (.val (.int v))) (hq : pc + 2 = q) (k : Go p e below Fn Q T (mkF m q Ls (.int v :: S))) : Go p e below Fn Q T (mkF m pc Ls (S)) := by
  subst hq; exact k.st fun _ z => XS.iload X.here hx rfl hd hl z
theorem g_istoreN (X : Stand p l e R s m args below meth c T locs cells slots) (hx : p.tables.exec = Jvm.exec) (q : Nat) {k : Fin 4} {v : Int32} (l' : Array Slot) (hd : decode c.code pc = .ok (.istore_n k, 1)) (hl : storeLocals Ls k.val (.int v) = some l') (hq : pc + 1 = q) (k : Go p e below Fn Q T (mkF m q l' (S))) : Go p e below Fn Q T (mkF m pc Ls (.int v :: S)) := by
  subst hq; exact k.st fun _ z => XS.istoreN X.here hx rfl hd rfl hl z
theorem g_istore (X : Stand p l e R s m args below meth c T locs cells slots) (hx : p.tables.exec = Jvm.exec) (q : Nat) {k : Nat} {v : Int32} (l' : Array Slot) (hd : decode c.code pc = .ok (.istore k, 2)) (hl : storeLocals Ls k (.int v) = some l') (hq : pc + 2 = q) (k : Go p e below Fn Q T (mkF m q l' (S))) : Go p e below Fn Q T (mkF m pc Ls (.int v :: S)) := by
  subst hq; exact k.st fun _ z => XS.istore X.here hx rfl hd rfl hl z
theorem g_lloadN (X : Stand p l e R s m args below meth c T locs cells slots) (hx : p.tables.exec = Jvm.exec) (q : Nat) {k : Fin 4} {v : Int64} (hd : decode c.code pc = .ok (.lload_n k, 1)) (hl : Ls[k.val]? = some (.val (.long v))) (hq : pc + 1 = q) (k : Go p e below Fn Q T (mkF m q Ls (.long v :: S))) : Go p e below Fn Q T (mkF m pc Ls (S)) := by
  subst hq; exact k.st fun _ z => XS.lloadN X.here hx rfl hd hl z
theorem g_lload (X : Stand p l e R s m args below meth c T locs cells slots) (hx : p.tables.exec = Jvm.exec) (q : Nat) {k : Nat} {v : Int64} (hd : decode c.code pc = .ok (.lload k, 2)) (hl : Ls[k]? = some (.val (.long v))) (hq : pc + 2 = q) (k : Go p e below Fn Q T (mkF m q Ls (.long v :: S))) : Go p e below Fn Q T (mkF m pc Ls (S)) := by
  subst hq; exact k.st fun _ z => XS.lload X.here hx rfl hd hl z
theorem g_lstoreN (X : Stand p l e R s m args below meth c T locs cells slots) (hx : p.tables.exec = Jvm.exec) (q : Nat) {k : Fin 4} {v : Int64} (l' : Array Slot) (hd : decode c.code pc = .ok (.lstore_n k, 1)) (hl : storeLocals Ls k.val (.long v) = some l') (hq : pc + 1 = q) (k : Go p e below Fn Q T (mkF m q l' (S))) : Go p e below Fn Q T (mkF m pc Ls (.long v :: S)) := by
  subst hq; exact k.st fun _ z => XS.lstoreN X.here hx rfl hd rfl hl z
theorem g_lstore (X : Stand p l e R s m args below meth c T locs cells slots) (hx : p.tables.exec = Jvm.exec) (q : Nat) {k : Nat} {v : Int64} (l' : Array Slot) (hd : decode c.code pc = .ok (.lstore k, 2)) (hl : storeLocals Ls k (.long v) = some l') (hq : pc + 2 = q) (k : Go p e below Fn Q T (mkF m q l' (S))) : Go p e below Fn Q T (mkF m pc Ls (.long v :: S)) := by
  subst hq; exact k.st fun _ z => XS.lstore X.here hx rfl hd rfl hl z
theorem g_aloadN (X : Stand p l e R s m args below meth c T locs cells slots) (hx : p.tables.exec = Jvm.exec) (q : Nat) {k : Fin 4} {v : Value} (hd : decode c.code pc = .ok (.aload_n k, 1)) (hl : Ls[k.val]? = some (.val v)) (hv : v.isRef = true) (hq : pc + 1 = q) (k : Go p e below Fn Q T (mkF m q Ls (v :: S))) : Go p e below Fn Q T (mkF m pc Ls (S)) := by
  subst hq; exact k.st fun _ z => XS.aloadN X.here hx rfl hd hl hv z
theorem g_aload (X : Stand p l e R s m args below meth c T locs cells slots) (hx : p.tables.exec = Jvm.exec) (q : Nat) {k : Nat} {v : Value} (hd : decode c.code pc = .ok (.aload k, 2)) (hl : Ls[k]? = some (.val v)) (hv : v.isRef = true) (hq : pc + 2 = q) (k : Go p e below Fn Q T (mkF m q Ls (v :: S))) : Go p e below Fn Q T (mkF m pc Ls (S)) := by
  subst hq; exact k.st fun _ z => XS.aload X.here hx rfl hd hl hv z
theorem g_astoreN (X : Stand p l e R s m args below meth c T locs cells slots) (hx : p.tables.exec = Jvm.exec) (q : Nat) {k : Fin 4} {v : Value} (l' : Array Slot) (hd : decode c.code pc = .ok (.astore_n k, 1)) (hv : v.isRef = true) (hl : storeLocals Ls k.val v = some l') (hq : pc + 1 = q) (k : Go p e below Fn Q T (mkF m q l' (S))) : Go p e below Fn Q T (mkF m pc Ls (v :: S)) := by
  subst hq; exact k.st fun _ z => XS.astoreN X.here hx rfl hd rfl hv hl z
theorem g_astore (X : Stand p l e R s m args below meth c T locs cells slots) (hx : p.tables.exec = Jvm.exec) (q : Nat) {k : Nat} {v : Value} (l' : Array Slot) (hd : decode c.code pc = .ok (.astore k, 2)) (hv : v.isRef = true) (hl : storeLocals Ls k v = some l') (hq : pc + 2 = q) (k : Go p e below Fn Q T (mkF m q l' (S))) : Go p e below Fn Q T (mkF m pc Ls (v :: S)) := by
  subst hq; exact k.st fun _ z => XS.astore X.here hx rfl hd rfl hv hl z
theorem g_iconst (X : Stand p l e R s m args below meth c T locs cells slots) (hx : p.tables.exec = Jvm.exec) (q : Nat) {i : Int} (v : Int32) (hd : decode c.code pc = .ok (.iconst i, 1)) (hv : Int32.ofInt i = v) (hq : pc + 1 = q) (k : Go p e below Fn Q T (mkF m q Ls (.int v :: S))) : Go p e below Fn Q T (mkF m pc Ls (S)) := by
  subst hq; exact k.st fun _ z => XS.iconst X.here hx rfl hd (hv ▸ z)
theorem g_bipush (X : Stand p l e R s m args below meth c T locs cells slots) (hx : p.tables.exec = Jvm.exec) (q : Nat) {i : Int} (v : Int32) (hd : decode c.code pc = .ok (.bipush i, 2)) (hv : (Int8.ofInt i).toInt32 = v) (hq : pc + 2 = q) (k : Go p e below Fn Q T (mkF m q Ls (.int v :: S))) : Go p e below Fn Q T (mkF m pc Ls (S)) := by
  subst hq; exact k.st fun _ z => XS.bipush X.here hx rfl hd (hv ▸ z)
theorem g_sipush (X : Stand p l e R s m args below meth c T locs cells slots) (hx : p.tables.exec = Jvm.exec) (q : Nat) {i : Int} (v : Int32) (hd : decode c.code pc = .ok (.sipush i, 3)) (hv : (Int16.ofInt i).toInt32 = v) (hq : pc + 3 = q) (k : Go p e below Fn Q T (mkF m q Ls (.int v :: S))) : Go p e below Fn Q T (mkF m pc Ls (S)) := by
  subst hq; exact k.st fun _ z => XS.sipush X.here hx rfl hd (hv ▸ z)
theorem g_lconst (X : Stand p l e R s m args below meth c T locs cells slots) (hx : p.tables.exec = Jvm.exec) (q : Nat) {k : Fin 2} (v : Int64) (hd : decode c.code pc = .ok (.lconst k, 1)) (hv : Int64.ofNat k = v) (hq : pc + 1 = q) (k : Go p e below Fn Q T (mkF m q Ls (.long v :: S))) : Go p e below Fn Q T (mkF m pc Ls (S)) := by
  subst hq; exact k.st fun _ z => XS.lconst X.here hx rfl hd (hv ▸ z)
theorem g_aconst_null (X : Stand p l e R s m args below meth c T locs cells slots) (hx : p.tables.exec = Jvm.exec) (q : Nat)  (hd : decode c.code pc = .ok (.aconst_null, 1))  (hq : pc + 1 = q) (k : Go p e below Fn Q T (mkF m q Ls (.null :: S))) : Go p e below Fn Q T (mkF m pc Ls (S)) := by
  subst hq; exact k.st fun _ z => XS.aconstNull X.here hx rfl hd z
theorem g_iadd (X : Stand p l e R s m args below meth c T locs cells slots) (hx : p.tables.exec = Jvm.exec) (q : Nat) {x y : Int32} (w : Int32) (hd : decode c.code pc = .ok (.iadd, 1)) (hv : x + y = w) (hq : pc + 1 = q) (k : Go p e below Fn Q T (mkF m q Ls (.int w :: S))) : Go p e below Fn Q T (mkF m pc Ls (.int y :: .int x :: S)) := by
  subst hq; exact k.st fun _ z => XS.iadd X.here hx rfl hd rfl (hv ▸ z)
theorem g_isub (X : Stand p l e R s m args below meth c T locs cells slots) (hx : p.tables.exec = Jvm.exec) (q : Nat) {x y : Int32} (w : Int32) (hd : decode c.code pc = .ok (.isub, 1)) (hv : x - y = w) (hq : pc + 1 = q) (k : Go p e below Fn Q T (mkF m q Ls (.int w :: S))) : Go p e below Fn Q T (mkF m pc Ls (.int y :: .int x :: S)) := by
  subst hq; exact k.st fun _ z => XS.isub X.here hx rfl hd rfl (hv ▸ z)
theorem g_imul (X : Stand p l e R s m args below meth c T locs cells slots) (hx : p.tables.exec = Jvm.exec) (q : Nat) {x y : Int32} (w : Int32) (hd : decode c.code pc = .ok (.imul, 1)) (hv : x * y = w) (hq : pc + 1 = q) (k : Go p e below Fn Q T (mkF m q Ls (.int w :: S))) : Go p e below Fn Q T (mkF m pc Ls (.int y :: .int x :: S)) := by
  subst hq; exact k.st fun _ z => XS.imul X.here hx rfl hd rfl (hv ▸ z)
theorem g_iand (X : Stand p l e R s m args below meth c T locs cells slots) (hx : p.tables.exec = Jvm.exec) (q : Nat) {x y : Int32} (w : Int32) (hd : decode c.code pc = .ok (.iand, 1)) (hv : x &&& y = w) (hq : pc + 1 = q) (k : Go p e below Fn Q T (mkF m q Ls (.int w :: S))) : Go p e below Fn Q T (mkF m pc Ls (.int y :: .int x :: S)) := by
  subst hq; exact k.st fun _ z => XS.iand X.here hx rfl hd rfl (hv ▸ z)
theorem g_ior (X : Stand p l e R s m args below meth c T locs cells slots) (hx : p.tables.exec = Jvm.exec) (q : Nat) {x y : Int32} (w : Int32) (hd : decode c.code pc = .ok (.ior, 1)) (hv : x ||| y = w) (hq : pc + 1 = q) (k : Go p e below Fn Q T (mkF m q Ls (.int w :: S))) : Go p e below Fn Q T (mkF m pc Ls (.int y :: .int x :: S)) := by
  subst hq; exact k.st fun _ z => XS.ior X.here hx rfl hd rfl (hv ▸ z)
theorem g_ixor (X : Stand p l e R s m args below meth c T locs cells slots) (hx : p.tables.exec = Jvm.exec) (q : Nat) {x y : Int32} (w : Int32) (hd : decode c.code pc = .ok (.ixor, 1)) (hv : x ^^^ y = w) (hq : pc + 1 = q) (k : Go p e below Fn Q T (mkF m q Ls (.int w :: S))) : Go p e below Fn Q T (mkF m pc Ls (.int y :: .int x :: S)) := by
  subst hq; exact k.st fun _ z => XS.ixor X.here hx rfl hd rfl (hv ▸ z)
theorem g_ishl (X : Stand p l e R s m args below meth c T locs cells slots) (hx : p.tables.exec = Jvm.exec) (q : Nat) {x y : Int32} (w : Int32) (hd : decode c.code pc = .ok (.ishl, 1)) (hv : x <<< (y &&& 31) = w) (hq : pc + 1 = q) (k : Go p e below Fn Q T (mkF m q Ls (.int w :: S))) : Go p e below Fn Q T (mkF m pc Ls (.int y :: .int x :: S)) := by
  subst hq; exact k.st fun _ z => XS.ishl X.here hx rfl hd rfl (hv ▸ z)
theorem g_ishr (X : Stand p l e R s m args below meth c T locs cells slots) (hx : p.tables.exec = Jvm.exec) (q : Nat) {x y : Int32} (w : Int32) (hd : decode c.code pc = .ok (.ishr, 1)) (hv : x >>> (y &&& 31) = w) (hq : pc + 1 = q) (k : Go p e below Fn Q T (mkF m q Ls (.int w :: S))) : Go p e below Fn Q T (mkF m pc Ls (.int y :: .int x :: S)) := by
  subst hq; exact k.st fun _ z => XS.ishr X.here hx rfl hd rfl (hv ▸ z)
theorem g_iushr (X : Stand p l e R s m args below meth c T locs cells slots) (hx : p.tables.exec = Jvm.exec) (q : Nat) {x y : Int32} (w : Int32) (hd : decode c.code pc = .ok (.iushr, 1)) (hv : (x.toUInt32 >>> (y &&& 31).toUInt32).toInt32 = w) (hq : pc + 1 = q) (k : Go p e below Fn Q T (mkF m q Ls (.int w :: S))) : Go p e below Fn Q T (mkF m pc Ls (.int y :: .int x :: S)) := by
  subst hq; exact k.st fun _ z => XS.iushr X.here hx rfl hd rfl (hv ▸ z)
theorem g_ladd (X : Stand p l e R s m args below meth c T locs cells slots) (hx : p.tables.exec = Jvm.exec) (q : Nat) {x y : Int64} (w : Int64) (hd : decode c.code pc = .ok (.ladd, 1)) (hv : x + y = w) (hq : pc + 1 = q) (k : Go p e below Fn Q T (mkF m q Ls (.long w :: S))) : Go p e below Fn Q T (mkF m pc Ls (.long y :: .long x :: S)) := by
  subst hq; exact k.st fun _ z => XS.ladd X.here hx rfl hd rfl (hv ▸ z)
theorem g_lsub (X : Stand p l e R s m args below meth c T locs cells slots) (hx : p.tables.exec = Jvm.exec) (q : Nat) {x y : Int64} (w : Int64) (hd : decode c.code pc = .ok (.lsub, 1)) (hv : x - y = w) (hq : pc + 1 = q) (k : Go p e below Fn Q T (mkF m q Ls (.long w :: S))) : Go p e below Fn Q T (mkF m pc Ls (.long y :: .long x :: S)) := by
  subst hq; exact k.st fun _ z => XS.lsub X.here hx rfl hd rfl (hv ▸ z)
theorem g_lmul (X : Stand p l e R s m args below meth c T locs cells slots) (hx : p.tables.exec = Jvm.exec) (q : Nat) {x y : Int64} (w : Int64) (hd : decode c.code pc = .ok (.lmul, 1)) (hv : x * y = w) (hq : pc + 1 = q) (k : Go p e below Fn Q T (mkF m q Ls (.long w :: S))) : Go p e below Fn Q T (mkF m pc Ls (.long y :: .long x :: S)) := by
  subst hq; exact k.st fun _ z => XS.lmul X.here hx rfl hd rfl (hv ▸ z)
theorem g_land (X : Stand p l e R s m args below meth c T locs cells slots) (hx : p.tables.exec = Jvm.exec) (q : Nat) {x y : Int64} (w : Int64) (hd : decode c.code pc = .ok (.land, 1)) (hv : x &&& y = w) (hq : pc + 1 = q) (k : Go p e below Fn Q T (mkF m q Ls (.long w :: S))) : Go p e below Fn Q T (mkF m pc Ls (.long y :: .long x :: S)) := by
  subst hq; exact k.st fun _ z => XS.land X.here hx rfl hd rfl (hv ▸ z)
theorem g_lor (X : Stand p l e R s m args below meth c T locs cells slots) (hx : p.tables.exec = Jvm.exec) (q : Nat) {x y : Int64} (w : Int64) (hd : decode c.code pc = .ok (.lor, 1)) (hv : x ||| y = w) (hq : pc + 1 = q) (k : Go p e below Fn Q T (mkF m q Ls (.long w :: S))) : Go p e below Fn Q T (mkF m pc Ls (.long y :: .long x :: S)) := by
  subst hq; exact k.st fun _ z => XS.lor X.here hx rfl hd rfl (hv ▸ z)
theorem g_lxor (X : Stand p l e R s m args below meth c T locs cells slots) (hx : p.tables.exec = Jvm.exec) (q : Nat) {x y : Int64} (w : Int64) (hd : decode c.code pc = .ok (.lxor, 1)) (hv : x ^^^ y = w) (hq : pc + 1 = q) (k : Go p e below Fn Q T (mkF m q Ls (.long w :: S))) : Go p e below Fn Q T (mkF m pc Ls (.long y :: .long x :: S)) := by
  subst hq; exact k.st fun _ z => XS.lxor X.here hx rfl hd rfl (hv ▸ z)
theorem g_lshl (X : Stand p l e R s m args below meth c T locs cells slots) (hx : p.tables.exec = Jvm.exec) (q : Nat) {x : Int64} {y : Int32} (w : Int64) (hd : decode c.code pc = .ok (.lshl, 1)) (hv : x <<< (y &&& 0x3f).toInt64 = w) (hq : pc + 1 = q) (k : Go p e below Fn Q T (mkF m q Ls (.long w :: S))) : Go p e below Fn Q T (mkF m pc Ls (.int y :: .long x :: S)) := by
  subst hq; exact k.st fun _ z => XS.lshl X.here hx rfl hd rfl (hv ▸ z)
theorem g_lshr (X : Stand p l e R s m args below meth c T locs cells slots) (hx : p.tables.exec = Jvm.exec) (q : Nat) {x : Int64} {y : Int32} (w : Int64) (hd : decode c.code pc = .ok (.lshr, 1)) (hv : x >>> (y &&& 0x3f).toInt64 = w) (hq : pc + 1 = q) (k : Go p e below Fn Q T (mkF m q Ls (.long w :: S))) : Go p e below Fn Q T (mkF m pc Ls (.int y :: .long x :: S)) := by
  subst hq; exact k.st fun _ z => XS.lshr X.here hx rfl hd rfl (hv ▸ z)
theorem g_lushr (X : Stand p l e R s m args below meth c T locs cells slots) (hx : p.tables.exec = Jvm.exec) (q : Nat) {x : Int64} {y : Int32} (w : Int64) (hd : decode c.code pc = .ok (.lushr, 1)) (hv : (x.toUInt64 >>> (y &&& 0x3f).toInt64.toUInt64).toInt64 = w) (hq : pc + 1 = q) (k : Go p e below Fn Q T (mkF m q Ls (.long w :: S))) : Go p e below Fn Q T (mkF m pc Ls (.int y :: .long x :: S)) := by
  subst hq; exact k.st fun _ z => XS.lushr X.here hx rfl hd rfl (hv ▸ z)
theorem g_lcmp (X : Stand p l e R s m args below meth c T locs cells slots) (hx : p.tables.exec = Jvm.exec) (q : Nat) {x y : Int64} (hd : decode c.code pc = .ok (.lcmp, 1))  (hq : pc + 1 = q) (k : Go p e below Fn Q T (mkF m q Ls (.int (lcmpW x y) :: S))) : Go p e below Fn Q T (mkF m pc Ls (.long y :: .long x :: S)) := by
  subst hq; exact k.st fun _ z => XS.lcmp X.here hx rfl hd rfl z
theorem g_idiv (X : Stand p l e R s m args below meth c T locs cells slots) (hx : p.tables.exec = Jvm.exec) (q : Nat) {x y : Int32} (w : Int32) (hd : decode c.code pc = .ok (.idiv, 1)) (hy : y ≠ 0) (hv : x / y = w) (hq : pc + 1 = q) (k : Go p e below Fn Q T (mkF m q Ls (.int w :: S))) : Go p e below Fn Q T (mkF m pc Ls (.int y :: .int x :: S)) := by
  subst hq; exact k.st fun _ z => XS.idiv X.here hx rfl hd rfl hy (hv ▸ z)
theorem g_irem (X : Stand p l e R s m args below meth c T locs cells slots) (hx : p.tables.exec = Jvm.exec) (q : Nat) {x y : Int32} (w : Int32) (hd : decode c.code pc = .ok (.irem, 1)) (hy : y ≠ 0) (hv : x % y = w) (hq : pc + 1 = q) (k : Go p e below Fn Q T (mkF m q Ls (.int w :: S))) : Go p e below Fn Q T (mkF m pc Ls (.int y :: .int x :: S)) := by
  subst hq; exact k.st fun _ z => iremM X hx rfl hd rfl hy (hv ▸ z)
theorem g_ldiv (X : Stand p l e R s m args below meth c T locs cells slots) (hx : p.tables.exec = Jvm.exec) (q : Nat) {x y : Int64} (w : Int64) (hd : decode c.code pc = .ok (.ldiv, 1)) (hy : y ≠ 0) (hv : x / y = w) (hq : pc + 1 = q) (k : Go p e below Fn Q T (mkF m q Ls (.long w :: S))) : Go p e below Fn Q T (mkF m pc Ls (.long y :: .long x :: S)) := by
  subst hq; exact k.st fun _ z => XS.ldiv X.here hx rfl hd rfl hy (hv ▸ z)
theorem g_ineg (X : Stand p l e R s m args below meth c T locs cells slots) (hx : p.tables.exec = Jvm.exec) (q : Nat) {x : Int32} (w : Int32) (hd : decode c.code pc = .ok (.ineg, 1)) (hv : -x = w) (hq : pc + 1 = q) (k : Go p e below Fn Q T (mkF m q Ls (.int w :: S))) : Go p e below Fn Q T (mkF m pc Ls (.int x :: S)) := by
  subst hq; exact k.st fun _ z => XS.ineg X.here hx rfl hd rfl (hv ▸ z)
theorem g_lneg (X : Stand p l e R s m args below meth c T locs cells slots) (hx : p.tables.exec = Jvm.exec) (q : Nat) {x : Int64} (w : Int64) (hd : decode c.code pc = .ok (.lneg, 1)) (hv : -x = w) (hq : pc + 1 = q) (k : Go p e below Fn Q T (mkF m q Ls (.long w :: S))) : Go p e below Fn Q T (mkF m pc Ls (.long x :: S)) := by
  subst hq; exact k.st fun _ z => XS.lneg X.here hx rfl hd rfl (hv ▸ z)
theorem g_i2l (X : Stand p l e R s m args below meth c T locs cells slots) (hx : p.tables.exec = Jvm.exec) (q : Nat) {x : Int32} (w : Int64) (hd : decode c.code pc = .ok (.i2l, 1)) (hv : x.toInt64 = w) (hq : pc + 1 = q) (k : Go p e below Fn Q T (mkF m q Ls (.long w :: S))) : Go p e below Fn Q T (mkF m pc Ls (.int x :: S)) := by
  subst hq; exact k.st fun _ z => XS.i2l X.here hx rfl hd rfl (hv ▸ z)
theorem g_l2i (X : Stand p l e R s m args below meth c T locs cells slots) (hx : p.tables.exec = Jvm.exec) (q : Nat) {x : Int64} (w : Int32) (hd : decode c.code pc = .ok (.l2i, 1)) (hv : x.toInt32 = w) (hq : pc + 1 = q) (k : Go p e below Fn Q T (mkF m q Ls (.int w :: S))) : Go p e below Fn Q T (mkF m pc Ls (.long x :: S)) := by
  subst hq; exact k.st fun _ z => XS.l2i X.here hx rfl hd rfl (hv ▸ z)
theorem g_i2c (X : Stand p l e R s m args below meth c T locs cells slots) (hx : p.tables.exec = Jvm.exec) (q : Nat) {x : Int32} (w : Int32) (hd : decode c.code pc = .ok (.i2c, 1)) (hv : x.toUInt32.toUInt16.toUInt32.toInt32 = w) (hq : pc + 1 = q) (k : Go p e below Fn Q T (mkF m q Ls (.int w :: S))) : Go p e below Fn Q T (mkF m pc Ls (.int x :: S)) := by
  subst hq; exact k.st fun _ z => XS.i2c X.here hx rfl hd rfl (hv ▸ z)
theorem g_i2b (X : Stand p l e R s m args below meth c T locs cells slots) (hx : p.tables.exec = Jvm.exec) (q : Nat) {x : Int32} (w : Int32) (hd : decode c.code pc = .ok (.i2b, 1)) (hv : x.toInt8.toInt32 = w) (hq : pc + 1 = q) (k : Go p e below Fn Q T (mkF m q Ls (.int w :: S))) : Go p e below Fn Q T (mkF m pc Ls (.int x :: S)) := by
  subst hq; exact k.st fun _ z => XS.i2b X.here hx rfl hd rfl (hv ▸ z)
theorem g_i2s (X : Stand p l e R s m args below meth c T locs cells slots) (hx : p.tables.exec = Jvm.exec) (q : Nat) {x : Int32} (w : Int32) (hd : decode c.code pc = .ok (.i2s, 1)) (hv : x.toInt16.toInt32 = w) (hq : pc + 1 = q) (k : Go p e below Fn Q T (mkF m q Ls (.int w :: S))) : Go p e below Fn Q T (mkF m pc Ls (.int x :: S)) := by
  subst hq; exact k.st fun _ z => XS.i2s X.here hx rfl hd rfl (hv ▸ z)
theorem g_dup (X : Stand p l e R s m args below meth c T locs cells slots) (hx : p.tables.exec = Jvm.exec) (q : Nat) {v : Value} (hd : decode c.code pc = .ok (.dup, 1)) (hc : v.category = 1) (hq : pc + 1 = q) (k : Go p e below Fn Q T (mkF m q Ls (v :: v :: S))) : Go p e below Fn Q T (mkF m pc Ls (v :: S)) := by
  subst hq; exact k.st fun _ z => XS.dup X.here hx rfl hd rfl hc z
theorem g_pop (X : Stand p l e R s m args below meth c T locs cells slots) (hx : p.tables.exec = Jvm.exec) (q : Nat) {v : Value} (hd : decode c.code pc = .ok (.pop, 1)) (hc : v.category = 1) (hq : pc + 1 = q) (k : Go p e below Fn Q T (mkF m q Ls (S))) : Go p e below Fn Q T (mkF m pc Ls (v :: S)) := by
  subst hq; exact k.st fun _ z => XS.pop X.here hx rfl hd rfl hc z
theorem g_dup_x1 (X : Stand p l e R s m args below meth c T locs cells slots) (hx : p.tables.exec = Jvm.exec) (q : Nat) {v w : Value} (hd : decode c.code pc = .ok (.dup_x1, 1)) (hc : v.category = 1) (hc' : w.category = 1) (hq : pc + 1 = q) (k : Go p e below Fn Q T (mkF m q Ls (v :: w :: v :: S))) : Go p e below Fn Q T (mkF m pc Ls (v :: w :: S)) := by
  subst hq; exact k.st fun _ z => XS.dupX1 X.here hx rfl hd rfl hc hc' z
theorem g_dup2L (X : Stand p l e R s m args below meth c T locs cells slots) (hx : p.tables.exec = Jvm.exec) (q : Nat) {x : Int64} (hd : decode c.code pc = .ok (.dup2, 1))  (hq : pc + 1 = q) (k : Go p e below Fn Q T (mkF m q Ls (.long x :: .long x :: S))) : Go p e below Fn Q T (mkF m pc Ls (.long x :: S)) := by
  subst hq; exact k.st fun _ z => Jvm.Free.XT.dup2L X.here hx rfl hd rfl z
theorem g_dup2 (X : Stand p l e R s m args below meth c T locs cells slots) (hx : p.tables.exec = Jvm.exec) (q : Nat) {v w : Value} (hd : decode c.code pc = .ok (.dup2, 1)) (hc : v.category = 1) (hc' : w.category = 1) (hq : pc + 1 = q) (k : Go p e below Fn Q T (mkF m q Ls (v :: w :: v :: w :: S))) : Go p e below Fn Q T (mkF m pc Ls (v :: w :: S)) := by
  subst hq; exact k.st fun _ z => Jvm.Free.XT.dup2 X.here hx rfl hd rfl hc hc' z
theorem g_iinc (X : Stand p l e R s m args below meth c T locs cells slots) (hx : p.tables.exec = Jvm.exec) (q : Nat) {k : Nat} {cst : Int} {x : Int32} (w : Int32) (l' : Array Slot) (hd : decode c.code pc = .ok (.iinc k cst, 3)) (hl : Ls[k]? = some (.val (.int x))) (hv : x + Int32.ofInt cst = w) (hl' : storeLocals Ls k (.int w) = some l') (hq : pc + 3 = q) (k : Go p e below Fn Q T (mkF m q l' (S))) : Go p e below Fn Q T (mkF m pc Ls (S)) := by
  subst hq; exact k.st fun _ z => XS.iinc X.here hx rfl hd hl (hv ▸ hl') z
theorem g_ldcI (X : Stand p l e R s m args below meth c T locs cells slots) (hx : p.tables.exec = Jvm.exec) (q : Nat) (hZ : Z.Warmed39 s.vm) {own : String} {index : Nat} {v : Int32} (hown : s.vm.findClass own = some m.cls) (w1 : (Jvm.Cond.constant own index v).before a0 Z = true) (hd : decode c.code pc = .ok (.ldc index, 2))  (hq : pc + 2 = q) (k : Go p e below Fn Q T (mkF m q Ls (.int v :: S))) : Go p e below Fn Q T (mkF m pc Ls (S)) := by
  subst hq; exact k.st fun _ z => X.ldcInt hx hown (mvT hZ w1) (g := mkF m pc Ls S) rfl hd _ z
theorem g_ldc2J (X : Stand p l e R s m args below meth c T locs cells slots) (hx : p.tables.exec = Jvm.exec) (q : Nat) (hZ : Z.Warmed39 s.vm) {own : String} {index : Nat} {v : Int64} (hown : s.vm.findClass own = some m.cls) (w1 : (Jvm.Cond.constantLong own index v).before a0 Z = true) (hd : decode c.code pc = .ok (.ldc2_w index, 3))  (hq : pc + 3 = q) (k : Go p e below Fn Q T (mkF m q Ls (.long v :: S))) : Go p e below Fn Q T (mkF m pc Ls (S)) := by
  subst hq; exact k.st fun _ z => X.ldc2Long hx hown (mvT hZ w1) (g := mkF m pc Ls S) rfl hd _ z
theorem g_goto (X : Stand p l e R s m args below meth c T locs cells slots) (hx : p.tables.exec = Jvm.exec) (q : Nat)  {o : Int} (hd : decode c.code pc = .ok (.goto o, 3))  (ho : 0 ≤ (pc : Int) + o) (hp : ((pc : Int) + o).toNat = q) (k : Go p e below Fn Q T (mkF m q Ls S)) : Go p e below Fn Q T (mkF m pc Ls (S)) := k.st fun _ z => XS.goto X.here hx rfl rfl hd ho hp z
theorem g_ifT (X : Stand p l e R s m args below meth c T locs cells slots) (hx : p.tables.exec = Jvm.exec) (q : Nat) {cd : ClassFile.Cond} {x : Int32} {o : Int} (hd : decode c.code pc = .ok (.ifCond cd o, 3)) (hc : ifCond.holds cd x = true) (ho : 0 ≤ (pc : Int) + o) (hp : ((pc : Int) + o).toNat = q) (k : Go p e below Fn Q T (mkF m q Ls S)) : Go p e below Fn Q T (mkF m pc Ls (.int x :: S)) := k.st fun _ z => XS.ifYes X.here hx rfl rfl hd rfl hc ho hp z
theorem g_ifF (X : Stand p l e R s m args below meth c T locs cells slots) (hx : p.tables.exec = Jvm.exec) (q : Nat) {cd : ClassFile.Cond} {x : Int32} {o : Int} (hd : decode c.code pc = .ok (.ifCond cd o, 3)) (hc : ifCond.holds cd x = false) (hq : pc + 3 = q) (k : Go p e below Fn Q T (mkF m q Ls S)) : Go p e below Fn Q T (mkF m pc Ls (.int x :: S)) := by
  subst hq; exact k.st fun _ z => XS.ifNo X.here hx rfl hd rfl hc z
theorem g_icT (X : Stand p l e R s m args below meth c T locs cells slots) (hx : p.tables.exec = Jvm.exec) (q : Nat) {cd : ClassFile.Cond} {x y : Int32} {o : Int} (hd : decode c.code pc = .ok (.if_icmp cd o, 3)) (hc : if_icmp.holds cd x y = true) (ho : 0 ≤ (pc : Int) + o) (hp : ((pc : Int) + o).toNat = q) (k : Go p e below Fn Q T (mkF m q Ls S)) : Go p e below Fn Q T (mkF m pc Ls (.int y :: .int x :: S)) := k.st fun _ z => XS.icmpYes X.here hx rfl rfl hd rfl hc ho hp z
theorem g_icF (X : Stand p l e R s m args below meth c T locs cells slots) (hx : p.tables.exec = Jvm.exec) (q : Nat) {cd : ClassFile.Cond} {x y : Int32} {o : Int} (hd : decode c.code pc = .ok (.if_icmp cd o, 3)) (hc : if_icmp.holds cd x y = false) (hq : pc + 3 = q) (k : Go p e below Fn Q T (mkF m q Ls S)) : Go p e below Fn Q T (mkF m pc Ls (.int y :: .int x :: S)) := by
  subst hq; exact k.st fun _ z => XS.icmpNo X.here hx rfl hd rfl hc z
theorem g_ifnullT (X : Stand p l e R s m args below meth c T locs cells slots) (hx : p.tables.exec = Jvm.exec) (q : Nat)  {o : Int} (hd : decode c.code pc = .ok (.ifnull o, 3))  (ho : 0 ≤ (pc : Int) + o) (hp : ((pc : Int) + o).toNat = q) (k : Go p e below Fn Q T (mkF m q Ls S)) : Go p e below Fn Q T (mkF m pc Ls (.null :: S)) := k.st fun _ z => XS.ifnullYes X.here hx rfl rfl hd rfl ho hp z
theorem g_ifnullF (X : Stand p l e R s m args below meth c T locs cells slots) (hx : p.tables.exec = Jvm.exec) (q : Nat) {b : Addr} {o : Int} (hd : decode c.code pc = .ok (.ifnull o, 3))  (hq : pc + 3 = q) (k : Go p e below Fn Q T (mkF m q Ls S)) : Go p e below Fn Q T (mkF m pc Ls (.ref b :: S)) := by
  subst hq; exact k.st fun _ z => XS.ifnullNo X.here hx rfl hd rfl z
theorem g_ifnonnullT (X : Stand p l e R s m args below meth c T locs cells slots) (hx : p.tables.exec = Jvm.exec) (q : Nat) {b : Addr} {o : Int} (hd : decode c.code pc = .ok (.ifnonnull o, 3))  (ho : 0 ≤ (pc : Int) + o) (hp : ((pc : Int) + o).toNat = q) (k : Go p e below Fn Q T (mkF m q Ls S)) : Go p e below Fn Q T (mkF m pc Ls (.ref b :: S)) := k.st fun _ z => XS.ifnonnullYes X.here hx rfl rfl hd rfl ho hp z
theorem g_ifnonnullF (X : Stand p l e R s m args below meth c T locs cells slots) (hx : p.tables.exec = Jvm.exec) (q : Nat)  {o : Int} (hd : decode c.code pc = .ok (.ifnonnull o, 3))  (hq : pc + 3 = q) (k : Go p e below Fn Q T (mkF m q Ls S)) : Go p e below Fn Q T (mkF m pc Ls (.null :: S)) := by
  subst hq; exact k.st fun _ z => XS.ifnonnullNo X.here hx rfl hd rfl z
theorem g_ac (X : Stand p l e R s m args below meth c T locs cells slots) (hx : p.tables.exec = Jvm.exec) (q : Nat) {cd : ACond} {v w : Value} {o : Int} (same : Bool) (hd : decode c.code pc = .ok (.if_acmp cd o, 3)) (h1 : v.isRef = true) (h2 : w.isRef = true) (hs : decide (v = w) = same) (ho : 0 ≤ (pc : Int) + o) (hp : q = if acV cd same = true then ((pc : Int) + o).toNat else pc + 3) (k : Go p e below Fn Q T (mkF m q Ls S)) : Go p e below Fn Q T (mkF m pc Ls (w :: v :: S)) := k.st fun _ z => Jvm.RoadKit.acmp X hx rfl h1 h2 rfl hd rfl hs ho hp z
theorem own_ltL {x y : Int64} (h : x < y) : ifCond.holds .lt (lcmpW x y) = true ∧ ifCond.holds .ge (lcmpW x y) = false ∧ ifCond.holds .gt (lcmpW y x) = true ∧ ifCond.holds .le (lcmpW y x) = false := by
  have h1 := (lw_lt x y).mpr h
  have h2 := (lw_gt y x).mpr h
  exact ⟨(if0 _ _).trans (tlt h1).1, (if0 _ _).trans (tlt h1).2.1, (if0 _ _).trans (tlt h2).2.2.1, (if0 _ _).trans (tlt h2).2.2.2⟩
theorem own_nltL {x y : Int64} (h : ¬ x < y) : ifCond.holds .lt (lcmpW x y) = false ∧ ifCond.holds .ge (lcmpW x y) = true ∧ ifCond.holds .gt (lcmpW y x) = false ∧ ifCond.holds .le (lcmpW y x) = true := by
  have h1 : ¬ lcmpW x y < 0 := fun q => h ((lw_lt x y).mp q)
  have h2 : ¬ 0 < lcmpW y x := fun q => h ((lw_gt y x).mp q)
  exact ⟨(if0 _ _).trans (flt h1).1, (if0 _ _).trans (flt h1).2.1, (if0 _ _).trans (flt h2).2.2.1, (if0 _ _).trans (flt h2).2.2.2⟩
theorem own_eqL {x y : Int64} (h : x = y) : ifCond.holds .eq (lcmpW x y) = true ∧ ifCond.holds .ne (lcmpW x y) = false := by
  have h1 := (lw_eq x y).mpr h
  exact ⟨(if0 _ _).trans (teq h1).1, (if0 _ _).trans (teq h1).2⟩
theorem own_neL {x y : Int64} (h : ¬ x = y) : ifCond.holds .eq (lcmpW x y) = false ∧ ifCond.holds .ne (lcmpW x y) = true := by
  have h1 : ¬ lcmpW x y = 0 := fun q => h ((lw_eq x y).mp q)
  exact ⟨(if0 _ _).trans (feq h1).1, (if0 _ _).trans (feq h1).2⟩
theorem g_ret (X : Stand p l e R s m args below meth c T locs cells slots) (hx : p.tables.exec = Jvm.exec) {t : FieldType} {i : Instr} {w : Value} (hret : meth.sig.returnType = some t) (hlk : meth.locks = false) (hn : narrow t w = w) (hi : (i = .ireturn ∧ (t = .int ∨ t = .boolean ∨ t = .byte ∨ t = .char ∨ t = .short) ∧ ∃ z, w = .int z) ∨ (i = .lreturn ∧ t = .long ∧ ∃ z, w = .long z) ∨ (i = .dreturn ∧ t = .double ∧ ∃ z, w = .double z) ∨ (i = .freturn ∧ t = .float ∧ ∃ z, w = .float z) ∨ (i = .areturn ∧ t.isReference = true ∧ w.isRef = true)) (hd : decode c.code pc = .ok (i, 1)) (hc : cells ≤ K) (hs : slots ≤ J) (hq : Q (some w) T.heap locs) : Go p e below (fun o t L => FrameEnd s o t L K J) Q T (mkF m pc Ls (w :: S)) := by
  obtain ⟨fs, hr, hrun, hended, hW, hsame⟩ := X.leave (v := some w) (fun h => by rw [hret] at h; cases h) hlk
  exact ⟨_, _, retOut X hx hret hn hi hd hr, hrun, hended, _, _, rfl, hq, ⟨_, rfl⟩, hW, hsame.mono hc hs⟩
theorem g_retI (X : Stand p l e R s m args below meth c T locs cells slots) (hx : p.tables.exec = Jvm.exec) {z : Int32} (hret : meth.sig.returnType = some .int) (hlk : meth.locks = false) (hd : decode c.code pc = .ok (.ireturn, 1)) (hc : cells ≤ K) (hs : slots ≤ J) (hq : Q (some (.int z)) T.heap locs) : Go p e below (fun o t L => FrameEnd s o t L K J) Q T (mkF m pc Ls (.int z :: S)) := g_ret X hx hret hlk rfl (Or.inl ⟨rfl, Or.inl rfl, _, rfl⟩) hd hc hs hq
theorem g_retZ (X : Stand p l e R s m args below meth c T locs cells slots) (hx : p.tables.exec = Jvm.exec) {z : Int32} (hret : meth.sig.returnType = some .boolean) (hlk : meth.locks = false) (hn : narrow .boolean (.int z) = .int z) (hd : decode c.code pc = .ok (.ireturn, 1)) (hc : cells ≤ K) (hs : slots ≤ J) (hq : Q (some (.int z)) T.heap locs) : Go p e below (fun o t L => FrameEnd s o t L K J) Q T (mkF m pc Ls (.int z :: S)) := g_ret X hx hret hlk hn (Or.inl ⟨rfl, Or.inr (Or.inl rfl), _, rfl⟩) hd hc hs hq
theorem g_retC (X : Stand p l e R s m args below meth c T locs cells slots) (hx : p.tables.exec = Jvm.exec) {z : Int32} (hret : meth.sig.returnType = some .char) (hlk : meth.locks = false) (hn : narrow .char (.int z) = .int z) (hd : decode c.code pc = .ok (.ireturn, 1)) (hc : cells ≤ K) (hs : slots ≤ J) (hq : Q (some (.int z)) T.heap locs) : Go p e below (fun o t L => FrameEnd s o t L K J) Q T (mkF m pc Ls (.int z :: S)) := g_ret X hx hret hlk hn (Or.inl ⟨rfl, Or.inr (Or.inr (Or.inr (Or.inl rfl))), _, rfl⟩) hd hc hs hq
theorem g_retB (X : Stand p l e R s m args below meth c T locs cells slots) (hx : p.tables.exec = Jvm.exec) {z : Int32} (hret : meth.sig.returnType = some .byte) (hlk : meth.locks = false) (hn : narrow .byte (.int z) = .int z) (hd : decode c.code pc = .ok (.ireturn, 1)) (hc : cells ≤ K) (hs : slots ≤ J) (hq : Q (some (.int z)) T.heap locs) : Go p e below (fun o t L => FrameEnd s o t L K J) Q T (mkF m pc Ls (.int z :: S)) := g_ret X hx hret hlk hn (Or.inl ⟨rfl, Or.inr (Or.inr (Or.inl rfl)), _, rfl⟩) hd hc hs hq
theorem g_retJ (X : Stand p l e R s m args below meth c T locs cells slots) (hx : p.tables.exec = Jvm.exec) {z : Int64} (hret : meth.sig.returnType = some .long) (hlk : meth.locks = false) (hd : decode c.code pc = .ok (.lreturn, 1)) (hc : cells ≤ K) (hs : slots ≤ J) (hq : Q (some (.long z)) T.heap locs) : Go p e below (fun o t L => FrameEnd s o t L K J) Q T (mkF m pc Ls (.long z :: S)) := g_ret X hx hret hlk rfl (Or.inr (Or.inl ⟨rfl, rfl, _, rfl⟩)) hd hc hs hq
theorem g_retA (X : Stand p l e R s m args below meth c T locs cells slots) (hx : p.tables.exec = Jvm.exec) {t : FieldType} {w : Value} (hret : meth.sig.returnType = some t) (hlk : meth.locks = false) (hr : t.isReference = true) (hw : w.isRef = true) (hn : narrow t w = w) (hd : decode c.code pc = .ok (.areturn, 1)) (hc : cells ≤ K) (hs : slots ≤ J) (hq : Q (some w) T.heap locs) : Go p e below (fun o t L => FrameEnd s o t L K J) Q T (mkF m pc Ls (w :: S)) := g_ret X hx hret hlk hn (Or.inr (Or.inr (Or.inr (Or.inr ⟨rfl, hr, hw⟩)))) hd hc hs hq
theorem g_retV (X : Stand p l e R s m args below meth c T locs cells slots) (hx : p.tables.exec = Jvm.exec) (hret : meth.sig.returnType = none) (hlk : meth.locks = false) (hd : decode c.code pc = .ok (.return_, 1)) (hc : cells ≤ K) (hs : slots ≤ J) (hq : Q none T.heap locs) : Go p e below (fun o t L => FrameEnd s o t L K J) Q T (mkF m pc Ls []) := by
  obtain ⟨fs, hr, hrun, hended, hW, hsame⟩ := X.leave (v := none) (fun _ => rfl) hlk
  exact ⟨_, _, X.returnOut hx hret hd hr, hrun, hended, _, _, rfl, hq, ⟨_, rfl⟩, hW, hsame.mono hc hs⟩
theorem g_getF (X : Stand p l e R s m args below meth c T locs cells slots) (hx : p.tables.exec = Jvm.exec) (q : Nat) (hZ : Z.Warmed39 s.vm) {own R0 O n d host : String} {index : Nat} (hown : s.vm.findClass own = some m.cls) (w1 : (Jvm.Cond.fieldLink own index R0 n d).before a0 Z = true ∨ (Jvm.Cond.fieldLinkNest own index R0 n d host).before a0 Z = true) (via : Via Z R0 O n d) (eT : T.heap = h) {a : Addr} {v : Value} (F : Fld Z h a O n d v) (hd : decode c.code pc = .ok (.getfield index, 3)) (hq : pc + 3 = q)
    (k : ∀ T', Stand p l e R s m args below meth c T' locs cells slots → T'.heap = h → Go p e below Fn Q T' (mkF m q Ls (v :: S))) : Go p e below Fn Q T (mkF m pc Ls (.ref a :: S)) := by
  obtain ⟨T', X', e', st⟩ := getF X hx hZ hown w1 via eT F (g := mkF m pc Ls (.ref a :: S)) rfl rfl hd
  subst hq; exact (k T' X' e').st st
theorem g_putF (X : Stand p l e R s m args below meth c T locs cells slots) (hx : p.tables.exec = Jvm.exec) (q : Nat) (hZ : Z.Warmed39 s.vm) {own R0 O n d host C : String} {index kk : Nat} {ty : FieldType} (hown : s.vm.findClass own = some m.cls) (w1 : (Jvm.Cond.fieldLink own index R0 n d).before a0 Z = true ∨ (Jvm.Cond.fieldLinkNest own index R0 n d host).before a0 Z = true) (via : Via Z R0 O n d) (eT : T.heap = h) {a : Addr} {v old : Value} (F : Fld Z h a O n d old) (E : Exa Z h a C)
    (L : (Jvm.Cond.lays C O n d).before a0 Z = true ∨ ((Jvm.Cond.laysFinal C O n d).before a0 Z = true ∧ own = O ∧ meth.name = "<init>")) (wi : (Jvm.Cond.instantiable C kk).before a0 Z = true) (hty : parseFieldDescriptor d = some ty) (hn : narrow ty v = v) (hf : fits ty v = true) (hd : decode c.code pc = .ok (.putfield index, 3)) (hq : pc + 3 = q)
    (k : ∀ T' h', Stand p l e R s m args below meth c T' (locs ++ [⟨a, Jvm.RoadKit.slotOf Z O n d⟩]) cells slots → T'.heap = h' → Wr h h' a (Jvm.RoadKit.slotOf Z O n d) v → Go p e below Fn Q T' (mkF m q Ls S)) : Go p e below Fn Q T (mkF m pc Ls (v :: .ref a :: S)) := by
  obtain ⟨T', h', X', e', W', st⟩ := putF X hx hZ hown w1 via eT F E L wi hty hn hf (g := mkF m pc Ls (v :: .ref a :: S)) rfl rfl hd
  subst hq; exact (k T' h' X' e' W').st st
theorem g_getS (X : Stand p l e R s m args below meth c T locs cells slots) (hx : p.tables.exec = Jvm.exec) (q : Nat) (hZ : Z.Warmed39 s.vm) {own R0 O n d host : String} {index : Nat} (hown : s.vm.findClass own = some m.cls) (w1 : (Jvm.Cond.fieldLink own index R0 n d).before a0 Z = true ∨ (Jvm.Cond.fieldLinkNest own index R0 n d host).before a0 Z = true) (via : Via Z R0 O n d) (eT : T.heap = h) {v : Value} (F : Sta Z h O n d v) (hd : decode c.code pc = .ok (.getstatic index, 3)) (hq : pc + 3 = q)
    (k : ∀ T', Stand p l e R s m args below meth c T' locs cells slots → T'.heap = h → Go p e below Fn Q T' (mkF m q Ls (v :: S))) : Go p e below Fn Q T (mkF m pc Ls S) := by
  obtain ⟨T', X', e', st⟩ := getS2 X hx hZ hown w1 via eT F (g := mkF m pc Ls S) rfl hd
  subst hq; exact (k T' X' e').st st
theorem g_new (X : Stand p l e R s m args below meth c T locs cells slots) (hx : p.tables.exec = Jvm.exec) (q : Nat) (hZ : Z.Warmed39 s.vm) {own C : String} {index n : Nat} (hown : s.vm.findClass own = some m.cls) (w1 : (Jvm.Cond.classLink own index C).before a0 Z = true) (wi : (Jvm.Cond.instantiable C n).before a0 Z = true) (wz : (Jvm.Cond.initialized C).before a0 Z = true) (eT : T.heap = h) (hd : decode c.code pc = .ok (.new index, 3)) (hc : cells + 1 ≤ R.cells) (hl : slots + n ≤ R.slots) (hq : pc + 3 = q)
    (k : ∀ T' h' b, b = h.size → Stand p l e R s m args below meth c T' locs (cells + 1) (slots + n) → T'.heap = h' → Ext h h' → Exa Z h' b C → (∀ {O nm d : String} {ty : FieldType}, Laid Z a0 C O nm d → parseFieldDescriptor d = some ty → Fld Z h' b O nm d (defaultValue ty)) → Go p e below Fn Q T' (mkF m q Ls (.ref b :: S))) : Go p e below Fn Q T (mkF m pc Ls S) := by
  obtain ⟨T', h', X', e', E', A', D', -, st⟩ := newO X hx hZ hown w1 wi wz eT (g := mkF m pc Ls S) rfl hd hc hl
  subst hq; exact (k T' h' _ rfl X' e' E' A' D').st st
theorem g_initO (X : Stand p l e R s m args below meth c T locs cells slots) (hx : p.tables.exec = Jvm.exec) (q : Nat) (hZ : Z.Warmed39 s.vm) {own : String} {index : Nat} (hown : s.vm.findClass own = some m.cls) (w1 : (Jvm.Cond.methodLink own index Lib.objectInit).before a0 Z = true) (w2 : (Jvm.Cond.instanceMethod Lib.objectInit).before a0 Z = true) (w3 : (Jvm.Cond.code Lib.objectInit ⟨#[0xb1]⟩ 1 none).before a0 Z = true) (eT : T.heap = h) (hml : Ls.size = c.maxLocals) {a : Addr} (hd : decode c.code pc = .ok (.invokespecial index, 3)) (hf : 1 ≤ R.frames) (W : Nat) (hW : (S.map fun v => v.category).sum ≤ W) (hl : W + 12 ≤ R.locals) (hq : pc + 3 = q)
    (k : ∀ T', Stand p l e R s m args below meth c T' locs cells slots → T'.heap = h → Go p e below Fn Q T' (mkF m q Ls S)) : Go p e below Fn Q T (mkF m pc Ls (.ref a :: S)) := by
  obtain ⟨T', X', e', st⟩ := initO X hx hZ hown w1 w2 w3 eT (g := mkF m pc Ls (.ref a :: S)) rfl hml rfl hd hf (W := W) (by show 2 * 0 + _ ≤ _; omega) hl
  subst hq; exact (k T' X' e').st st
theorem g_newP (X : Stand p l e R s m args below meth c T locs cells slots) (hx : p.tables.exec = Jvm.exec) (q : Nat) (hZ : Z.Warmed39 s.vm) {aty : ArrayType} (w1 : (Jvm.Cond.arrayClass (newarray.typeOf aty)).before a0 Z = true) (eT : T.heap = h) {n : Int32} (hd : decode c.code pc = .ok (.newarray aty, 2)) (hn : ¬ n < 0) (cap : Nat) (hcap : n.toNatClampNeg ≤ cap) (hb : cap * 8 ≤ 536870912) (hc : cells + 1 ≤ R.cells) (hl : slots + cap ≤ R.slots) (hq : pc + 2 = q)
    (k : ∀ T' h' b kA, b = h.size → Stand p l e R s m args below meth c T' locs (cells + 1) (slots + cap) → T'.heap = h' → Ext h h' → Arv Z h' b kA (newarray.typeOf aty) n [] (defaultValue (newarray.typeOf aty)) → Go p e below Fn Q T' (mkF m q Ls (.ref b :: S))) : Go p e below Fn Q T (mkF m pc Ls (.int n :: S)) := by
  obtain ⟨T', h', cA, X', e', E', A', st⟩ := newP X hx hZ w1 eT (g := mkF m pc Ls (.int n :: S)) rfl hd rfl hn hcap hb hc hl
  subst hq; exact (k T' h' _ cA rfl X' e' E' (Arv.new A' hn)).st st
theorem g_newR (X : Stand p l e R s m args below meth c T locs cells slots) (hx : p.tables.exec = Jvm.exec) (q : Nat) (hZ : Z.Warmed39 s.vm) {own C : String} {index : Nat} (hown : s.vm.findClass own = some m.cls) (w1 : (Jvm.Cond.classLink own index C).before a0 Z = true) (w2 : (Jvm.Cond.arrayOver (.object C)).before a0 Z = true) (eT : T.heap = h) {n : Int32} (hd : decode c.code pc = .ok (.anewarray index, 3)) (hn : ¬ n < 0) (cap : Nat) (hcap : n.toNatClampNeg ≤ cap) (hb : cap * 8 ≤ 536870912) (hc : cells + 1 ≤ R.cells) (hl : slots + cap ≤ R.slots) (hq : pc + 3 = q)
    (k : ∀ T' h' b kA, b = h.size → Stand p l e R s m args below meth c T' locs (cells + 1) (slots + cap) → T'.heap = h' → Ext h h' → Arv Z h' b kA (.object C) n [] .null → Ovr Z kA C → Go p e below Fn Q T' (mkF m q Ls (.ref b :: S))) : Go p e below Fn Q T (mkF m pc Ls (.int n :: S)) := by
  obtain ⟨T', h', cA, X', e', E', A', O', st⟩ := newR X hx hZ hown w1 w2 eT (g := mkF m pc Ls (.int n :: S)) rfl hd rfl hn hcap hb hc hl
  subst hq; exact (k T' h' _ cA rfl X' e' E' (Arv.new A' hn) O').st st
theorem g_iaload (X : Stand p l e R s m args below meth c T locs cells slots) (hx : p.tables.exec = Jvm.exec) (q : Nat) (hZ : Z.Warmed39 s.vm) (eT : T.heap = h) {a : Addr} {kA : ClassId} {n j : Int32} {vs : List Value} {dv v : Value} (V : Arv Z h a kA .int n vs dv) (hj : ¬ j < 0 ∧ j < n) (hv : vs.getD j.toNatClampNeg dv = v) (hd : decode c.code pc = .ok (.iaload, 1)) (hq : pc + 1 = q) (k : Go p e below Fn Q T (mkF m q Ls (v :: S))) : Go p e below Fn Q T (mkF m pc Ls (.int j :: .ref a :: S)) := by
  obtain ⟨cl, A, -, S', -, H', -⟩ := V
  subst hq
  exact k.st fun _ z => X.iaload hx (by rw [eT]; exact A.1) (State.isArrayOf_alike hZ.alike A.2.1) A.2.2 (inb_of S' hj) (H'.at (inb_of S' hj) hv) (g := mkF m pc Ls (.int j :: .ref a :: S)) rfl rfl hd _ z
theorem g_caload (X : Stand p l e R s m args below meth c T locs cells slots) (hx : p.tables.exec = Jvm.exec) (q : Nat) (hZ : Z.Warmed39 s.vm) (eT : T.heap = h) {a : Addr} {kA : ClassId} {n j : Int32} {vs : List Value} {dv v : Value} (V : Arv Z h a kA .char n vs dv) (hj : ¬ j < 0 ∧ j < n) (hv : vs.getD j.toNatClampNeg dv = v) (hd : decode c.code pc = .ok (.caload, 1)) (hq : pc + 1 = q) (k : Go p e below Fn Q T (mkF m q Ls (v :: S))) : Go p e below Fn Q T (mkF m pc Ls (.int j :: .ref a :: S)) := by
  obtain ⟨cl, A, -, S', -, H', -⟩ := V
  subst hq
  exact k.st fun _ z => X.caload hx (by rw [eT]; exact A.1) (State.isArrayOf_alike hZ.alike A.2.1) A.2.2 (inb_of S' hj) (H'.at (inb_of S' hj) hv) (g := mkF m pc Ls (.int j :: .ref a :: S)) rfl rfl hd _ z
theorem g_laload (X : Stand p l e R s m args below meth c T locs cells slots) (hx : p.tables.exec = Jvm.exec) (q : Nat) (hZ : Z.Warmed39 s.vm) (eT : T.heap = h) {a : Addr} {kA : ClassId} {n j : Int32} {vs : List Value} {dv v : Value} (V : Arv Z h a kA .long n vs dv) (hj : ¬ j < 0 ∧ j < n) (hv : vs.getD j.toNatClampNeg dv = v) (hd : decode c.code pc = .ok (.laload, 1)) (hq : pc + 1 = q) (k : Go p e below Fn Q T (mkF m q Ls (v :: S))) : Go p e below Fn Q T (mkF m pc Ls (.int j :: .ref a :: S)) := by
  obtain ⟨cl, A, -, S', -, H', -⟩ := V
  subst hq
  exact k.st fun _ z => X.laload hx (by rw [eT]; exact A.1) (State.isArrayOf_alike hZ.alike A.2.1) A.2.2 (inb_of S' hj) (H'.at (inb_of S' hj) hv) (g := mkF m pc Ls (.int j :: .ref a :: S)) rfl rfl hd _ z
theorem g_baload (X : Stand p l e R s m args below meth c T locs cells slots) (hx : p.tables.exec = Jvm.exec) (q : Nat) (hZ : Z.Warmed39 s.vm) (eT : T.heap = h) {a : Addr} {kA : ClassId} {n j : Int32} {vs : List Value} {dv v : Value} (V : Arv Z h a kA .byte n vs dv) (hj : ¬ j < 0 ∧ j < n) (hv : vs.getD j.toNatClampNeg dv = v) (hd : decode c.code pc = .ok (.baload, 1)) (hq : pc + 1 = q) (k : Go p e below Fn Q T (mkF m q Ls (v :: S))) : Go p e below Fn Q T (mkF m pc Ls (.int j :: .ref a :: S)) := by
  obtain ⟨cl, A, -, S', -, H', -⟩ := V
  subst hq
  exact k.st fun _ z => X.baloadBytes hx (by rw [eT]; exact A.1) (State.isArrayOf_alike hZ.alike A.2.1) A.2.2 (inb_of S' hj) (H'.at (inb_of S' hj) hv) (g := mkF m pc Ls (.int j :: .ref a :: S)) rfl rfl hd _ z
theorem g_aaload (X : Stand p l e R s m args below meth c T locs cells slots) (hx : p.tables.exec = Jvm.exec) (q : Nat) (hZ : Z.Warmed39 s.vm) (eT : T.heap = h) {a : Addr} {kA : ClassId} {C : String} {n j : Int32} {vs : List Value} {dv v : Value} (V : Arv Z h a kA (.object C) n vs dv) (hj : ¬ j < 0 ∧ j < n) (hv : vs.getD j.toNatClampNeg dv = v) (hd : decode c.code pc = .ok (.aaload, 1)) (hq : pc + 1 = q) (k : Go p e below Fn Q T (mkF m q Ls (v :: S))) : Go p e below Fn Q T (mkF m pc Ls (.int j :: .ref a :: S)) := by
  obtain ⟨cl, A, -, S', -, H', -⟩ := V
  subst hq
  exact k.st fun _ z => X.aaload hx (by rw [eT]; exact A.1) (State.isArrayOf_alike hZ.alike A.2.1) rfl A.2.2 (inb_of S' hj) (H'.at (inb_of S' hj) hv) (g := mkF m pc Ls (.int j :: .ref a :: S)) rfl rfl hd _ z
theorem g_arraylength (X : Stand p l e R s m args below meth c T locs cells slots) (hx : p.tables.exec = Jvm.exec) (q : Nat) (hZ : Z.Warmed39 s.vm) (eT : T.heap = h) {a : Addr} {kA : ClassId} {ty : FieldType} {n : Int32} {vs : List Value} {dv : Value} (V : Arv Z h a kA ty n vs dv) (hd : decode c.code pc = .ok (.arraylength, 1)) (hq : pc + 1 = q) (k : Go p e below Fn Q T (mkF m q Ls (.int n :: S))) : Go p e below Fn Q T (mkF m pc Ls (.ref a :: S)) := by
  obtain ⟨cl, A, -, S', N', -, -⟩ := V
  subst hq
  exact k.st fun _ z => X.arraylength hx (by rw [eT]; exact A.1) (State.isArrayOf_alike hZ.alike A.2.1) (g := mkF m pc Ls (.ref a :: S)) rfl rfl hd _ (by rw [len_of S' N']; exact z)
theorem g_aastore (X : Stand p l e R s m args below meth c T locs cells slots) (hx : p.tables.exec = Jvm.exec) (q : Nat) (hZ : Z.Warmed39 s.vm) (eT : T.heap = h) {a b : Addr} {kA : ClassId} {C : String} {n j : Int32} {vs : List Value} {dv : Value} (V : Arv Z h a kA (.object C) n vs dv) (O : Ovr Z kA C) (I : Ins Z h b C true) (i : Nat) (hi : j.toNatClampNeg = i) (hj : ¬ j < 0 ∧ j < n) (hl : i < vs.length) (hd : decode c.code pc = .ok (.aastore, 1)) (hq : pc + 1 = q)
    (k : ∀ T' h', Stand p l e R s m args below meth c T' (locs ++ [⟨a, j.toNatClampNeg⟩]) cells slots → T'.heap = h' → Wr h h' a j.toNatClampNeg (.ref b) → Arv Z h' a kA (.object C) n (vs.set i (.ref b)) dv → Go p e below Fn Q T' (mkF m q Ls S)) : Go p e below Fn Q T (mkF m pc Ls (.ref b :: .int j :: .ref a :: S)) := by
  obtain ⟨cl, A, q1, S', N', H', G'⟩ := V
  subst hq
  obtain ⟨T', h', X', e', W', st⟩ := stR X hx hZ eT A (j := j) (inb_of S' hj) rfl (Sto.ofV A q1 O I) (g := mkF m pc Ls (.ref b :: .int j :: .ref a :: S)) rfl rfl hd
  exact (k T' h' X' e' W' (Arv.set A q1 S' N' H' G' rfl W' i hi hl)).st st
theorem g_iastore (X : Stand p l e R s m args below meth c T locs cells slots) (hx : p.tables.exec = Jvm.exec) (q : Nat) (hZ : Z.Warmed39 s.vm) (eT : T.heap = h) {a : Addr} {kA : ClassId} {n j x : Int32} {vs : List Value} {dv : Value} (V : Arv Z h a kA .int n vs dv) (i : Nat) (hi : j.toNatClampNeg = i) (hj : ¬ j < 0 ∧ j < n) (hl : i < vs.length) (hd : decode c.code pc = .ok (.iastore, 1)) (hq : pc + 1 = q)
    (k : ∀ T' h', Stand p l e R s m args below meth c T' (locs ++ [⟨a, j.toNatClampNeg⟩]) cells slots → T'.heap = h' → Wr h h' a j.toNatClampNeg (.int x) → Arv Z h' a kA .int n (vs.set i (.int x)) dv → Go p e below Fn Q T' (mkF m q Ls S)) : Go p e below Fn Q T (mkF m pc Ls (.int x :: .int j :: .ref a :: S)) := by
  obtain ⟨cl, A, q1, S', N', H', G'⟩ := V
  subst hq
  obtain ⟨T', h', X', e', W', st⟩ := stI X hx hZ eT A (j := j) (inb_of S' hj) (g := mkF m pc Ls (.int x :: .int j :: .ref a :: S)) rfl rfl hd
  exact (k T' h' X' e' W' (Arv.set A q1 S' N' H' G' rfl W' i hi hl)).st st
theorem g_castore (X : Stand p l e R s m args below meth c T locs cells slots) (hx : p.tables.exec = Jvm.exec) (q : Nat) (hZ : Z.Warmed39 s.vm) (eT : T.heap = h) {a : Addr} {kA : ClassId} {n j x : Int32} {vs : List Value} {dv : Value} (V : Arv Z h a kA .char n vs dv) (i : Nat) (hi : j.toNatClampNeg = i) (hj : ¬ j < 0 ∧ j < n) (hl : i < vs.length) (hd : decode c.code pc = .ok (.castore, 1)) (hq : pc + 1 = q)
    (k : ∀ T' h', Stand p l e R s m args below meth c T' (locs ++ [⟨a, j.toNatClampNeg⟩]) cells slots → T'.heap = h' → Wr h h' a j.toNatClampNeg (.int (nar .char x)) → Arv Z h' a kA .char n (vs.set i (.int (nar .char x))) dv → Go p e below Fn Q T' (mkF m q Ls S)) : Go p e below Fn Q T (mkF m pc Ls (.int x :: .int j :: .ref a :: S)) := by
  obtain ⟨cl, A, q1, S', N', H', G'⟩ := V
  subst hq
  obtain ⟨T', h', X', e', W', st⟩ := stC X hx hZ eT A (j := j) (inb_of S' hj) (g := mkF m pc Ls (.int x :: .int j :: .ref a :: S)) rfl rfl hd
  exact (k T' h' X' e' W' (Arv.set A q1 S' N' H' G' (fits_nar_char _) W' i hi hl)).st st
theorem g_bastore (X : Stand p l e R s m args below meth c T locs cells slots) (hx : p.tables.exec = Jvm.exec) (q : Nat) (hZ : Z.Warmed39 s.vm) (eT : T.heap = h) {a : Addr} {kA : ClassId} {n j x : Int32} {vs : List Value} {dv : Value} (V : Arv Z h a kA .byte n vs dv) (i : Nat) (hi : j.toNatClampNeg = i) (hj : ¬ j < 0 ∧ j < n) (hl : i < vs.length) (hd : decode c.code pc = .ok (.bastore, 1)) (hq : pc + 1 = q)
    (k : ∀ T' h', Stand p l e R s m args below meth c T' (locs ++ [⟨a, j.toNatClampNeg⟩]) cells slots → T'.heap = h' → Wr h h' a j.toNatClampNeg (.int (nar .byte x)) → Arv Z h' a kA .byte n (vs.set i (.int (nar .byte x))) dv → Go p e below Fn Q T' (mkF m q Ls S)) : Go p e below Fn Q T (mkF m pc Ls (.int x :: .int j :: .ref a :: S)) := by
  obtain ⟨cl, A, q1, S', N', H', G'⟩ := V
  subst hq
  obtain ⟨T', h', X', e', W', st⟩ := stB X hx hZ eT A (j := j) (inb_of S' hj) (g := mkF m pc Ls (.int x :: .int j :: .ref a :: S)) rfl rfl hd
  exact (k T' h' X' e' W' (Arv.set A q1 S' N' H' G' (fits_nar_byte _) W' i hi hl)).st st
theorem g_callS (X : Stand p l e R s m args below meth c T locs cells slots) (hx : p.tables.exec = Jvm.exec) (q : Nat) (hZ : Z.Warmed39 s.vm) {own : String} {index : Nat} {y : MethodName} {bytes : ByteArray} {maxL : Nat} {ret : Option FieldType} {rm : Room} {Qc : Option Value → Heap → List Loc → Prop} (hown : s.vm.findClass own = some m.cls) (w1 : (Jvm.Cond.methodLink own index y).before a0 Z = true) (w2 : (Jvm.Cond.static y).before a0 Z = true) (w3 : (Jvm.Cond.initialized y.cls).before a0 Z = true) (w4 : (Jvm.Cond.code y bytes maxL ret).before a0 Z = true) (hy : y.cls ≠ "java/lang/invoke/MethodHandle" ∧ y.cls ≠ "java/lang/invoke/VarHandle") (argsL rest : List Value) (hM : OwnMet l Z y bytes maxL ret [] rm argsL h Qc)
    (eT : T.heap = h) (W : Nat) (hf : rm.frames + 1 ≤ R.frames) (hl : W + (maxL + 11) + rm.locals ≤ R.locals) (hc : cells + rm.cells ≤ R.cells) (hs : slots + rm.slots ≤ R.slots) (hml : Ls.size = c.maxLocals) (hlen : ∀ sig, parseMethodDescriptor y.desc = some sig → argsL.length = sig.parameters.length) (hd : decode c.code pc = .ok (.invokestatic index, 3)) (hst : S = argsL.reverse ++ rest) (hW : (rest.map fun v => v.category).sum ≤ W) (hq : pc + 3 = q) (k : ∀ v T' L', Stand p l e R s m args below meth c T' (locs ++ L') (cells + rm.cells) (slots + rm.slots) → Qc v T'.heap L' → Go p e below Fn Q T' (mkF m q Ls (v.toList ++ rest))) : Go p e below Fn Q T (mkF m pc Ls S) := by
  subst hst
  obtain ⟨v, _, ⟨T', L', k', n'⟩, -, X', ⟨Lc, hQ, l', y', z'⟩, st⟩ := Jvm.LawKit.callS X hx (y := y) hown (mvT hZ w1) (mvT hZ w2) (mvT hZ w3) (mvT hZ w4) hy (backOf (W := W) hM hZ w4 w3 hf hl) (g := mkF m pc Ls (argsL.reverse ++ rest)) rfl hml (argsL := argsL) (rest := rest) hlen rfl (by show 2 * 0 + _ ≤ _; omega) hd (fun _ _ => ⟨rfl, eT, hc, hs⟩)
  dsimp only [Pt.U, Pt.locs, Pt.cells, Pt.slots] at X' l' y' z' st hQ
  subst l' y' z' hq
  exact (k v T' Lc X' hQ).st st
theorem g_callI (X : Stand p l e R s m args below meth c T locs cells slots) (hx : p.tables.exec = Jvm.exec) (q : Nat) (hZ : Z.Warmed39 s.vm) {own : String} {index : Nat} {y : MethodName} {bytes : ByteArray} {maxL : Nat} {rm : Room} {Qc : Option Value → Heap → List Loc → Prop} (hy1 : y.name = "<init>") (hown : s.vm.findClass own = some m.cls) (w1 : (Jvm.Cond.methodLink own index y).before a0 Z = true) (w2 : (Jvm.Cond.instanceMethod y).before a0 Z = true) (w3 : (Jvm.Cond.initialized y.cls).before a0 Z = true) (w4 : (Jvm.Cond.code y bytes maxL none).before a0 Z = true) (hy : y.cls ≠ "java/lang/invoke/MethodHandle" ∧ y.cls ≠ "java/lang/invoke/VarHandle") (a : Addr) (argsL rest : List Value) (hM : OwnMet l Z y bytes maxL none [] rm (.ref a :: argsL) h Qc)
    (eT : T.heap = h) (W : Nat) (hf : rm.frames + 1 ≤ R.frames) (hl : W + (maxL + 11) + rm.locals ≤ R.locals) (hc : cells + rm.cells ≤ R.cells) (hs : slots + rm.slots ≤ R.slots) (hml : Ls.size = c.maxLocals) (hlen : ∀ sig, parseMethodDescriptor y.desc = some sig → argsL.length = sig.parameters.length) (hd : decode c.code pc = .ok (.invokespecial index, 3)) (hst : S = argsL.reverse ++ .ref a :: rest) (hW : (rest.map fun v => v.category).sum ≤ W) (hq : pc + 3 = q) (k : ∀ v T' L', Stand p l e R s m args below meth c T' (locs ++ L') (cells + rm.cells) (slots + rm.slots) → Qc v T'.heap L' → Go p e below Fn Q T' (mkF m q Ls (v.toList ++ rest))) : Go p e below Fn Q T (mkF m pc Ls S) := by
  subst hst
  obtain ⟨v, _, ⟨T', L', k', n'⟩, -, X', ⟨Lc, hQ, l', y', z'⟩, st⟩ := X.specialBack hx (y := y) hy1 hown (mvT hZ w1) (mvT hZ w2) (mvT hZ w4) hy (backOf (W := W) hM hZ w4 w3 hf hl) (g := mkF m pc Ls (argsL.reverse ++ .ref a :: rest)) rfl hml (Steps.refl _) (a := a) (argsL := argsL) (rest := rest) hlen rfl (by show 2 * 0 + _ ≤ _; omega) hd (fun _ _ => ⟨rfl, eT, hc, hs⟩)
  dsimp only [Pt.U, Pt.locs, Pt.cells, Pt.slots] at X' l' y' z' st hQ
  subst l' y' z' hq
  exact (k v T' Lc X' hQ).st fun _ z => st.trans z
theorem g_callV (X : Stand p l e R s m args below meth c T locs cells slots) (hx : p.tables.exec = Jvm.exec) (q : Nat) (hZ : Z.Warmed39 s.vm) {own C : String} {index : Nat} {y : MethodName} {bytes : ByteArray} {maxL : Nat} {ret : Option FieldType} {rm : Room} {Qc : Option Value → Heap → List Loc → Prop} (hown : s.vm.findClass own = some m.cls) (w1 : (Jvm.Cond.methodLink own index y).before a0 Z = true) (w2 : (Jvm.Cond.declares y).before a0 Z = true) (w5 : (Jvm.Cond.selects C y y).before a0 Z = true) (w6 : (Jvm.Cond.instanceMethod y).before a0 Z = true) (w3 : (Jvm.Cond.initialized y.cls).before a0 Z = true) (w4 : (Jvm.Cond.code y bytes maxL ret).before a0 Z = true) (hy : y.cls ≠ "java/lang/invoke/MethodHandle" ∧ y.cls ≠ "java/lang/invoke/VarHandle") (a : Addr) (E : Exa Z h a C) (argsL rest : List Value) (hM : OwnMet l Z y bytes maxL ret [] rm (.ref a :: argsL) h Qc)
    (eT : T.heap = h) (W : Nat) (hf : rm.frames + 1 ≤ R.frames) (hl : W + (maxL + 11) + rm.locals ≤ R.locals) (hc : cells + rm.cells ≤ R.cells) (hs : slots + rm.slots ≤ R.slots) (hml : Ls.size = c.maxLocals) (hlen : ∀ sig, parseMethodDescriptor y.desc = some sig → argsL.length = sig.parameters.length) (hd : decode c.code pc = .ok (.invokevirtual index, 3)) (hst : S = argsL.reverse ++ .ref a :: rest) (hW : (rest.map fun v => v.category).sum ≤ W) (hq : pc + 3 = q) (k : ∀ v T' L', Stand p l e R s m args below meth c T' (locs ++ L') (cells + rm.cells) (slots + rm.slots) → Qc v T'.heap L' → Go p e below Fn Q T' (mkF m q Ls (v.toList ++ rest))) : Go p e below Fn Q T (mkF m pc Ls S) := by
  subst hst
  obtain ⟨cq, kq, qa, qb, qc⟩ := isOf (T := T) hZ eT E
  obtain ⟨v, _, ⟨T', L', k', n'⟩, -, X', ⟨Lc, hQ, l', y', z'⟩, st⟩ := X.virtualBack hx (y := y) (z := y) hown (mvT hZ w1) (mvT hZ w2) (notFace_of_selects (args := #[]) (mvT hZ w5)) (mvT hZ w5) (mvT hZ w6) hy (backOf (W := W) hM hZ w4 w3 hf hl) qa qc (g := mkF m pc Ls (argsL.reverse ++ .ref a :: rest)) rfl hml (Steps.refl _) (argsL := argsL) (rest := rest) hlen rfl (by show 2 * 0 + _ ≤ _; omega) hd (fun _ _ => ⟨rfl, eT, hc, hs⟩)
  dsimp only [Pt.U, Pt.locs, Pt.cells, Pt.slots] at X' l' y' z' st hQ
  subst l' y' z' hq
  exact (k v T' Lc X' hQ).st fun _ z => st.trans z
theorem g_newPE (X : Stand p l e R s m args below meth c T locs cells slots) (hx : p.tables.exec = Jvm.exec) (q : Nat) (hZ : Z.Warmed39 s.vm) {aty : ArrayType} (w1 : (Jvm.Cond.arrayClass (newarray.typeOf aty)).before a0 Z = true) (eT : T.heap = h) {n : Int32} (hd : decode c.code pc = .ok (.newarray aty, 2)) (hn : ¬ n < 0) (cap : Nat) (hcap : n.toNatClampNeg ≤ cap) (hb : cap * 8 ≤ 536870912) (hc : cells + 1 ≤ R.cells) (hl : slots + cap ≤ R.slots) (ad : String) (had : "[" ++ (newarray.typeOf aty).toString = ad) (hq : pc + 2 = q)
    (k : ∀ T' h' b kA, b = h.size → Stand p l e R s m args below meth c T' locs (cells + 1) (slots + cap) → T'.heap = h' → Ext h h' → Arv Z h' b kA (newarray.typeOf aty) n [] (defaultValue (newarray.typeOf aty)) → Exa Z h' b ad → Go p e below Fn Q T' (mkF m q Ls (.ref b :: S))) : Go p e below Fn Q T (mkF m pc Ls (.int n :: S)) := by
  obtain ⟨T', h', cA, X', e', E', A', I', st⟩ := newPE X hx hZ w1 eT (g := mkF m pc Ls (.int n :: S)) rfl hd rfl hn hcap hb hc hl had
  subst hq; exact (k T' h' _ cA rfl X' e' E' (Arv.new A' hn) I').st st
theorem g_clone (X : Stand p l e R s m args below meth c T locs cells slots) (hx : p.tables.exec = Jvm.exec) (q : Nat) (hZ : Z.Warmed39 s.vm) {own ad : String} {index : Nat} (hown : s.vm.findClass own = some m.cls) (w1 : (Jvm.Cond.methodLink own index ⟨ad, "clone", "()Ljava/lang/Object;"⟩).before a0 Z = true) (w2 : (Jvm.Cond.sameMethod ad "java/lang/Object" "clone" "()Ljava/lang/Object;").before a0 Z = true) (w3 : (Jvm.Cond.native ⟨"java/lang/Object", "clone", "()Ljava/lang/Object;"⟩).before a0 Z = true) (w4 : (Jvm.Cond.instanceMethod ⟨"java/lang/Object", "clone", "()Ljava/lang/Object;"⟩).before a0 Z = true) (w5 : (Jvm.Cond.selects ad ⟨ad, "clone", "()Ljava/lang/Object;"⟩ ⟨"java/lang/Object", "clone", "()Ljava/lang/Object;"⟩).before a0 Z = true) (w6 : (Jvm.Cond.castable ad "java/lang/Cloneable").before a0 Z = true)
    (eT : T.heap = h) {a : Addr} {kA : ClassId} {ty : FieldType} {n : Int32} {vs : List Value} {dv : Value} (V : Arv Z h a kA ty n vs dv) (E : Exa Z h a ad) (hml : Ls.size = c.maxLocals) (hd : decode c.code pc = .ok (.invokevirtual index, 3)) (hf : 1 ≤ R.frames) (W cap : Nat) (hW : (S.map fun v => v.category).sum ≤ W) (hl : W + 14 ≤ R.locals) (hcap : n.toNatClampNeg ≤ cap) (hc : cells + 1 ≤ R.cells) (hsl : slots + cap ≤ R.slots) (hq : pc + 3 = q)
    (k : ∀ T' h' b, b = h.size → Stand p l e R s m args below meth c T' locs (cells + 1) (slots + cap) → T'.heap = h' → Ext h h' → Arv Z h' b kA ty n vs dv → Exa Z h' b ad → Go p e below Fn Q T' (mkF m q Ls (.ref b :: S))) : Go p e below Fn Q T (mkF m pc Ls (.ref a :: S)) := by
  obtain ⟨T', h', X', e', E', V', I', st⟩ := cloneH X hx hZ hown w1 w2 w3 w4 w5 w6 eT V.arh E (g := mkF m pc Ls (.ref a :: S)) rfl hml rfl hd hf (W := W) (by show 2 * 0 + _ ≤ _; omega) hl hcap hc hsl
  subst hq; exact (k T' h' _ rfl X' e' E' V' I').st st
theorem g_cast (X : Stand p l e R s m args below meth c T locs cells slots) (hx : p.tables.exec = Jvm.exec) (q : Nat) (hZ : Z.Warmed39 s.vm) {own C : String} {index : Nat} (hown : s.vm.findClass own = some m.cls) (w1 : (Jvm.Cond.classLink own index C).before a0 Z = true) (eT : T.heap = h) {a : Addr} (I : Ins Z h a C true) (hd : decode c.code pc = .ok (.checkcast index, 3)) (hq : pc + 3 = q)
    (k : ∀ T', Stand p l e R s m args below meth c T' locs cells slots → T'.heap = h → Go p e below Fn Q T' (mkF m q Ls (.ref a :: S))) : Go p e below Fn Q T (mkF m pc Ls (.ref a :: S)) := by
  obtain ⟨T', X', e', st⟩ := castY X hx hZ hown w1 eT I (g := mkF m pc Ls (.ref a :: S)) rfl rfl hd
  subst hq; exact (k T' X' e').st st
theorem g_callU (X : Stand p l e R s m args below meth c T locs cells slots) (hx : p.tables.exec = Jvm.exec) (q : Nat) (hZ : Z.Warmed39 s.vm) {own C owner : String} {index : Nat} {x y : MethodName} {bytes : ByteArray} {maxL : Nat} {ret : Option FieldType} {rm : Room} {Qc : Option Value → Heap → List Loc → Prop} (hown : s.vm.findClass own = some m.cls) (w1 : (Jvm.Cond.methodLink own index x).before a0 Z = true) (w2 : (Jvm.Cond.sameMethod x.cls owner x.name x.desc).before a0 Z = true) (w7 : (Jvm.Cond.declares ⟨owner, x.name, x.desc⟩).before a0 Z = true) (hy : owner ≠ "java/lang/invoke/MethodHandle" ∧ owner ≠ "java/lang/invoke/VarHandle") (w5 : (Jvm.Cond.selects C x y).before a0 Z = true) (w6 : (Jvm.Cond.instanceMethod y).before a0 Z = true) (w3 : (Jvm.Cond.initialized y.cls).before a0 Z = true) (w4 : (Jvm.Cond.code y bytes maxL ret).before a0 Z = true) (a : Addr) (E : Exa Z h a C) (argsL rest : List Value) (hM : OwnMet l Z y bytes maxL ret [] rm (.ref a :: argsL) h Qc)
    (eT : T.heap = h) (W : Nat) (hf : rm.frames + 1 ≤ R.frames) (hl : W + (maxL + 11) + rm.locals ≤ R.locals) (hc : cells + rm.cells ≤ R.cells) (hs : slots + rm.slots ≤ R.slots) (hml : Ls.size = c.maxLocals) (hlen : ∀ sig, parseMethodDescriptor x.desc = some sig → argsL.length = sig.parameters.length) (hd : decode c.code pc = .ok (.invokevirtual index, 3)) (hst : S = argsL.reverse ++ .ref a :: rest) (hW : (rest.map fun v => v.category).sum ≤ W) (hq : pc + 3 = q) (k : ∀ v T' L', Stand p l e R s m args below meth c T' (locs ++ L') (cells + rm.cells) (slots + rm.slots) → Qc v T'.heap L' → Go p e below Fn Q T' (mkF m q Ls (v.toList ++ rest))) : Go p e below Fn Q T (mkF m pc Ls S) := by
  subst hst
  obtain ⟨cq, kq, qa, qb, qc⟩ := isOf (T := T) hZ eT E
  obtain ⟨v, _, ⟨T', L', k', n'⟩, -, X', ⟨Lc, hQ, l', y', z'⟩, st⟩ := X.virtualBackUp hx (x := x) (y := y) hown (mvT hZ w1) (mvT hZ w2) (mvT hZ w7) hy (mvT hZ w5) (mvT hZ w6) (backOf (W := W) hM hZ w4 w3 hf hl) qa qc (g := mkF m pc Ls (argsL.reverse ++ .ref a :: rest)) rfl hml (Steps.refl _) (argsL := argsL) (rest := rest) hlen rfl (by show 2 * 0 + _ ≤ _; omega) hd (fun _ _ => ⟨rfl, eT, hc, hs⟩)
  dsimp only [Pt.U, Pt.locs, Pt.cells, Pt.slots] at X' l' y' z' st hQ
  subst l' y' z' hq
  exact (k v T' Lc X' hQ).st fun _ z => st.trans z
theorem g_callP (X : Stand p l e R s m args below meth c T locs cells slots) (hx : p.tables.exec = Jvm.exec) (q : Nat) (hZ : Z.Warmed39 s.vm) {own C0 : String} {index : Nat} {y y0 : MethodName} {bytes : ByteArray} {maxL : Nat} {ret : Option FieldType} {rm : Room} {Qc : Option Value → Heap → List Loc → Prop} (hown : s.vm.findClass own = some m.cls) (w1 : (Jvm.Cond.methodLink own index y).before a0 Z = true) (w6 : (Jvm.Cond.instanceMethod y).before a0 Z = true) (w8 : (Jvm.Cond.privateMethod y).before a0 Z = true) (w5 : (Jvm.Cond.selects C0 y0 y0).before a0 Z = true) (hc0 : y0.cls = y.cls) (w3 : (Jvm.Cond.initialized y.cls).before a0 Z = true) (w4 : (Jvm.Cond.code y bytes maxL ret).before a0 Z = true) (hy : y.cls ≠ "java/lang/invoke/MethodHandle" ∧ y.cls ≠ "java/lang/invoke/VarHandle") {C : String} (a : Addr) (E : Exa Z h a C) (argsL rest : List Value) (hM : OwnMet l Z y bytes maxL ret [] rm (.ref a :: argsL) h Qc)
    (eT : T.heap = h) (W : Nat) (hf : rm.frames + 1 ≤ R.frames) (hl : W + (maxL + 11) + rm.locals ≤ R.locals) (hc : cells + rm.cells ≤ R.cells) (hs : slots + rm.slots ≤ R.slots) (hml : Ls.size = c.maxLocals) (hlen : ∀ sig, parseMethodDescriptor y.desc = some sig → argsL.length = sig.parameters.length) (hd : decode c.code pc = .ok (.invokevirtual index, 3)) (hst : S = argsL.reverse ++ .ref a :: rest) (hW : (rest.map fun v => v.category).sum ≤ W) (hq : pc + 3 = q) (k : ∀ v T' L', Stand p l e R s m args below meth c T' (locs ++ L') (cells + rm.cells) (slots + rm.slots) → Qc v T'.heap L' → Go p e below Fn Q T' (mkF m q Ls (v.toList ++ rest))) : Go p e below Fn Q T (mkF m pc Ls S) := by
  subst hst
  have hpriv : s.PrivateAt y := Cond.privateMethod_at (mvP hZ w8 (args := #[]))
  have hsel : (Jvm.Cond.selects y.cls y y).before args s = true := by
    obtain ⟨c2, r2, m2, -, -, q3, -, kP, hkP, hkPi⟩ := Cond.selects_spec (mvT hZ w5 : (Jvm.Cond.selects C0 y0 y0).before args s = true)
    exact selects_self_of_private (hc0 ▸ findClass_of_methodNamed q3) hkP hkPi hpriv (mvT hZ w6) hy
  obtain ⟨cq, qa, qb⟩ := E.cell
  obtain ⟨v, _, ⟨T', L', k', n'⟩, -, X', ⟨Lc, hQ, l', y', z'⟩, st⟩ := X.privateBack hx (y := y) hown (mvT hZ w1) (mvT hZ w6) hsel hpriv (mvT hZ w4) hy (backOf (W := W) hM hZ w4 w3 hf hl) (g := mkF m pc Ls (argsL.reverse ++ .ref a :: rest)) rfl hml (Steps.refl _) (a := a) (by rw [eT]; exact qa) qb (argsL := argsL) (rest := rest) hlen rfl (by show 2 * 0 + _ ≤ _; omega) hd (fun _ _ => ⟨rfl, eT, hc, hs⟩)
  dsimp only [Pt.U, Pt.locs, Pt.cells, Pt.slots] at X' l' y' z' st hQ
  subst l' y' z' hq
  exact (k v T' Lc X' hQ).st fun _ z => st.trans z
theorem own_sta_keep {h' : Heap} {C n d : String} {v : Value} (F : Sta Z h C n d v) (Kp : Keep h h' []) : Sta Z h' C n d v := by
  obtain ⟨cf, i, k, f, st, cell, h1, h2, h3, h4, h5, r⟩ := F
  exact ⟨cf, i, k, f, st, cell, h1, h2, h3, h4, Kp.2.1 _ _ h5 nin0, r⟩
theorem own_plain {C : String} {x : Addr} (F : Exa Z h x C) : ∃ cl : Cell, h[x]? = some cl ∧ cl.vm.isStatics = false := by
  obtain ⟨c, _, h1, -, -, h4, -⟩ := F; exact ⟨c, h1, h4⟩
theorem own_sta_keep' {h' : Heap} {C n d : String} {v : Value} {x : Addr} (F : Sta Z h C n d v) (Kp : Keep h h' [x]) (hp : ∃ cl : Cell, h[x]? = some cl ∧ cl.vm.isStatics = false) : Sta Z h' C n d v := by
  obtain ⟨cf, i, k, f, st, cell, h1, h2, h3, h4, h5, h6, r⟩ := F
  obtain ⟨cl, q1, q2⟩ := hp
  have ne : st ≠ x := fun q => by rw [q] at h5; rw [q1] at h5; cases h5; rw [q2] at h6; cases h6
  exact ⟨cf, i, k, f, st, cell, h1, h2, h3, h4, Kp.2.1 _ _ h5 (ninS ne nin0), h6, r⟩
end OwnKit
theorem own_pn0 : plainName "java/lang/Record" = true := by first | (simp [plainName, overriddenIn]; done) | decide +kernel
theorem d2_0 : decode jdk_30_method_1_code 0 = .ok (.aload_n 0, 1) := by decide +kernel
theorem d2_1 : decode jdk_30_method_1_code 1 = .ok (.invokespecial 1, 3) := by decide +kernel
theorem d2_4 : decode jdk_30_method_1_code 4 = .ok (.return_, 1) := by decide +kernel
set_option maxRecDepth 65536 in
set_option maxHeartbeats 40000000 in
theorem rm2 (l : Launch) (Z : State) (a0 : Array Value) (hw : ∀ d ∈ tables_1, d.before a0 Z = true) (a : Addr) (h0 : Heap) (n0 : Nat) (Z0 : n0 ≤ h0.size)  :
    OwnMet l Z (⟨"java/lang/Record", "<init>", "()V"⟩ : MethodName) jdk_30_method_1_code 1 none [] ({ frames := 1, cells := 0, slots := 0, locals := 12 } : Room) [(.ref a)] h0 (fun v h L => v = none ∧ Fr n0 L ∧ h = h0) := by
  refine own_body (Ls := #[.val (.ref a)]) (plainFor_of_name own_pn0) (fun m => by first | (simp [entryFrame, mkF, argsToLocals, Value.category]; done) | rfl) (fun p e s m below meth c T0 hx hby hml hown hnm hret hlk hZ X0 e0 => ?_)
  have hown : s.vm.findClass "java/lang/Record" = some m.cls := hown
  have N0 := Fr.nil n0
  refine g_aloadN X0 hx 1 (hb hby d2_0) rfl rfl rfl ?_
  refine g_initO X0 hx 4 hZ hown (own_w hw 11 rfl) (own_w hw 12 rfl) (own_w hw 13 rfl) e0 (by rw [hml]; rfl) (hb hby d2_1) (by decide) 0 (Nat.le_of_eq rfl) (by decide) rfl (fun T1 X1 e1 => ?_)
  exact g_retV X1 hx hret hlk (hb hby d2_4) (by decide) (by decide) ⟨rfl, N0, e1⟩
theorem own_pn1 : plainName "com/example/kohortd/kohortd/http/ByteRange" = true := by first | (simp [plainName, overriddenIn]; done) | decide +kernel
theorem d1_0 : decode prog_14_method_1_code 0 = .ok (.aload_n 0, 1) := by decide +kernel
theorem d1_1 : decode prog_14_method_1_code 1 = .ok (.invokespecial 1, 3) := by decide +kernel
theorem own_pd0 : parseMethodDescriptor "()V" = some ⟨[], none⟩ := by decide +kernel
theorem d1_4 : decode prog_14_method_1_code 4 = .ok (.aload_n 0, 1) := by decide +kernel
theorem d1_5 : decode prog_14_method_1_code 5 = .ok (.lload_n 1, 1) := by decide +kernel
theorem d1_6 : decode prog_14_method_1_code 6 = .ok (.putfield 7, 3) := by decide +kernel
theorem d1_9 : decode prog_14_method_1_code 9 = .ok (.aload_n 0, 1) := by decide +kernel
theorem d1_10 : decode prog_14_method_1_code 10 = .ok (.lload_n 3, 1) := by decide +kernel
theorem d1_11 : decode prog_14_method_1_code 11 = .ok (.putfield 13, 3) := by decide +kernel
theorem d1_14 : decode prog_14_method_1_code 14 = .ok (.return_, 1) := by decide +kernel
set_option maxRecDepth 65536 in
set_option maxHeartbeats 40000000 in
theorem rm1 (l : Launch) (Z : State) (a0 : Array Value) (hw : ∀ d ∈ tables_1, d.before a0 Z = true) (a : Addr) (f t : Int64) (u1 u2 : Value) (h0 : Heap) (n0 : Nat) (Z0 : n0 ≤ h0.size) (g_a : n0 ≤ a) (E_a : Exa Z h0 a "com/example/kohortd/kohortd/http/ByteRange") (F_1 : Fld Z h0 a "com/example/kohortd/kohortd/http/ByteRange" "first" "J" u1) (F_2 : Fld Z h0 a "com/example/kohortd/kohortd/http/ByteRange" "last" "J" u2) :
    OwnMet l Z (⟨"com/example/kohortd/kohortd/http/ByteRange", "<init>", "(JJ)V"⟩ : MethodName) prog_14_method_1_code 5 none [] ({ frames := 2, cells := 0, slots := 0, locals := 24 } : Room) [(.ref a), (.long f), (.long t)] h0 (fun v h L => v = none ∧ Fr n0 L ∧ Keep h0 h [a] ∧ Exa Z h a "com/example/kohortd/kohortd/http/ByteRange" ∧ Fld Z h a "com/example/kohortd/kohortd/http/ByteRange" "first" "J" (.long f) ∧ Fld Z h a "com/example/kohortd/kohortd/http/ByteRange" "last" "J" (.long t)) := by
  refine own_body (Ls := #[.val (.ref a), .val (.long f), .second, .val (.long t), .second]) (plainFor_of_name own_pn1) (fun m => by first | (simp [entryFrame, mkF, argsToLocals, Value.category]; done) | rfl) (fun p e s m below meth c T0 hx hby hml hown hnm hret hlk hZ X0 e0 => ?_)
  have hown : s.vm.findClass "com/example/kohortd/kohortd/http/ByteRange" = some m.cls := hown
  have N0 := Fr.nil n0
  have K0 := Keep.refl h0 [a]
  refine g_aloadN X0 hx 1 (hb hby d1_0) rfl rfl rfl ?_
  refine g_callI X0 hx 4 hZ rfl hown (own_w hw 6 rfl) (own_w hw 7 rfl) (own_w hw 9 rfl) (own_w hw 10 rfl) (by decide) a [] [] (rm2 l Z a0 hw a h0 n0 Z0) e0 0 (by decide) (by decide) (by decide) (by decide) (by rw [hml]; rfl) (lenOf own_pd0 rfl) (hb hby d1_1) rfl (Nat.le_of_eq rfl) rfl (fun v1 T1 L1 X1 hQ1 => ?_)
  obtain ⟨rfl, N1q, e1⟩ := hQ1
  have N1 := Fr.app N0 N1q
  show Go p e below _ _ T1 (mkF m 4 #[.val (.ref a), .val (.long f), .second, .val (.long t), .second] [])
  refine g_aloadN X1 hx 5 (hb hby d1_4) rfl rfl rfl ?_
  refine g_lloadN X1 hx 6 (hb hby d1_5) rfl rfl ?_
  refine g_putF X1 hx 9 hZ hown (host := "") (Or.inl (own_w hw 14 rfl)) Via.refl e1 F_1 E_a (Or.inr ⟨(own_w hw 15 rfl), rfl, hnm⟩) (own_w hw 1 rfl) (ty := .long) (by decide) rfl rfl (hb hby d1_6) rfl (fun T2 h2 X2 e2 W2 => ?_)
  have E_a := E_a.wr W2
  have F_1 := F_1.same W2
  have F_2 := F_2.other W2 (Or.inr (slot_ne (Or.inr (own_w hw 17 rfl)) (Or.inr (own_w hw 15 rfl)) (by decide) (t := .long) (t' := .long) (by decide) (by decide)))
  have N2 := Fr.snoc X2 N1 g_a
  have Z2 : n0 ≤ h2.size := by rw [W2.size]; exact Z0
  have K2 := K0.wr W2 (Or.inl (List.mem_of_getElem? (i := 0) rfl))
  refine g_aloadN X2 hx 10 (hb hby d1_9) rfl rfl rfl ?_
  refine g_lloadN X2 hx 11 (hb hby d1_10) rfl rfl ?_
  refine g_putF X2 hx 14 hZ hown (host := "") (Or.inl (own_w hw 16 rfl)) Via.refl e2 F_2 E_a (Or.inr ⟨(own_w hw 17 rfl), rfl, hnm⟩) (own_w hw 1 rfl) (ty := .long) (by decide) rfl rfl (hb hby d1_11) rfl (fun T3 h3 X3 e3 W3 => ?_)
  have E_a := E_a.wr W3
  have F_1 := F_1.other W3 (Or.inr (slot_ne (Or.inr (own_w hw 15 rfl)) (Or.inr (own_w hw 17 rfl)) (by decide) (t := .long) (t' := .long) (by decide) (by decide)))
  have F_2 := F_2.same W3
  have N3 := Fr.snoc X3 N2 g_a
  have Z3 : n0 ≤ h3.size := by rw [W3.size]; exact Z2
  have K3 := K2.wr W3 (Or.inl (List.mem_of_getElem? (i := 0) rfl))
  exact g_retV X3 hx hret hlk (hb hby d1_14) (by decide) (by decide) (by rw [e3]; exact ⟨rfl, N3, K3, E_a, F_1, F_2⟩)
theorem d4_0 : decode prog_14_method_4_code 0 = .ok (.aload_n 0, 1) := by decide +kernel
theorem d4_1 : decode prog_14_method_4_code 1 = .ok (.getfield 13, 3) := by decide +kernel
theorem d4_4 : decode prog_14_method_4_code 4 = .ok (.aload_n 0, 1) := by decide +kernel
theorem d4_5 : decode prog_14_method_4_code 5 = .ok (.getfield 7, 3) := by decide +kernel
theorem d4_8 : decode prog_14_method_4_code 8 = .ok (.lsub, 1) := by decide +kernel
theorem d4_9 : decode prog_14_method_4_code 9 = .ok (.lconst 1, 1) := by decide +kernel
theorem d4_10 : decode prog_14_method_4_code 10 = .ok (.ladd, 1) := by decide +kernel
theorem d4_11 : decode prog_14_method_4_code 11 = .ok (.lreturn, 1) := by decide +kernel
set_option maxRecDepth 65536 in
set_option maxHeartbeats 40000000 in
theorem rm4 (l : Launch) (Z : State) (a0 : Array Value) (hw : ∀ d ∈ tables_1, d.before a0 Z = true) (a : Addr) (f t : Int64) (h0 : Heap) (n0 : Nat) (Z0 : n0 ≤ h0.size) (F_1 : Fld Z h0 a "com/example/kohortd/kohortd/http/ByteRange" "first" "J" (.long f)) (F_2 : Fld Z h0 a "com/example/kohortd/kohortd/http/ByteRange" "last" "J" (.long t)) :
    OwnMet l Z (⟨"com/example/kohortd/kohortd/http/ByteRange", "length", "()J"⟩ : MethodName) prog_14_method_4_code 1 (some .long) [] ({ frames := 0, cells := 0, slots := 0, locals := 0 } : Room) [(.ref a)] h0 (fun v h L => v = some (.long (t - f + 1)) ∧ Fr n0 L ∧ h = h0) := by
  refine own_body (Ls := #[.val (.ref a)]) (plainFor_of_name own_pn1) (fun m => by first | (simp [entryFrame, mkF, argsToLocals, Value.category]; done) | rfl) (fun p e s m below meth c T0 hx hby hml hown hnm hret hlk hZ X0 e0 => ?_)
  have hown : s.vm.findClass "com/example/kohortd/kohortd/http/ByteRange" = some m.cls := hown
  have N0 := Fr.nil n0
  refine g_aloadN X0 hx 1 (hb hby d4_0) rfl rfl rfl ?_
  refine g_getF X0 hx 4 hZ hown (host := "") (Or.inl (own_w hw 16 rfl)) Via.refl e0 F_2 (hb hby d4_1) rfl (fun T1 X1 e1 => ?_)
  refine g_aloadN X1 hx 5 (hb hby d4_4) rfl rfl rfl ?_
  refine g_getF X1 hx 8 hZ hown (host := "") (Or.inl (own_w hw 14 rfl)) Via.refl e1 F_1 (hb hby d4_5) rfl (fun T2 X2 e2 => ?_)
  refine g_lsub X2 hx 9 (t - f) (hb hby d4_8) rfl rfl ?_
  refine g_lconst X2 hx 10 (1 : Int64) (hb hby d4_9) (by decide) rfl ?_
  refine g_ladd X2 hx 11 ((t - f) + (1 : Int64)) (hb hby d4_10) rfl rfl ?_
  exact g_retJ X2 hx hret hlk (hb hby d4_11) (by decide) (by decide) ⟨rfl, N0, e2⟩
theorem own_pn2 : plainName "com/example/kohortd/kohortd/http/ByteRangeLengthPinLaw" = true := by first | (simp [plainName, overriddenIn]; done) | decide +kernel
theorem own_pd1 : parseMethodDescriptor "(JJ)V" = some ⟨[.long, .long], none⟩ := by decide +kernel
theorem own_pd2 : parseMethodDescriptor "()J" = some ⟨[], some .long⟩ := by decide +kernel
set_option maxRecDepth 65536 in
set_option maxHeartbeats 40000000 in
theorem rm0 (l : Launch) (Z : State) (a0 : Array Value) (hw : ∀ d ∈ tables_1, d.before a0 Z = true) (f t d : Int64) (h0 : Heap) (n0 : Nat) (Z0 : n0 ≤ h0.size)  :
    OwnMet l Z x code maxLocals ret tables_1 room_1 [(.long f), (.long t), (.long d)] h0 (fun v h L => v = some (.int 1) ∧ Fr n0 L) := by
  refine own_body (Ls := #[.val (.long f), .second, .val (.long t), .second, .val (.long d), .second, .unset, .unset, .unset, .unset, .unset, .unset, .unset, .unset, .unset, .unset, .unset]) (plainFor_of_name own_pn2) (fun m => by first | (simp [entryFrame, mkF, argsToLocals, Value.category, maxLocals]; done) | rfl) (fun p e s m below meth c T0 hx hby hml hown hnm hret hlk hZ X0 e0 => ?_)
  have hml : c.maxLocals = 17 := hml
  have hown : s.vm.findClass "com/example/kohortd/kohortd/http/ByteRangeLengthPinLaw" = some m.cls := hown
  have N0 := Fr.nil n0
  refine g_new X0 hx 3 hZ hown (own_w hw 0 rfl) (own_w hw 1 rfl) (own_w hw 2 rfl) e0 (hb hby at_0) (by decide) (by decide) rfl (fun T1 h1 b1 g1 X1 e1 E1 A1 D1 => ?_)
  have G_b1 : n0 ≤ b1 := Nat.le_trans Z0 (Nat.le_of_eq g1.symm)
  have Z1 : n0 ≤ h1.size := Nat.le_trans Z0 E1.1
  have E_b1 : Exa Z h1 b1 "com/example/kohortd/kohortd/http/ByteRange" := A1
  have F_b1_first : Fld Z h1 b1 "com/example/kohortd/kohortd/http/ByteRange" "first" "J" (.long (0 : Int64)) := D1 (Or.inr (own_w hw 15 rfl)) (ty := .long) (by decide)
  have F_b1_last : Fld Z h1 b1 "com/example/kohortd/kohortd/http/ByteRange" "last" "J" (.long (0 : Int64)) := D1 (Or.inr (own_w hw 17 rfl)) (ty := .long) (by decide)
  refine g_dup X1 hx 4 (hb hby at_3) rfl rfl ?_
  refine g_lloadN X1 hx 5 (hb hby at_4) rfl rfl ?_
  refine g_lloadN X1 hx 6 (hb hby at_5) rfl rfl ?_
  refine g_callI X1 hx 9 hZ rfl hown (own_w hw 3 rfl) (own_w hw 4 rfl) (own_w hw 2 rfl) (own_w hw 5 rfl) (by decide) b1 [(.long f), (.long f)] [(.ref b1)] (rm1 l Z a0 hw b1 f f _ _ h1 n0 Z1 G_b1 E_b1 F_b1_first F_b1_last) e1 1 (by decide) (by decide) (by decide) (by decide) (by rw [hml]; rfl) (lenOf own_pd1 rfl) (hb hby at_6) rfl (Nat.le_of_eq rfl) rfl (fun v2 T2 L2 X2 hQ2 => ?_)
  obtain ⟨rfl, N2q, K2, E2x, F1_b1, F2_b1⟩ := hQ2
  have N2 := Fr.app N0 N2q
  have E_b1 := E_b1.keep K2
  have Z2 := Nat.le_trans Z1 K2.1
  show Go p e below _ _ T2 (mkF m 9 #[.val (.long f), .second, .val (.long t), .second, .val (.long d), .second, .unset, .unset, .unset, .unset, .unset, .unset, .unset, .unset, .unset, .unset, .unset] [(.ref b1)])
  refine g_astore X2 hx 11 #[.val (.long f), .second, .val (.long t), .second, .val (.long d), .second, .val (.ref b1), .unset, .unset, .unset, .unset, .unset, .unset, .unset, .unset, .unset, .unset] (hb hby at_9) rfl rfl rfl ?_
  refine g_new X2 hx 14 hZ hown (own_w hw 0 rfl) (own_w hw 1 rfl) (own_w hw 2 rfl) rfl (hb hby at_11) (by decide) (by decide) rfl (fun T3 h3 b3 g3 X3 e3 E3 A3 D3 => ?_)
  have ne_b1_b3 : b1 ≠ b3 := Nat.ne_of_lt (Nat.lt_of_lt_of_le E_b1.lt (Nat.le_of_eq g3.symm))
  have E_b1 := E_b1.ext E3
  have F1_b1 := F1_b1.ext E3
  have F2_b1 := F2_b1.ext E3
  have G_b3 : n0 ≤ b3 := Nat.le_trans Z2 (Nat.le_of_eq g3.symm)
  have Z3 : n0 ≤ h3.size := Nat.le_trans Z2 E3.1
  have E_b3 : Exa Z h3 b3 "com/example/kohortd/kohortd/http/ByteRange" := A3
  have F_b3_first : Fld Z h3 b3 "com/example/kohortd/kohortd/http/ByteRange" "first" "J" (.long (0 : Int64)) := D3 (Or.inr (own_w hw 15 rfl)) (ty := .long) (by decide)
  have F_b3_last : Fld Z h3 b3 "com/example/kohortd/kohortd/http/ByteRange" "last" "J" (.long (0 : Int64)) := D3 (Or.inr (own_w hw 17 rfl)) (ty := .long) (by decide)
  refine g_dup X3 hx 15 (hb hby at_14) rfl rfl ?_
  refine g_lloadN X3 hx 16 (hb hby at_15) rfl rfl ?_
  refine g_lloadN X3 hx 17 (hb hby at_16) rfl rfl ?_
  refine g_callI X3 hx 20 hZ rfl hown (own_w hw 3 rfl) (own_w hw 4 rfl) (own_w hw 2 rfl) (own_w hw 5 rfl) (by decide) b3 [(.long f), (.long t)] [(.ref b3)] (rm1 l Z a0 hw b3 f t _ _ h3 n0 Z3 G_b3 E_b3 F_b3_first F_b3_last) e3 1 (by decide) (by decide) (by decide) (by decide) (by rw [hml]; rfl) (lenOf own_pd1 rfl) (hb hby at_17) rfl (Nat.le_of_eq rfl) rfl (fun v4 T4 L4 X4 hQ4 => ?_)
  obtain ⟨rfl, N4q, K4, E4x, F1_b3, F2_b3⟩ := hQ4
  have N4 := Fr.app N2 N4q
  have E_b1 := E_b1.keep K4
  have F1_b1 := F1_b1.keep K4 (ninS ne_b1_b3 nin0)
  have F2_b1 := F2_b1.keep K4 (ninS ne_b1_b3 nin0)
  have E_b3 := E_b3.keep K4
  have Z4 := Nat.le_trans Z3 K4.1
  show Go p e below _ _ T4 (mkF m 20 #[.val (.long f), .second, .val (.long t), .second, .val (.long d), .second, .val (.ref b1), .unset, .unset, .unset, .unset, .unset, .unset, .unset, .unset, .unset, .unset] [(.ref b3)])
  refine g_astore X4 hx 22 #[.val (.long f), .second, .val (.long t), .second, .val (.long d), .second, .val (.ref b1), .val (.ref b3), .unset, .unset, .unset, .unset, .unset, .unset, .unset, .unset, .unset] (hb hby at_20) rfl rfl rfl ?_
  refine g_new X4 hx 25 hZ hown (own_w hw 0 rfl) (own_w hw 1 rfl) (own_w hw 2 rfl) rfl (hb hby at_22) (by decide) (by decide) rfl (fun T5 h5 b5 g5 X5 e5 E5 A5 D5 => ?_)
  have ne_b1_b5 : b1 ≠ b5 := Nat.ne_of_lt (Nat.lt_of_lt_of_le E_b1.lt (Nat.le_of_eq g5.symm))
  have ne_b3_b5 : b3 ≠ b5 := Nat.ne_of_lt (Nat.lt_of_lt_of_le E_b3.lt (Nat.le_of_eq g5.symm))
  have E_b1 := E_b1.ext E5
  have F1_b1 := F1_b1.ext E5
  have F2_b1 := F2_b1.ext E5
  have E_b3 := E_b3.ext E5
  have F1_b3 := F1_b3.ext E5
  have F2_b3 := F2_b3.ext E5
  have G_b5 : n0 ≤ b5 := Nat.le_trans Z4 (Nat.le_of_eq g5.symm)
  have Z5 : n0 ≤ h5.size := Nat.le_trans Z4 E5.1
  have E_b5 : Exa Z h5 b5 "com/example/kohortd/kohortd/http/ByteRange" := A5
  have F_b5_first : Fld Z h5 b5 "com/example/kohortd/kohortd/http/ByteRange" "first" "J" (.long (0 : Int64)) := D5 (Or.inr (own_w hw 15 rfl)) (ty := .long) (by decide)
  have F_b5_last : Fld Z h5 b5 "com/example/kohortd/kohortd/http/ByteRange" "last" "J" (.long (0 : Int64)) := D5 (Or.inr (own_w hw 17 rfl)) (ty := .long) (by decide)
  refine g_dup X5 hx 26 (hb hby at_25) rfl rfl ?_
  refine g_lloadN X5 hx 27 (hb hby at_26) rfl rfl ?_
  refine g_lloadN X5 hx 28 (hb hby at_27) rfl rfl ?_
  refine g_lconst X5 hx 29 (1 : Int64) (hb hby at_28) (by decide) rfl ?_
  refine g_ladd X5 hx 30 (t + (1 : Int64)) (hb hby at_29) rfl rfl ?_
  refine g_callI X5 hx 33 hZ rfl hown (own_w hw 3 rfl) (own_w hw 4 rfl) (own_w hw 2 rfl) (own_w hw 5 rfl) (by decide) b5 [(.long f), (.long (t + (1 : Int64)))] [(.ref b5)] (rm1 l Z a0 hw b5 f (t + (1 : Int64)) _ _ h5 n0 Z5 G_b5 E_b5 F_b5_first F_b5_last) e5 1 (by decide) (by decide) (by decide) (by decide) (by rw [hml]; rfl) (lenOf own_pd1 rfl) (hb hby at_30) rfl (Nat.le_of_eq rfl) rfl (fun v6 T6 L6 X6 hQ6 => ?_)
  obtain ⟨rfl, N6q, K6, E6x, F1_b5, F2_b5⟩ := hQ6
  have N6 := Fr.app N4 N6q
  have E_b1 := E_b1.keep K6
  have F1_b1 := F1_b1.keep K6 (ninS ne_b1_b5 nin0)
  have F2_b1 := F2_b1.keep K6 (ninS ne_b1_b5 nin0)
  have E_b3 := E_b3.keep K6
  have F1_b3 := F1_b3.keep K6 (ninS ne_b3_b5 nin0)
  have F2_b3 := F2_b3.keep K6 (ninS ne_b3_b5 nin0)
  have E_b5 := E_b5.keep K6
  have Z6 := Nat.le_trans Z5 K6.1
  show Go p e below _ _ T6 (mkF m 33 #[.val (.long f), .second, .val (.long t), .second, .val (.long d), .second, .val (.ref b1), .val (.ref b3), .unset, .unset, .unset, .unset, .unset, .unset, .unset, .unset, .unset] [(.ref b5)])
  refine g_astore X6 hx 35 #[.val (.long f), .second, .val (.long t), .second, .val (.long d), .second, .val (.ref b1), .val (.ref b3), .val (.ref b5), .unset, .unset, .unset, .unset, .unset, .unset, .unset, .unset] (hb hby at_33) rfl rfl rfl ?_
  refine g_new X6 hx 38 hZ hown (own_w hw 0 rfl) (own_w hw 1 rfl) (own_w hw 2 rfl) rfl (hb hby at_35) (by decide) (by decide) rfl (fun T7 h7 b7 g7 X7 e7 E7 A7 D7 => ?_)
  have ne_b1_b7 : b1 ≠ b7 := Nat.ne_of_lt (Nat.lt_of_lt_of_le E_b1.lt (Nat.le_of_eq g7.symm))
  have ne_b3_b7 : b3 ≠ b7 := Nat.ne_of_lt (Nat.lt_of_lt_of_le E_b3.lt (Nat.le_of_eq g7.symm))
  have ne_b5_b7 : b5 ≠ b7 := Nat.ne_of_lt (Nat.lt_of_lt_of_le E_b5.lt (Nat.le_of_eq g7.symm))
  have E_b1 := E_b1.ext E7
  have F1_b1 := F1_b1.ext E7
  have F2_b1 := F2_b1.ext E7
  have E_b3 := E_b3.ext E7
  have F1_b3 := F1_b3.ext E7
  have F2_b3 := F2_b3.ext E7
  have E_b5 := E_b5.ext E7
  have F1_b5 := F1_b5.ext E7
  have F2_b5 := F2_b5.ext E7
  have G_b7 : n0 ≤ b7 := Nat.le_trans Z6 (Nat.le_of_eq g7.symm)
  have Z7 : n0 ≤ h7.size := Nat.le_trans Z6 E7.1
  have E_b7 : Exa Z h7 b7 "com/example/kohortd/kohortd/http/ByteRange" := A7
  have F_b7_first : Fld Z h7 b7 "com/example/kohortd/kohortd/http/ByteRange" "first" "J" (.long (0 : Int64)) := D7 (Or.inr (own_w hw 15 rfl)) (ty := .long) (by decide)
  have F_b7_last : Fld Z h7 b7 "com/example/kohortd/kohortd/http/ByteRange" "last" "J" (.long (0 : Int64)) := D7 (Or.inr (own_w hw 17 rfl)) (ty := .long) (by decide)
  refine g_dup X7 hx 39 (hb hby at_38) rfl rfl ?_
  refine g_lloadN X7 hx 40 (hb hby at_39) rfl rfl ?_
  refine g_lconst X7 hx 41 (1 : Int64) (hb hby at_40) (by decide) rfl ?_
  refine g_lsub X7 hx 42 (f - (1 : Int64)) (hb hby at_41) rfl rfl ?_
  refine g_lloadN X7 hx 43 (hb hby at_42) rfl rfl ?_
  refine g_callI X7 hx 46 hZ rfl hown (own_w hw 3 rfl) (own_w hw 4 rfl) (own_w hw 2 rfl) (own_w hw 5 rfl) (by decide) b7 [(.long (f - (1 : Int64))), (.long t)] [(.ref b7)] (rm1 l Z a0 hw b7 (f - (1 : Int64)) t _ _ h7 n0 Z7 G_b7 E_b7 F_b7_first F_b7_last) e7 1 (by decide) (by decide) (by decide) (by decide) (by rw [hml]; rfl) (lenOf own_pd1 rfl) (hb hby at_43) rfl (Nat.le_of_eq rfl) rfl (fun v8 T8 L8 X8 hQ8 => ?_)
  obtain ⟨rfl, N8q, K8, E8x, F1_b7, F2_b7⟩ := hQ8
  have N8 := Fr.app N6 N8q
  have E_b1 := E_b1.keep K8
  have F1_b1 := F1_b1.keep K8 (ninS ne_b1_b7 nin0)
  have F2_b1 := F2_b1.keep K8 (ninS ne_b1_b7 nin0)
  have E_b3 := E_b3.keep K8
  have F1_b3 := F1_b3.keep K8 (ninS ne_b3_b7 nin0)
  have F2_b3 := F2_b3.keep K8 (ninS ne_b3_b7 nin0)
  have E_b5 := E_b5.keep K8
  have F1_b5 := F1_b5.keep K8 (ninS ne_b5_b7 nin0)
  have F2_b5 := F2_b5.keep K8 (ninS ne_b5_b7 nin0)
  have E_b7 := E_b7.keep K8
  have Z8 := Nat.le_trans Z7 K8.1
  show Go p e below _ _ T8 (mkF m 46 #[.val (.long f), .second, .val (.long t), .second, .val (.long d), .second, .val (.ref b1), .val (.ref b3), .val (.ref b5), .unset, .unset, .unset, .unset, .unset, .unset, .unset, .unset] [(.ref b7)])
  refine g_astore X8 hx 48 #[.val (.long f), .second, .val (.long t), .second, .val (.long d), .second, .val (.ref b1), .val (.ref b3), .val (.ref b5), .val (.ref b7), .unset, .unset, .unset, .unset, .unset, .unset, .unset] (hb hby at_46) rfl rfl rfl ?_
  refine g_new X8 hx 51 hZ hown (own_w hw 0 rfl) (own_w hw 1 rfl) (own_w hw 2 rfl) rfl (hb hby at_48) (by decide) (by decide) rfl (fun T9 h9 b9 g9 X9 e9 E9 A9 D9 => ?_)
  have ne_b1_b9 : b1 ≠ b9 := Nat.ne_of_lt (Nat.lt_of_lt_of_le E_b1.lt (Nat.le_of_eq g9.symm))
  have ne_b3_b9 : b3 ≠ b9 := Nat.ne_of_lt (Nat.lt_of_lt_of_le E_b3.lt (Nat.le_of_eq g9.symm))
  have ne_b5_b9 : b5 ≠ b9 := Nat.ne_of_lt (Nat.lt_of_lt_of_le E_b5.lt (Nat.le_of_eq g9.symm))
  have ne_b7_b9 : b7 ≠ b9 := Nat.ne_of_lt (Nat.lt_of_lt_of_le E_b7.lt (Nat.le_of_eq g9.symm))
  have E_b1 := E_b1.ext E9
  have F1_b1 := F1_b1.ext E9
  have F2_b1 := F2_b1.ext E9
  have E_b3 := E_b3.ext E9
  have F1_b3 := F1_b3.ext E9
  have F2_b3 := F2_b3.ext E9
  have E_b5 := E_b5.ext E9
  have F1_b5 := F1_b5.ext E9
  have F2_b5 := F2_b5.ext E9
  have E_b7 := E_b7.ext E9
  have F1_b7 := F1_b7.ext E9
  have F2_b7 := F2_b7.ext E9
  have G_b9 : n0 ≤ b9 := Nat.le_trans Z8 (Nat.le_of_eq g9.symm)
  have Z9 : n0 ≤ h9.size := Nat.le_trans Z8 E9.1
  have E_b9 : Exa Z h9 b9 "com/example/kohortd/kohortd/http/ByteRange" := A9
  have F_b9_first : Fld Z h9 b9 "com/example/kohortd/kohortd/http/ByteRange" "first" "J" (.long (0 : Int64)) := D9 (Or.inr (own_w hw 15 rfl)) (ty := .long) (by decide)
  have F_b9_last : Fld Z h9 b9 "com/example/kohortd/kohortd/http/ByteRange" "last" "J" (.long (0 : Int64)) := D9 (Or.inr (own_w hw 17 rfl)) (ty := .long) (by decide)
  refine g_dup X9 hx 52 (hb hby at_51) rfl rfl ?_
  refine g_lloadN X9 hx 53 (hb hby at_52) rfl rfl ?_
  refine g_lload X9 hx 55 (hb hby at_53) rfl rfl ?_
  refine g_ladd X9 hx 56 (f + d) (hb hby at_55) rfl rfl ?_
  refine g_lloadN X9 hx 57 (hb hby at_56) rfl rfl ?_
  refine g_lload X9 hx 59 (hb hby at_57) rfl rfl ?_
  refine g_ladd X9 hx 60 (t + d) (hb hby at_59) rfl rfl ?_
  refine g_callI X9 hx 63 hZ rfl hown (own_w hw 3 rfl) (own_w hw 4 rfl) (own_w hw 2 rfl) (own_w hw 5 rfl) (by decide) b9 [(.long (f + d)), (.long (t + d))] [(.ref b9)] (rm1 l Z a0 hw b9 (f + d) (t + d) _ _ h9 n0 Z9 G_b9 E_b9 F_b9_first F_b9_last) e9 1 (by decide) (by decide) (by decide) (by decide) (by rw [hml]; rfl) (lenOf own_pd1 rfl) (hb hby at_60) rfl (Nat.le_of_eq rfl) rfl (fun v10 T10 L10 X10 hQ10 => ?_)
  obtain ⟨rfl, N10q, K10, E10x, F1_b9, F2_b9⟩ := hQ10
  have N10 := Fr.app N8 N10q
  have E_b1 := E_b1.keep K10
  have F1_b1 := F1_b1.keep K10 (ninS ne_b1_b9 nin0)
  have F2_b1 := F2_b1.keep K10 (ninS ne_b1_b9 nin0)
  have E_b3 := E_b3.keep K10
  have F1_b3 := F1_b3.keep K10 (ninS ne_b3_b9 nin0)
  have F2_b3 := F2_b3.keep K10 (ninS ne_b3_b9 nin0)
  have E_b5 := E_b5.keep K10
  have F1_b5 := F1_b5.keep K10 (ninS ne_b5_b9 nin0)
  have F2_b5 := F2_b5.keep K10 (ninS ne_b5_b9 nin0)
  have E_b7 := E_b7.keep K10
  have F1_b7 := F1_b7.keep K10 (ninS ne_b7_b9 nin0)
  have F2_b7 := F2_b7.keep K10 (ninS ne_b7_b9 nin0)
  have E_b9 := E_b9.keep K10
  have Z10 := Nat.le_trans Z9 K10.1
  show Go p e below _ _ T10 (mkF m 63 #[.val (.long f), .second, .val (.long t), .second, .val (.long d), .second, .val (.ref b1), .val (.ref b3), .val (.ref b5), .val (.ref b7), .unset, .unset, .unset, .unset, .unset, .unset, .unset] [(.ref b9)])
  refine g_astore X10 hx 65 #[.val (.long f), .second, .val (.long t), .second, .val (.long d), .second, .val (.ref b1), .val (.ref b3), .val (.ref b5), .val (.ref b7), .val (.ref b9), .unset, .unset, .unset, .unset, .unset, .unset] (hb hby at_63) rfl rfl rfl ?_
  refine g_aload X10 hx 67 (hb hby at_65) rfl rfl rfl ?_
  refine g_callV X10 hx 70 hZ hown (own_w hw 18 rfl) (own_w hw 19 rfl) (own_w hw 21 rfl) (own_w hw 20 rfl) (own_w hw 2 rfl) (own_w hw 22 rfl) (by decide) b3 E_b3 [] [] (rm4 l Z a0 hw b3 f t T10.heap n0 Z10 F1_b3 F2_b3) rfl 0 (by decide) (by decide) (by decide) (by decide) (by rw [hml]; rfl) (lenOf own_pd2 rfl) (hb hby at_67) rfl (Nat.le_of_eq rfl) rfl (fun v11 T11 L11 X11 hQ11 => ?_)
  obtain ⟨rfl, N11q, e11⟩ := hQ11
  have N11 := Fr.app N10 N11q
  show Go p e below _ _ T11 (mkF m 70 #[.val (.long f), .second, .val (.long t), .second, .val (.long d), .second, .val (.ref b1), .val (.ref b3), .val (.ref b5), .val (.ref b7), .val (.ref b9), .unset, .unset, .unset, .unset, .unset, .unset] [(.long (t - f + 1))])
  refine g_lstore X11 hx 72 #[.val (.long f), .second, .val (.long t), .second, .val (.long d), .second, .val (.ref b1), .val (.ref b3), .val (.ref b5), .val (.ref b7), .val (.ref b9), .val (.long (t - f + 1)), .second, .unset, .unset, .unset, .unset] (hb hby at_70) rfl rfl ?_
  refine g_aload X11 hx 74 (hb hby at_72) rfl rfl rfl ?_
  refine g_callV X11 hx 77 hZ hown (own_w hw 18 rfl) (own_w hw 19 rfl) (own_w hw 21 rfl) (own_w hw 20 rfl) (own_w hw 2 rfl) (own_w hw 22 rfl) (by decide) b1 E_b1 [] [] (rm4 l Z a0 hw b1 f f T10.heap n0 Z10 F1_b1 F2_b1) e11 0 (by decide) (by decide) (by decide) (by decide) (by rw [hml]; rfl) (lenOf own_pd2 rfl) (hb hby at_74) rfl (Nat.le_of_eq rfl) rfl (fun v12 T12 L12 X12 hQ12 => ?_)
  obtain ⟨rfl, N12q, e12⟩ := hQ12
  have N12 := Fr.app N11 N12q
  show Go p e below _ _ T12 (mkF m 77 #[.val (.long f), .second, .val (.long t), .second, .val (.long d), .second, .val (.ref b1), .val (.ref b3), .val (.ref b5), .val (.ref b7), .val (.ref b9), .val (.long (t - f + 1)), .second, .unset, .unset, .unset, .unset] [(.long (f - f + 1))])
  refine g_lconst X12 hx 78 (1 : Int64) (hb hby at_77) (by decide) rfl ?_
  refine g_lcmp X12 hx 79 (hb hby at_78) rfl ?_
  have hk13 : (f - f + 1) = (1 : Int64) := by grind
  refine g_ifF X12 hx 82 (hb hby at_79) (own_eqL hk13).2 rfl ?_
  refine g_iconst X12 hx 83 (1 : Int32) (hb hby at_82) (by decide) rfl ?_
  refine g_goto X12 hx 87 (hb hby at_83) (by decide) (by decide) ?_
  refine g_istore X12 hx 89 #[.val (.long f), .second, .val (.long t), .second, .val (.long d), .second, .val (.ref b1), .val (.ref b3), .val (.ref b5), .val (.ref b7), .val (.ref b9), .val (.long (t - f + 1)), .second, .val (.int (1 : Int32)), .unset, .unset, .unset] (hb hby at_87) rfl rfl ?_
  refine g_aload X12 hx 91 (hb hby at_89) rfl rfl rfl ?_
  refine g_callV X12 hx 94 hZ hown (own_w hw 18 rfl) (own_w hw 19 rfl) (own_w hw 21 rfl) (own_w hw 20 rfl) (own_w hw 2 rfl) (own_w hw 22 rfl) (by decide) b5 E_b5 [] [] (rm4 l Z a0 hw b5 f (t + (1 : Int64)) T10.heap n0 Z10 F1_b5 F2_b5) e12 0 (by decide) (by decide) (by decide) (by decide) (by rw [hml]; rfl) (lenOf own_pd2 rfl) (hb hby at_91) rfl (Nat.le_of_eq rfl) rfl (fun v14 T14 L14 X14 hQ14 => ?_)
  obtain ⟨rfl, N14q, e14⟩ := hQ14
  have N14 := Fr.app N12 N14q
  show Go p e below _ _ T14 (mkF m 94 #[.val (.long f), .second, .val (.long t), .second, .val (.long d), .second, .val (.ref b1), .val (.ref b3), .val (.ref b5), .val (.ref b7), .val (.ref b9), .val (.long (t - f + 1)), .second, .val (.int (1 : Int32)), .unset, .unset, .unset] [(.long ((t + (1 : Int64)) - f + 1))])
  refine g_lload X14 hx 96 (hb hby at_94) rfl rfl ?_
  refine g_lconst X14 hx 97 (1 : Int64) (hb hby at_96) (by decide) rfl ?_
  refine g_ladd X14 hx 98 ((t - f + 1) + (1 : Int64)) (hb hby at_97) rfl rfl ?_
  refine g_lcmp X14 hx 99 (hb hby at_98) rfl ?_
  have hk15 : ((t + (1 : Int64)) - f + 1) = ((t - f + 1) + (1 : Int64)) := by grind
  refine g_ifF X14 hx 102 (hb hby at_99) (own_eqL hk15).2 rfl ?_
  refine g_iconst X14 hx 103 (1 : Int32) (hb hby at_102) (by decide) rfl ?_
  refine g_goto X14 hx 107 (hb hby at_103) (by decide) (by decide) ?_
  refine g_istore X14 hx 109 #[.val (.long f), .second, .val (.long t), .second, .val (.long d), .second, .val (.ref b1), .val (.ref b3), .val (.ref b5), .val (.ref b7), .val (.ref b9), .val (.long (t - f + 1)), .second, .val (.int (1 : Int32)), .val (.int (1 : Int32)), .unset, .unset] (hb hby at_107) rfl rfl ?_
  refine g_aload X14 hx 111 (hb hby at_109) rfl rfl rfl ?_
  refine g_callV X14 hx 114 hZ hown (own_w hw 18 rfl) (own_w hw 19 rfl) (own_w hw 21 rfl) (own_w hw 20 rfl) (own_w hw 2 rfl) (own_w hw 22 rfl) (by decide) b7 E_b7 [] [] (rm4 l Z a0 hw b7 (f - (1 : Int64)) t T10.heap n0 Z10 F1_b7 F2_b7) e14 0 (by decide) (by decide) (by decide) (by decide) (by rw [hml]; rfl) (lenOf own_pd2 rfl) (hb hby at_111) rfl (Nat.le_of_eq rfl) rfl (fun v16 T16 L16 X16 hQ16 => ?_)
  obtain ⟨rfl, N16q, e16⟩ := hQ16
  have N16 := Fr.app N14 N16q
  show Go p e below _ _ T16 (mkF m 114 #[.val (.long f), .second, .val (.long t), .second, .val (.long d), .second, .val (.ref b1), .val (.ref b3), .val (.ref b5), .val (.ref b7), .val (.ref b9), .val (.long (t - f + 1)), .second, .val (.int (1 : Int32)), .val (.int (1 : Int32)), .unset, .unset] [(.long (t - (f - (1 : Int64)) + 1))])
  refine g_lload X16 hx 116 (hb hby at_114) rfl rfl ?_
  refine g_lconst X16 hx 117 (1 : Int64) (hb hby at_116) (by decide) rfl ?_
  refine g_ladd X16 hx 118 ((t - f + 1) + (1 : Int64)) (hb hby at_117) rfl rfl ?_
  refine g_lcmp X16 hx 119 (hb hby at_118) rfl ?_
  have hk17 : (t - (f - (1 : Int64)) + 1) = ((t - f + 1) + (1 : Int64)) := by grind
  refine g_ifF X16 hx 122 (hb hby at_119) (own_eqL hk17).2 rfl ?_
  refine g_iconst X16 hx 123 (1 : Int32) (hb hby at_122) (by decide) rfl ?_
  refine g_goto X16 hx 127 (hb hby at_123) (by decide) (by decide) ?_
  refine g_istore X16 hx 129 #[.val (.long f), .second, .val (.long t), .second, .val (.long d), .second, .val (.ref b1), .val (.ref b3), .val (.ref b5), .val (.ref b7), .val (.ref b9), .val (.long (t - f + 1)), .second, .val (.int (1 : Int32)), .val (.int (1 : Int32)), .val (.int (1 : Int32)), .unset] (hb hby at_127) rfl rfl ?_
  refine g_aload X16 hx 131 (hb hby at_129) rfl rfl rfl ?_
  refine g_callV X16 hx 134 hZ hown (own_w hw 18 rfl) (own_w hw 19 rfl) (own_w hw 21 rfl) (own_w hw 20 rfl) (own_w hw 2 rfl) (own_w hw 22 rfl) (by decide) b9 E_b9 [] [] (rm4 l Z a0 hw b9 (f + d) (t + d) T10.heap n0 Z10 F1_b9 F2_b9) e16 0 (by decide) (by decide) (by decide) (by decide) (by rw [hml]; rfl) (lenOf own_pd2 rfl) (hb hby at_131) rfl (Nat.le_of_eq rfl) rfl (fun v18 T18 L18 X18 hQ18 => ?_)
  obtain ⟨rfl, N18q, e18⟩ := hQ18
  have N18 := Fr.app N16 N18q
  show Go p e below _ _ T18 (mkF m 134 #[.val (.long f), .second, .val (.long t), .second, .val (.long d), .second, .val (.ref b1), .val (.ref b3), .val (.ref b5), .val (.ref b7), .val (.ref b9), .val (.long (t - f + 1)), .second, .val (.int (1 : Int32)), .val (.int (1 : Int32)), .val (.int (1 : Int32)), .unset] [(.long ((t + d) - (f + d) + 1))])
  refine g_lload X18 hx 136 (hb hby at_134) rfl rfl ?_
  refine g_lcmp X18 hx 137 (hb hby at_136) rfl ?_
  have hk19 : ((t + d) - (f + d) + 1) = (t - f + 1) := by grind
  refine g_ifF X18 hx 140 (hb hby at_137) (own_eqL hk19).2 rfl ?_
  refine g_iconst X18 hx 141 (1 : Int32) (hb hby at_140) (by decide) rfl ?_
  refine g_goto X18 hx 145 (hb hby at_141) (by decide) (by decide) ?_
  refine g_istore X18 hx 147 #[.val (.long f), .second, .val (.long t), .second, .val (.long d), .second, .val (.ref b1), .val (.ref b3), .val (.ref b5), .val (.ref b7), .val (.ref b9), .val (.long (t - f + 1)), .second, .val (.int (1 : Int32)), .val (.int (1 : Int32)), .val (.int (1 : Int32)), .val (.int (1 : Int32))] (hb hby at_145) rfl rfl ?_
  refine g_iload X18 hx 149 (hb hby at_147) rfl rfl ?_
  refine g_ifF X18 hx 152 (hb hby at_149) (by decide) rfl ?_
  refine g_iload X18 hx 154 (hb hby at_152) rfl rfl ?_
  refine g_ifF X18 hx 157 (hb hby at_154) (by decide) rfl ?_
  refine g_iload X18 hx 159 (hb hby at_157) rfl rfl ?_
  refine g_ifF X18 hx 162 (hb hby at_159) (by decide) rfl ?_
  refine g_iload X18 hx 164 (hb hby at_162) rfl rfl ?_
  refine g_ifF X18 hx 167 (hb hby at_164) (by decide) rfl ?_
  refine g_iconst X18 hx 168 (1 : Int32) (hb hby at_167) (by decide) rfl ?_
  refine g_goto X18 hx 172 (hb hby at_168) (by decide) (by decide) ?_
  exact g_retZ X18 hx hret hlk rfl (hb hby at_172) (by decide) (by decide) ⟨rfl, N18⟩
set_option maxRecDepth 65536 in
set_option maxHeartbeats 40000000 in
theorem comes_1 {Post : Tables → Env → Array Value → State → Outcome → State → Prop} (hpost : ∀ tb e args s v u, (limb_1_1.after args s (.returned v) u = true ∧ limb_1_2.after args s (.returned v) u = true ∧ True) → FrameEnd s (.returned v) u (Jvm.fieldLocs frame_1_writes args s ++ Jvm.arrayLocs frame_1_arrays args s ++ Jvm.staticLocs frame_1_statics s) 24 128 → Post tb e args s (.returned v) u) :
    ArmFor flags0 classFile x code maxLocals ret World_1 tables_1 room_1 Calls_1 rest_1 Pre_1 Post := by
  intro l hfl _ _ p e ha hc hk s m args below hf hA hF happ hP
  obtain ⟨hcalls, hrest, hpre⟩ := hP
  obtain ⟨-, -, -, hnamed, -, -, -, hat⟩ := (Spec.applies_iff hf).mp happ
  obtain ⟨hg, hn⟩ := and_e (Cond.before_iff.mp (show (Jvm.Cond.and given_1 narrow_1).before args s = true from hpre))
  obtain ⟨ga1, gb1⟩ := and_e hg
  obtain ⟨ga2, gb2⟩ := and_e gb1
  obtain ⟨ga3, gb3⟩ := and_e gb2
  obtain ⟨w0, w1, w2, rfl⟩ : ∃ w0 w1 w2 : Value, args = #[w0, w1, w2] := by
    have hs : args.size = 3 := by simpa [Cond.value, given_1] using ga1
    obtain ⟨L⟩ := args
    match L, hs with
    | [w0, w1, w2], _ => exact ⟨w0, w1, w2, rfl⟩
  have hw := fun d (hd : d ∈ tables_1) => atoms_spec (ws := Jvm.Cond.code x code maxLocals ret :: tables_1) hat d (List.mem_cons_of_mem _ hd)
  have hfit : Fit s := fun {y c} hc i hi => by
    obtain ⟨ha, rfl⟩ := Array.getElem?_eq_some_iff.mp hc
    have q := List.all_eq_true.mp ((Array.all_eq_true_iff_forall_mem.mp hF) _ (Array.getElem_mem ha)) i (List.mem_range.mpr hi)
    simpa [Array.getElem?_eq_getElem hi] using q
  obtain ⟨i0, ei0⟩ := isL_v ga2
  obtain rfl : w0 = (.long i0) := Option.some.inj ei0
  obtain ⟨i1, ei1⟩ := isL_v ga3
  obtain rfl : w1 = (.long i1) := Option.some.inj ei1
  obtain ⟨i2, ei2⟩ := isL_v gb3
  obtain rfl : w2 = (.long i2) := Option.some.inj ei2
  obtain ⟨n, o, h1, h2, h3, _, L, rfl, ⟨rfl, N⟩, hq⟩ := rm0 l s _ hw i0 i1 i2  s.heap s.heap.size (Nat.le_refl _)  p e ha hc hk s m _ below hf ((Spec.applies_iff_loose hf).mp happ).1 ⟨rfl, State.Warmed39.refl s, rfl⟩ trivial
  refine ⟨n, _, h1, h2, h3, hpost _ _ _ _ _ _ ⟨Cond.after_iff.mpr rfl, Cond.after_iff.mpr (eq_i res_at (Term.int_eval (1)) rfl), trivial⟩ ⟨hq.1, hq.2.1, (hq.2.2.sift fun y hy => Or.inr (N y hy)).mono (by decide) (by decide)⟩⟩
theorem main_1_1 : Claimed_1_1 := comes_1 fun _ _ _ _ _ _ h hF => ⟨h.1, hF⟩
theorem main_1_2 : Claimed_1_2 := comes_1 fun _ _ _ _ _ _ h hF => ⟨h.2.1, hF⟩
end Jvm.Pilot.@@N@@
namespace Jvm.Pilot.@@N@@
open Jvm Jvm.ClassFile Sem Op Lib Jvm.Free Jvm.Stand Jvm.Pilot.@@N@@.Jvm.D
/-! MADE BY PROGRAM (witnessworld.py) out of the Statement's table words and the real class files: 10 classes; the members and pool entries that the words name. The judged class is class 1, her method 1. -/
namespace start1
open Jvm.ClassFile
def u (s : String) : CpInfo := .utf8 (stringToUtf16 s)
/-- a pool by its gaps: so many unusable entries, then the entry; so many at the end -/
def gap : Nat → List CpInfo → List CpInfo
  | 0, r => r
  | n + 1, r => .unusable :: gap n r
def poolList (es : List (Nat × CpInfo)) (last : Nat) : List CpInfo := es.foldr (fun e r => gap e.1 (e.2 :: r)) (gap last [])
def pool (es : List (Nat × CpInfo)) (last : Nat) : Array CpInfo := ⟨poolList es last⟩
def fileOf (pool : Array CpInfo) (this : Nat) (attrs : Array Attribute := #[]) (ms : Array MethodInfo := #[]) (fl : Nat := 33) (sup : Nat := 0) (ifs : Array Nat := #[]) (fds : Array FieldInfo := #[]) : ClassFile where
  minorVersion := 0
  majorVersion := 65
  constantPool := pool
  accessFlags := fl
  thisClass := this
  superClass := sup
  interfaces := ifs
  fields := fds
  methods := ms
  attributes := attrs
def plain (name : String) (sup : Option ClassId) : Class where
  name := name
  kind := .ordinary
  loader := none
  accessFlags := 33
  super := sup
  interfaces := #[]
  cf := none
  fields := #[]
  methods := #[]
  instanceTypes := #[]
  staticTypes := #[]
  resolved := #[]
  callSites := []
  init := .initialized
  statics := none
  mirror := none

def pool0 : Array CpInfo := pool [(5, u "<init>"), (0, u "()V"), (1, .class_ 10), (1, u "java/lang/Object")] 113

def k0c0 : Code := { maxStack := 0, maxLocals := 1, code := object_method_1_code, exceptionTable := #[], attributes := #[] }
def k0m0 : Method := { name := "<init>", desc := "()V", sig := { parameters := [], returnType := none }, accessFlags := 1, code := some k0c0 }
/-- java/lang/Object -/
def k0 : Class := { plain "java/lang/Object" none with
  accessFlags := 33
  interfaces := #[]
  cf := some (fileOf pool0 8 #[] #[{ accessFlags := 1, nameIndex := 5, descriptorIndex := 6, attributes := #[] }] 33 0 #[] #[])
  fields := #[]
  methods := #[k0m0]
  instanceTypes := #[]
  staticTypes := #[]
  resolved := Array.replicate 124 none
  statics := none }

def pool1 : Array CpInfo := pool [(2, .class_ 4), (1, u "java/lang/Object"), (0, u "<init>"), (0, u "()V"), (0, .class_ 8), (0, u "com/example/kohortd/kohortd/http/ByteRange"), (0, .methodref 7 10), (0, .nameAndType 5 11), (0, u "(JJ)V"), (0, .methodref 7 13), (0, .nameAndType 14 15), (0, u "length"), (0, u "()J"), (0, .class_ 17), (0, u "com/example/kohortd/kohortd/http/ByteRangeLengthPinLaw"), (2, u "law"), (0, u "(JJJ)Z")] 3

def k1m0 : Method := { name := "<init>", desc := "()V", sig := { parameters := [], returnType := none }, accessFlags := 2, code := none }
def k1c1 : Code := { maxStack := 8, maxLocals := 17, code := code, exceptionTable := #[], attributes := #[] }
def k1m1 : Method := { name := "law", desc := "(JJJ)Z", sig := { parameters := [.long, .long, .long], returnType := some .boolean }, accessFlags := 9, code := some k1c1 }
/-- com/example/kohortd/kohortd/http/ByteRangeLengthPinLaw -/
def k1 : Class := { plain "com/example/kohortd/kohortd/http/ByteRangeLengthPinLaw" (some 0) with
  accessFlags := 49
  interfaces := #[]
  cf := some (fileOf pool1 16 #[] #[{ accessFlags := 2, nameIndex := 5, descriptorIndex := 6, attributes := #[] }, { accessFlags := 9, nameIndex := 20, descriptorIndex := 21, attributes := #[] }] 49 2 #[] #[])
  fields := #[]
  methods := #[k1m0, k1m1]
  instanceTypes := #[]
  staticTypes := #[]
  resolved := Array.replicate 25 none
  statics := none }

def pool2 : Array CpInfo := pool [(1, .methodref 2 3), (0, .class_ 4), (0, .nameAndType 5 6), (0, u "java/lang/Object"), (0, u "<init>"), (0, u "()V"), (0, .class_ 8), (0, u "java/lang/Record")] 13

def k2c0 : Code := { maxStack := 1, maxLocals := 1, code := jdk_30_method_1_code, exceptionTable := #[], attributes := #[] }
def k2m0 : Method := { name := "<init>", desc := "()V", sig := { parameters := [], returnType := none }, accessFlags := 4, code := some k2c0 }
/-- java/lang/Record -/
def k2 : Class := { plain "java/lang/Record" (some 0) with
  accessFlags := 1057
  interfaces := #[]
  cf := some (fileOf pool2 7 #[] #[{ accessFlags := 4, nameIndex := 5, descriptorIndex := 6, attributes := #[] }] 1057 2 #[] #[])
  fields := #[]
  methods := #[k2m0]
  instanceTypes := #[]
  staticTypes := #[]
  resolved := Array.replicate 22 none
  statics := none }

def pool3 : Array CpInfo := pool [(1, .methodref 2 3), (0, .class_ 4), (0, .nameAndType 5 6), (0, u "java/lang/Record"), (0, u "<init>"), (0, u "()V"), (0, .fieldref 8 9), (0, .class_ 10), (0, .nameAndType 11 12), (0, u "com/example/kohortd/kohortd/http/ByteRange"), (0, u "first"), (0, u "J"), (0, .fieldref 8 14), (0, .nameAndType 15 12), (0, u "last"), (2, u "ONE_RANGE"), (0, u "Ljava/util/regex/Pattern;"), (45, u "(JJ)V"), (71, u "length"), (0, u "()J")] 38

def k3c0 : Code := { maxStack := 3, maxLocals := 5, code := prog_14_method_1_code, exceptionTable := #[], attributes := #[] }
def k3m0 : Method := { name := "<init>", desc := "(JJ)V", sig := { parameters := [.long, .long], returnType := none }, accessFlags := 0, code := some k3c0 }
def k3c1 : Code := { maxStack := 4, maxLocals := 1, code := prog_14_method_4_code, exceptionTable := #[], attributes := #[] }
def k3m1 : Method := { name := "length", desc := "()J", sig := { parameters := [], returnType := some .long }, accessFlags := 0, code := some k3c1 }
/-- com/example/kohortd/kohortd/http/ByteRange -/
def k3 : Class := { plain "com/example/kohortd/kohortd/http/ByteRange" (some 2) with
  accessFlags := 48
  interfaces := #[]
  cf := some (fileOf pool3 8 #[] #[{ accessFlags := 0, nameIndex := 5, descriptorIndex := 65, attributes := #[] }, { accessFlags := 0, nameIndex := 137, descriptorIndex := 138, attributes := #[] }] 48 2 #[] #[{ accessFlags := 18, nameIndex := 11, descriptorIndex := 12, attributes := #[] }, { accessFlags := 18, nameIndex := 15, descriptorIndex := 12, attributes := #[] }, { accessFlags := 26, nameIndex := 18, descriptorIndex := 19, attributes := #[] }])
  fields := #[{ name := "first", type := .long, accessFlags := 18, slot := 0, constantValue := 0 }, { name := "last", type := .long, accessFlags := 18, slot := 1, constantValue := 0 }, { name := "ONE_RANGE", type := (.object "java/util/regex/Pattern"), accessFlags := 26, slot := 0, constantValue := 0 }]
  methods := #[k3m0, k3m1]
  instanceTypes := #[.long, .long]
  staticTypes := #[(.object "java/util/regex/Pattern")]
  resolved := Array.replicate 177 none
  statics := none }

def pool4 : Array CpInfo := pool [(1, u "java/lang/Cloneable"), (0, .class_ 1), (0, u "java/lang/Object"), (0, .class_ 3)] 3

/-- java/lang/Cloneable -/
def k4 : Class := { plain "java/lang/Cloneable" (some 0) with
  accessFlags := 1537
  interfaces := #[]
  cf := some (fileOf pool4 2 #[] #[] 1537 4 #[] #[])
  fields := #[]
  methods := #[]
  instanceTypes := #[]
  staticTypes := #[]
  resolved := Array.replicate 8 none
  statics := none }

def pool5 : Array CpInfo := pool [(1, u "java/io/Serializable"), (0, .class_ 1), (0, u "java/lang/Object"), (0, .class_ 3)] 3

/-- java/io/Serializable -/
def k5 : Class := { plain "java/io/Serializable" (some 0) with
  accessFlags := 1537
  interfaces := #[]
  cf := some (fileOf pool5 2 #[] #[] 1537 4 #[] #[])
  fields := #[]
  methods := #[]
  instanceTypes := #[]
  staticTypes := #[]
  resolved := Array.replicate 8 none
  statics := none }

/-- the primitive byte -/
def k6 : Class := { plain "byte" none with kind := .primitive 'B', accessFlags := 0x411 }
/-- [B -/
def k7 : Class := { plain "[B" (some 0) with kind := .array 6 .byte, interfaces := #[4, 5], accessFlags := 1041 }

/-- the primitive int -/
def k8 : Class := { plain "int" none with kind := .primitive 'I', accessFlags := 0x411 }
/-- [I -/
def k9 : Class := { plain "[I" (some 0) with kind := .array 8 .int, interfaces := #[4, 5], accessFlags := 1041 }

def heap : Heap := #[]
def classes : Array Class := #[k0, k1, k2, k3, k4, k5, k6, k7, k8, k9]
def interned : List (Array UInt16 × Addr) := []
def slotsUsed : Nat := 0
def theMethod : MethodId := ⟨1, 1⟩
def args0 : Array Value := #[.long 5, .long 9, .long 3]
def aboutOver (below : List Frame) : State where
  vm := { classes := classes, interned := interned.toArray }
  heap := heap
  slotsUsed := slotsUsed
  threads := #[{ frames := .invoking theMethod args0 :: below }]
def below0 : List Frame := [.native { method := ⟨0, 0⟩, args := #[] }]
def about1 : State := aboutOver below0
def p0 : Program := .bare "" "" ""
def e0 : Env := launch0.env 0 0 0
theorem w_frames : about1.frames = Frame.invoking theMethod args0 :: below0 := rfl
set_option maxRecDepth 65536 in
theorem w_args : argsFit about1.vm theMethod args0 = true := by decide +kernel
set_option maxRecDepth 65536 in
theorem w_heap : heapFits about1 = true := by decide +kernel
set_option maxRecDepth 65536 in
theorem w_runnable : about1.curStatus? = some .runnable := by decide +kernel
set_option maxRecDepth 65536 in
theorem w_alone : about1.alone = true := by decide +kernel
set_option maxRecDepth 65536 in
theorem w_named : about1.methodNamed? x = some theMethod := by decide +kernel
set_option maxRecDepth 65536 in
theorem w_hears : about1.hears theMethod below0 = true := by decide +kernel
set_option maxRecDepth 65536 in
theorem w_ripe : about1.ripe theMethod args0 below0 = true := by decide +kernel
theorem w_running : about1.status = .running := rfl
set_option maxRecDepth 65536 in
theorem w_room : about1.hasRoom e0.platform room_1 = true :=
  launch0.hasRoom_least _ room_1 (by decide +kernel) (by decide +kernel) (by decide +kernel) (by decide +kernel) (by decide +kernel) (by decide +kernel)
theorem allAtoms_all (ts : List Jvm.Cond) (a : Array Jvm.Value) (st : Jvm.State) : (allAtoms ts).before a st = ts.all (fun c => c.before a st) := by
  induction ts with
  | nil => rfl
  | cons c t ih =>
    show (Jvm.Cond.and c (allAtoms t)).before a st = _
    rw [Jvm.Cond.before_and, ih, List.all_cons]
def words1 : List Jvm.Cond := Jvm.Cond.code x code maxLocals ret :: tables_1
/-- a 'code' word, met by the world's own term for the bytes: nothing is compared byte by byte -/
theorem code_word {y : MethodName} {bytes : ByteArray} {mx : Nat} {rt : Option FieldType} {a : Array Value} {s : State} {m : MethodId} {meth : Method} {c : Code} (h1 : s.methodNamed? y = some m) (h2 : s.vm.method? m = some meth) (h3 : meth.code = some c) (h4 : c.code = bytes)
    (h5 : (c.maxLocals == mx && c.exceptionTable.isEmpty && decide (c.maxStack ≤ mostOperands) && decide (meth.sig.returnType = rt) && !meth.locks && decide (parseMethodDescriptor y.desc = some meth.sig)) = true) : (Jvm.Cond.code y bytes mx rt).before a s = true := by
  simp only [Bool.and_eq_true, beq_iff_eq, Bool.not_eq_true', decide_eq_true_eq] at h5
  obtain ⟨⟨⟨⟨⟨g1, g2⟩, g3⟩, g4⟩, g5⟩, g6⟩ := h5
  simp [Cond.before, Cond.holds, Cond.value, h1, h2, h3, h4, g1, g2, g3, g4, g5, g6]
def isCode : Jvm.Cond → Bool
  | .code _ _ _ _ => true
  | _ => false
theorem all_split {L : List Jvm.Cond} {P : Jvm.Cond → Bool} (h1 : L.all (fun c => isCode c || P c) = true) (h2 : ∀ c ∈ L.filter isCode, P c = true) : L.all P = true := by
  refine List.all_eq_true.mpr fun c hc => ?_
  have h := List.all_eq_true.mp h1 c hc
  rcases Bool.eq_false_or_eq_true (isCode c) with hi | hi
  · exact h2 c (List.mem_filter.mpr ⟨hc, hi⟩)
  · simpa [hi] using h
set_option maxRecDepth 65536 in
theorem w_c0 : (Jvm.Cond.code x code maxLocals ret).before args0 about1 = true := code_word (m := ⟨1, 1⟩) (meth := k1m1) (c := k1c1) (by decide +kernel) rfl rfl rfl (by decide +kernel)
set_option maxRecDepth 65536 in
theorem w_c1 : (Jvm.Cond.code ({ cls := "com/example/kohortd/kohortd/http/ByteRange", name := "<init>", desc := "(JJ)V" } : Jvm.MethodName) prog_14_method_1_code (5 : Nat) (Option.none : Option Jvm.ClassFile.FieldType)).before args0 about1 = true := code_word (m := ⟨3, 0⟩) (meth := k3m0) (c := k3c0) (by decide +kernel) rfl rfl rfl (by decide +kernel)
set_option maxRecDepth 65536 in
theorem w_c2 : (Jvm.Cond.code ({ cls := "java/lang/Record", name := "<init>", desc := "()V" } : Jvm.MethodName) jdk_30_method_1_code (1 : Nat) (Option.none : Option Jvm.ClassFile.FieldType)).before args0 about1 = true := code_word (m := ⟨2, 0⟩) (meth := k2m0) (c := k2c0) (by decide +kernel) rfl rfl rfl (by decide +kernel)
set_option maxRecDepth 65536 in
theorem w_c3 : (Jvm.Cond.code ({ cls := "java/lang/Object", name := "<init>", desc := "()V" } : Jvm.MethodName) object_method_1_code (1 : Nat) (Option.none : Option Jvm.ClassFile.FieldType)).before args0 about1 = true := code_word (m := ⟨0, 0⟩) (meth := k0m0) (c := k0c0) (by decide +kernel) rfl rfl rfl (by decide +kernel)
set_option maxRecDepth 65536 in
theorem w_c4 : (Jvm.Cond.code ({ cls := "com/example/kohortd/kohortd/http/ByteRange", name := "length", desc := "()J" } : Jvm.MethodName) prog_14_method_4_code (1 : Nat) (Option.some Jvm.ClassFile.FieldType.long)).before args0 about1 = true := code_word (m := ⟨3, 1⟩) (meth := k3m1) (c := k3c1) (by decide +kernel) rfl rfl rfl (by decide +kernel)
def codes1 : List Jvm.Cond := [Jvm.Cond.code x code maxLocals ret, Jvm.Cond.code ({ cls := "com/example/kohortd/kohortd/http/ByteRange", name := "<init>", desc := "(JJ)V" } : Jvm.MethodName) prog_14_method_1_code (5 : Nat) (Option.none : Option Jvm.ClassFile.FieldType), Jvm.Cond.code ({ cls := "java/lang/Record", name := "<init>", desc := "()V" } : Jvm.MethodName) jdk_30_method_1_code (1 : Nat) (Option.none : Option Jvm.ClassFile.FieldType), Jvm.Cond.code ({ cls := "java/lang/Object", name := "<init>", desc := "()V" } : Jvm.MethodName) object_method_1_code (1 : Nat) (Option.none : Option Jvm.ClassFile.FieldType), Jvm.Cond.code ({ cls := "com/example/kohortd/kohortd/http/ByteRange", name := "length", desc := "()J" } : Jvm.MethodName) prog_14_method_4_code (1 : Nat) (Option.some Jvm.ClassFile.FieldType.long)]
set_option maxRecDepth 65536 in
theorem codes_eq : words1.filter isCode = codes1 := rfl
theorem w_codes : ∀ c ∈ words1.filter isCode, c.before args0 about1 = true := by
  rw [codes_eq]
  intro c hc
  simp only [codes1, List.mem_cons, List.not_mem_nil, or_false] at hc
  rcases hc with rfl | rfl | rfl | rfl | rfl
  · exact w_c0
  · exact w_c1
  · exact w_c2
  · exact w_c3
  · exact w_c4
set_option maxRecDepth 65536 in
theorem w_t1 : words1.all (fun c => isCode c || c.before args0 about1) = true := by decide +kernel
theorem w_tables : (allAtoms (Jvm.Cond.code x code maxLocals ret :: tables_1)).before args0 about1 = true := by
  rw [allAtoms_all]
  show words1.all (fun c => c.before args0 about1) = true
  refine all_split ?_ w_codes
  rw [w_t1]
set_option maxRecDepth 65536 in
theorem w_case : (Jvm.Cond.and given_1 narrow_1).before args0 about1 = true := by decide +kernel
theorem w_applies : (headSpec (Jvm.Cond.code x code maxLocals ret :: tables_1) room_1).applies x e0.platform about1 = true :=
  (Spec.applies_iff w_frames).mpr ⟨w_running, w_runnable, w_alone, w_named, w_hears, w_ripe, w_room, w_tables⟩
theorem atStart : AtStart classFile x code maxLocals ret World_1 tables_1 room_1 Calls_1 rest_1 Pre_1 launch0 p0 e0 about1 theMethod args0 below0 :=
  ⟨lists_1, trivial, launch0.admits_env _ _ _, launch0.least_env, fairChoices_fair.cas, fairChoices_fair.clock, w_frames, w_args, w_heap, w_applies, trivial, trivial, w_case⟩
end start1
theorem witness_1 : WitnessClaimed_1 := ⟨start1.p0, start1.e0, start1.about1, start1.theMethod, start1.args0, start1.below0, start1.atStart⟩
end Jvm.Pilot.@@N@@
