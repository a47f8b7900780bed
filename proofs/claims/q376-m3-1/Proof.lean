import JvmDerived
import JvmDerived.Pilot.@@N@@Statement
import JvmDerived.Pilot.@@N@@Code
set_option linter.unusedVariables false
set_option linter.unusedSimpArgs false
namespace Jvm.Pilot.@@N@@
open Jvm Jvm.ClassFile Sem Op Lib Jvm.Free Jvm.Stand Jvm.LawKit Jvm.RoadKit Bundle Jvm.Pilot.@@N@@.Jvm.D
section OwnKit
variable {p : Program} {l : Launch} {e : Env} {R : Room} {s : State} {m : MethodId} {args : Array Value} {below : List Frame} {meth : Method} {c : Code} {T : State} {locs : List Loc} {cells slots : Nat} {Z : State} {a0 : Array Value} {h : Heap} {pc : Nat} {Ls : Array Slot} {S : List Value} {Q : Option Value → Heap → List Loc → Prop} {K J : Nat} {Fn : Outcome → State → List Loc → Prop}
/-- from here the body comes to its return, and then Q holds -/
def Go (p : Program) (e : Env) (below : List Frame) (Fn : Outcome → State → List Loc → Prop) (Q : Option Value → Heap → List Loc → Prop) (T : State) (g : JFrame) : Prop :=
  ∃ s₂ o, Steps p.tables e below (T.setTop g) s₂ ∧ s₂.status = .running ∧ Ended s₂ below o ∧ ∃ v L, o = .returned v ∧ Q v s₂.heap L ∧ Fn o s₂ L
theorem Go.st {T' : State} {g g' : JFrame} (st : ∀ t, Steps p.tables e below (T'.setTop g') t → Steps p.tables e below (T.setTop g) t) (k : Go p e below Fn Q T' g') : Go p e below Fn Q T g := by
  obtain ⟨s2, o, h1, h2⟩ := k
  exact ⟨s2, o, st _ h1, h2⟩
theorem own_w {d : Jvm.Cond} (hw : ∀ d ∈ tables_1, d.before a0 Z = true) (i : Nat) (h : tables_1[i]? = some d) : d.before a0 Z = true := hw _ (List.mem_of_getElem? h)
/-- a body's contract, at the heap h0 -/
def OwnMet (l : Launch) (Z : State) (y : MethodName) (bytes : ByteArray) (maxL : Nat) (ret : Option FieldType) (ws : List Jvm.Cond) (rm : Room) (as' : List Value) (h0 : Heap) (Qc : Option Value → Heap → List Loc → Prop) : Prop :=
  MetFree l y (head1 (Jvm.Cond.code y bytes maxL ret :: ws) rm) (fun a U => a = as'.toArray ∧ Z.Warmed39 U.vm ∧ U.heap = h0) (fun _ _ _ _ _ => True) (fun _ U o U' => ∃ v L, o = .returned v ∧ Qc v U'.heap L ∧ FrameEnd U o U' L rm.cells rm.slots)
theorem own_body {y : MethodName} {bytes : ByteArray} {maxL : Nat} {ret : Option FieldType} {ws : List Jvm.Cond} {rm : Room} {as' : List Value} {h0 : Heap} {Qc : Option Value → Heap → List Loc → Prop} {Ls : Array Slot} (hpl : plainFor y = true) (hef : ∀ m, entryFrame m as'.toArray maxL = mkF m 0 Ls [])
    (k : ∀ (p : Program) (e : Env) (s : State) (m : MethodId) (below : List Frame) (meth : Method) (c : Code) (T : State), p.tables.exec = Jvm.exec → c.code = bytes → c.maxLocals = maxL → s.vm.findClass y.cls = some m.cls → meth.name = y.name → meth.sig.returnType = ret → meth.locks = false → Z.Warmed39 s.vm → Stand p l e rm s m as'.toArray below meth c T [] 0 0 → T.heap = h0 → Go p e below (fun o t L => FrameEnd s o t L rm.cells rm.slots) Qc T (mkF m 0 Ls [])) : OwnMet l Z y bytes maxL ret ws rm as' h0 Qc := by
  refine MetFree.of_bodySF hpl hisR ?_
  intro p e s m args below meth c s₁ Bd hml0 hP hK
  obtain ⟨rfl, hZ, hh⟩ := hP
  have e0 : s₁.heap = h0 := by rw [← hh, Bd.state]; rfl
  have g := k p e s m below meth c s₁ Bd.exec Bd.bytes hml0 (findClass_of_methodNamed Bd.named) (name_of_methodNamed Bd.named Bd.method).1 Bd.returns (BodyLoose.notSynchronized Bd) hZ (Stand.of_body Bd) e0
  rw [hef]
  exact g
theorem Go.mono {Q' : Option Value → Heap → List Loc → Prop} {g : JFrame} (k : Go p e below Fn Q' T g) (hq : ∀ v h L, Q' v h L → Q v h L) : Go p e below Fn Q T g := by
  obtain ⟨s2, o, h1, h2, h3, v, L, h4, h5, h6⟩ := k
  exact ⟨s2, o, h1, h2, h3, v, L, h4, hq _ _ _ h5, h6⟩

theorem g_iloadN (X : Stand p l e R s m args below meth c T locs cells slots) (hx : p.tables.exec = Jvm.exec) (q : Nat) {k : Fin 4} {v : Int32} (hd : decode c.code pc = .ok (.iload_n k, 1)) (hl : Ls[k.val]? = some (.val (.int v))) (hq : pc + 1 = q) (k : Go p e below Fn Q T (mkF m q Ls (.int v :: S))) : Go p e below Fn Q T (mkF m pc Ls (S)) := by
  subst hq; exact k.st fun _ z => XS.iloadN X.here hx rfl hd hl z
theorem g_iload (X : Stand p l e R s m args below meth c T locs cells slots) (hx : p.tables.exec = Jvm.exec) (q : Nat) {k : Nat} {v : Int32} (hd : decode c.code pc = .ok (.iload k, 2)) (hl : Ls[k]? = some (.val (.int v))) (hq : pc + 2 = q) (k : Go p e below Fn Q T (mkF m q Ls (.int v :: S))) : Go p e below Fn Q T (mkF m pc Ls (S)) := by
  subst hq; exact k.st fun _ z => XS.iload X.here hx rfl hd hl z
theorem g_istoreN (X : Stand p l e R s m args below meth c T locs cells slots) (hx : p.tables.exec = Jvm.exec) (q : Nat) {k : Fin 4} {v : Int32} (l' : Array Slot) (hd : decode c.code pc = .ok (.istore_n k, 1)) (hl : storeLocals Ls k.val (.int v) = some l') (hq : pc + 1 = q) (k : Go p e below Fn Q T (mkF m q l' (S))) : Go p e below Fn Q T (mkF m pc Ls (.int v :: S)) := by
  subst hq; exact k.st fun _ z => XS.istoreN X.here hx rfl hd rfl hl z
theorem g_istore (X : Stand p l e R s m args below meth c T locs cells slots) (hx : p.tables.exec = Jvm.exec) (q : Nat) {k : Nat} {v : Int32} (l' : Array Slot) (hd : decode c.code pc = .ok (.istore k, 2)) (hl : storeLocals Ls k (.int v) = some l') (hq : pc + 2 = q) (k : Go p e below Fn Q T (mkF m q l' (S))) : Go p e below Fn Q T (mkF m pc Ls (.int v :: S)) := by
  subst hq; exact k.st fun _ z => XS.istore X.here hx rfl hd rfl hl z
theorem g_lloadN (X : Stand p l e R s m args below meth c T locs cells slots) (hx : p.tables.exec = Jvm.exec) (q : Nat) {k : Fin 4} {v : Int64} (hd : decode c.code pc = .ok (.lload_n k, 1)) (hl : Ls[k.val]? = some (.val (.long v))) (hq : pc + 1 = q) (k : Go p e below Fn Q T (mkF m q Ls (.long v :: S))) : Go p e below Fn Q T (mkF m pc Ls (S)) := by
  subst hq; exact k.st fun _ z => XS.lloadN X.here hx rfl hd hl z
theorem g_lload (X : Stand p l e R s m args below meth c T locs cells slots) (hx : p.tables.exec = Jvm.exec) (q : Nat) {k : Nat} {v : Int64} (hd : decode c.code pc = .ok (.lload k, 2)) (hl : Ls[k]? = some (.val (.long v))) (hq : pc + 2 = q) (k : Go p e below Fn Q T (mkF m q Ls (.long v :: S))) : Go p e below Fn Q T (mkF m pc Ls (S)) := by
  subst hq; exact k.st fun _ z => XS.lload X.here hx rfl hd hl z
theorem g_lstoreN (X : Stand p l e R s m args below meth c T locs cells slots) (hx : p.tables.exec = Jvm.exec) (q : Nat) {k : Fin 4} {v : Int64} (l' : Array Slot) (hd : decode c.code pc = .ok (.lstore_n k, 1)) (hl : storeLocals Ls k.val (.long v) = some l') (hq : pc + 1 = q) (k : Go p e below Fn Q T (mkF m q l' (S))) : Go p e below Fn Q T (mkF m pc Ls (.long v :: S)) := by
  subst hq; exact k.st fun _ z => XS.lstoreN X.here hx rfl hd rfl hl z
theorem g_lstore (X : Stand p l e R s m args below meth c T locs cells slots) (hx : p.tables.exec = Jvm.exec) (q : Nat) {k : Nat} {v : Int64} (l' : Array Slot) (hd : decode c.code pc = .ok (.lstore k, 2)) (hl : storeLocals Ls k (.long v) = some l') (hq : pc + 2 = q) (k : Go p e below Fn Q T (mkF m q l' (S))) : Go p e below Fn Q T (mkF m pc Ls (.long v :: S)) := by
  subst hq; exact k.st fun _ z => XS.lstore X.here hx rfl hd rfl hl z
theorem g_aloadN (X : Stand p l e R s m args below meth c T locs cells slots) (hx : p.tables.exec = Jvm.exec) (q : Nat) {k : Fin 4} {v : Value} (hd : decode c.code pc = .ok (.aload_n k, 1)) (hl : Ls[k.val]? = some (.val v)) (hv : v.isRef = true) (hq : pc + 1 = q) (k : Go p e below Fn Q T (mkF m q Ls (v :: S))) : Go p e below Fn Q T (mkF m pc Ls (S)) := by
  subst hq; exact k.st fun _ z => XS.aloadN X.here hx rfl hd hl hv z
theorem g_aload (X : Stand p l e R s m args below meth c T locs cells slots) (hx : p.tables.exec = Jvm.exec) (q : Nat) {k : Nat} {v : Value} (hd : decode c.code pc = .ok (.aload k, 2)) (hl : Ls[k]? = some (.val v)) (hv : v.isRef = true) (hq : pc + 2 = q) (k : Go p e below Fn Q T (mkF m q Ls (v :: S))) : Go p e below Fn Q T (mkF m pc Ls (S)) := by
  subst hq; exact k.st fun _ z => XS.aload X.here hx rfl hd hl hv z
theorem g_astoreN (X : Stand p l e R s m args below meth c T locs cells slots) (hx : p.tables.exec = Jvm.exec) (q : Nat) {k : Fin 4} {v : Value} (l' : Array Slot) (hd : decode c.code pc = .ok (.astore_n k, 1)) (hv : v.isRef = true) (hl : storeLocals Ls k.val v = some l') (hq : pc + 1 = q) (k : Go p e below Fn Q T (mkF m q l' (S))) : Go p e below Fn Q T (mkF m pc Ls (v :: S)) := by
  subst hq; exact k.st fun _ z => XS.astoreN X.here hx rfl hd rfl hv hl z
theorem g_astore (X : Stand p l e R s m args below meth c T locs cells slots) (hx : p.tables.exec = Jvm.exec) (q : Nat) {k : Nat} {v : Value} (l' : Array Slot) (hd : decode c.code pc = .ok (.astore k, 2)) (hv : v.isRef = true) (hl : storeLocals Ls k v = some l') (hq : pc + 2 = q) (k : Go p e below Fn Q T (mkF m q l' (S))) : Go p e below Fn Q T (mkF m pc Ls (v :: S)) := by
  subst hq; exact k.st fun _ z => XS.astore X.here hx rfl hd rfl hv hl z
theorem g_iconst (X : Stand p l e R s m args below meth c T locs cells slots) (hx : p.tables.exec = Jvm.exec) (q : Nat) {i : Int} (v : Int32) (hd : decode c.code pc = .ok (.iconst i, 1)) (hv : Int32.ofInt i = v) (hq : pc + 1 = q) (k : Go p e below Fn Q T (mkF m q Ls (.int v :: S))) : Go p e below Fn Q T (mkF m pc Ls (S)) := by
  subst hq; exact k.st fun _ z => XS.iconst X.here hx rfl hd (hv ▸ z)
theorem g_bipush (X : Stand p l e R s m args below meth c T locs cells slots) (hx : p.tables.exec = Jvm.exec) (q : Nat) {i : Int} (v : Int32) (hd : decode c.code pc = .ok (.bipush i, 2)) (hv : (Int8.ofInt i).toInt32 = v) (hq : pc + 2 = q) (k : Go p e below Fn Q T (mkF m q Ls (.int v :: S))) : Go p e below Fn Q T (mkF m pc Ls (S)) := by
  subst hq; exact k.st fun _ z => XS.bipush X.here hx rfl hd (hv ▸ z)
theorem g_sipush (X : Stand p l e R s m args below meth c T locs cells slots) (hx : p.tables.exec = Jvm.exec) (q : Nat) {i : Int} (v : Int32) (hd : decode c.code pc = .ok (.sipush i, 3)) (hv : (Int16.ofInt i).toInt32 = v) (hq : pc + 3 = q) (k : Go p e below Fn Q T (mkF m q Ls (.int v :: S))) : Go p e below Fn Q T (mkF m pc Ls (S)) := by
  subst hq; exact k.st fun _ z => XS.sipush X.here hx rfl hd (hv ▸ z)
theorem g_lconst (X : Stand p l e R s m args below meth c T locs cells slots) (hx : p.tables.exec = Jvm.exec) (q : Nat) {k : Fin 2} (v : Int64) (hd : decode c.code pc = .ok (.lconst k, 1)) (hv : Int64.ofNat k = v) (hq : pc + 1 = q) (k : Go p e below Fn Q T (mkF m q Ls (.long v :: S))) : Go p e below Fn Q T (mkF m pc Ls (S)) := by
  subst hq; exact k.st fun _ z => XS.lconst X.here hx rfl hd (hv ▸ z)
theorem g_aconst_null (X : Stand p l e R s m args below meth c T locs cells slots) (hx : p.tables.exec = Jvm.exec) (q : Nat)  (hd : decode c.code pc = .ok (.aconst_null, 1))  (hq : pc + 1 = q) (k : Go p e below Fn Q T (mkF m q Ls (.null :: S))) : Go p e below Fn Q T (mkF m pc Ls (S)) := by
  subst hq; exact k.st fun _ z => XS.aconstNull X.here hx rfl hd z
theorem g_iadd (X : Stand p l e R s m args below meth c T locs cells slots) (hx : p.tables.exec = Jvm.exec) (q : Nat) {x y : Int32} (w : Int32) (hd : decode c.code pc = .ok (.iadd, 1)) (hv : x + y = w) (hq : pc + 1 = q) (k : Go p e below Fn Q T (mkF m q Ls (.int w :: S))) : Go p e below Fn Q T (mkF m pc Ls (.int y :: .int x :: S)) := by
  subst hq; exact k.st fun _ z => XS.iadd X.here hx rfl hd rfl (hv ▸ z)
theorem g_isub (X : Stand p l e R s m args below meth c T locs cells slots) (hx : p.tables.exec = Jvm.exec) (q : Nat) {x y : Int32} (w : Int32) (hd : decode c.code pc = .ok (.isub, 1)) (hv : x - y = w) (hq : pc + 1 = q) (k : Go p e below Fn Q T (mkF m q Ls (.int w :: S))) : Go p e below Fn Q T (mkF m pc Ls (.int y :: .int x :: S)) := by
  subst hq; exact k.st fun _ z => XS.isub X.here hx rfl hd rfl (hv ▸ z)
theorem g_imul (X : Stand p l e R s m args below meth c T locs cells slots) (hx : p.tables.exec = Jvm.exec) (q : Nat) {x y : Int32} (w : Int32) (hd : decode c.code pc = .ok (.imul, 1)) (hv : x * y = w) (hq : pc + 1 = q) (k : Go p e below Fn Q T (mkF m q Ls (.int w :: S))) : Go p e below Fn Q T (mkF m pc Ls (.int y :: .int x :: S)) := by
  subst hq; exact k.st fun _ z => XS.imul X.here hx rfl hd rfl (hv ▸ z)
theorem g_iand (X : Stand p l e R s m args below meth c T locs cells slots) (hx : p.tables.exec = Jvm.exec) (q : Nat) {x y : Int32} (w : Int32) (hd : decode c.code pc = .ok (.iand, 1)) (hv : x &&& y = w) (hq : pc + 1 = q) (k : Go p e below Fn Q T (mkF m q Ls (.int w :: S))) : Go p e below Fn Q T (mkF m pc Ls (.int y :: .int x :: S)) := by
  subst hq; exact k.st fun _ z => XS.iand X.here hx rfl hd rfl (hv ▸ z)
theorem g_ior (X : Stand p l e R s m args below meth c T locs cells slots) (hx : p.tables.exec = Jvm.exec) (q : Nat) {x y : Int32} (w : Int32) (hd : decode c.code pc = .ok (.ior, 1)) (hv : x ||| y = w) (hq : pc + 1 = q) (k : Go p e below Fn Q T (mkF m q Ls (.int w :: S))) : Go p e below Fn Q T (mkF m pc Ls (.int y :: .int x :: S)) := by
  subst hq; exact k.st fun _ z => XS.ior X.here hx rfl hd rfl (hv ▸ z)
theorem g_ixor (X : Stand p l e R s m args below meth c T locs cells slots) (hx : p.tables.exec = Jvm.exec) (q : Nat) {x y : Int32} (w : Int32) (hd : decode c.code pc = .ok (.ixor, 1)) (hv : x ^^^ y = w) (hq : pc + 1 = q) (k : Go p e below Fn Q T (mkF m q Ls (.int w :: S))) : Go p e below Fn Q T (mkF m pc Ls (.int y :: .int x :: S)) := by
  subst hq; exact k.st fun _ z => XS.ixor X.here hx rfl hd rfl (hv ▸ z)
theorem g_ishl (X : Stand p l e R s m args below meth c T locs cells slots) (hx : p.tables.exec = Jvm.exec) (q : Nat) {x y : Int32} (w : Int32) (hd : decode c.code pc = .ok (.ishl, 1)) (hv : x <<< (y &&& 31) = w) (hq : pc + 1 = q) (k : Go p e below Fn Q T (mkF m q Ls (.int w :: S))) : Go p e below Fn Q T (mkF m pc Ls (.int y :: .int x :: S)) := by
  subst hq; exact k.st fun _ z => XS.ishl X.here hx rfl hd rfl (hv ▸ z)
theorem g_ishr (X : Stand p l e R s m args below meth c T locs cells slots) (hx : p.tables.exec = Jvm.exec) (q : Nat) {x y : Int32} (w : Int32) (hd : decode c.code pc = .ok (.ishr, 1)) (hv : x >>> (y &&& 31) = w) (hq : pc + 1 = q) (k : Go p e below Fn Q T (mkF m q Ls (.int w :: S))) : Go p e below Fn Q T (mkF m pc Ls (.int y :: .int x :: S)) := by
  subst hq; exact k.st fun _ z => XS.ishr X.here hx rfl hd rfl (hv ▸ z)
theorem g_iushr (X : Stand p l e R s m args below meth c T locs cells slots) (hx : p.tables.exec = Jvm.exec) (q : Nat) {x y : Int32} (w : Int32) (hd : decode c.code pc = .ok (.iushr, 1)) (hv : (x.toUInt32 >>> (y &&& 31).toUInt32).toInt32 = w) (hq : pc + 1 = q) (k : Go p e below Fn Q T (mkF m q Ls (.int w :: S))) : Go p e below Fn Q T (mkF m pc Ls (.int y :: .int x :: S)) := by
  subst hq; exact k.st fun _ z => XS.iushr X.here hx rfl hd rfl (hv ▸ z)
theorem g_ladd (X : Stand p l e R s m args below meth c T locs cells slots) (hx : p.tables.exec = Jvm.exec) (q : Nat) {x y : Int64} (w : Int64) (hd : decode c.code pc = .ok (.ladd, 1)) (hv : x + y = w) (hq : pc + 1 = q) (k : Go p e below Fn Q T (mkF m q Ls (.long w :: S))) : Go p e below Fn Q T (mkF m pc Ls (.long y :: .long x :: S)) := by
  subst hq; exact k.st fun _ z => XS.ladd X.here hx rfl hd rfl (hv ▸ z)
theorem g_lsub (X : Stand p l e R s m args below meth c T locs cells slots) (hx : p.tables.exec = Jvm.exec) (q : Nat) {x y : Int64} (w : Int64) (hd : decode c.code pc = .ok (.lsub, 1)) (hv : x - y = w) (hq : pc + 1 = q) (k : Go p e below Fn Q T (mkF m q Ls (.long w :: S))) : Go p e below Fn Q T (mkF m pc Ls (.long y :: .long x :: S)) := by
  subst hq; exact k.st fun _ z => XS.lsub X.here hx rfl hd rfl (hv ▸ z)
theorem g_lmul (X : Stand p l e R s m args below meth c T locs cells slots) (hx : p.tables.exec = Jvm.exec) (q : Nat) {x y : Int64} (w : Int64) (hd : decode c.code pc = .ok (.lmul, 1)) (hv : x * y = w) (hq : pc + 1 = q) (k : Go p e below Fn Q T (mkF m q Ls (.long w :: S))) : Go p e below Fn Q T (mkF m pc Ls (.long y :: .long x :: S)) := by
  subst hq; exact k.st fun _ z => XS.lmul X.here hx rfl hd rfl (hv ▸ z)
theorem g_land (X : Stand p l e R s m args below meth c T locs cells slots) (hx : p.tables.exec = Jvm.exec) (q : Nat) {x y : Int64} (w : Int64) (hd : decode c.code pc = .ok (.land, 1)) (hv : x &&& y = w) (hq : pc + 1 = q) (k : Go p e below Fn Q T (mkF m q Ls (.long w :: S))) : Go p e below Fn Q T (mkF m pc Ls (.long y :: .long x :: S)) := by
  subst hq; exact k.st fun _ z => XS.land X.here hx rfl hd rfl (hv ▸ z)
theorem g_lor (X : Stand p l e R s m args below meth c T locs cells slots) (hx : p.tables.exec = Jvm.exec) (q : Nat) {x y : Int64} (w : Int64) (hd : decode c.code pc = .ok (.lor, 1)) (hv : x ||| y = w) (hq : pc + 1 = q) (k : Go p e below Fn Q T (mkF m q Ls (.long w :: S))) : Go p e below Fn Q T (mkF m pc Ls (.long y :: .long x :: S)) := by
  subst hq; exact k.st fun _ z => XS.lor X.here hx rfl hd rfl (hv ▸ z)
theorem g_lxor (X : Stand p l e R s m args below meth c T locs cells slots) (hx : p.tables.exec = Jvm.exec) (q : Nat) {x y : Int64} (w : Int64) (hd : decode c.code pc = .ok (.lxor, 1)) (hv : x ^^^ y = w) (hq : pc + 1 = q) (k : Go p e below Fn Q T (mkF m q Ls (.long w :: S))) : Go p e below Fn Q T (mkF m pc Ls (.long y :: .long x :: S)) := by
  subst hq; exact k.st fun _ z => XS.lxor X.here hx rfl hd rfl (hv ▸ z)
theorem g_lshl (X : Stand p l e R s m args below meth c T locs cells slots) (hx : p.tables.exec = Jvm.exec) (q : Nat) {x : Int64} {y : Int32} (w : Int64) (hd : decode c.code pc = .ok (.lshl, 1)) (hv : x <<< (y &&& 0x3f).toInt64 = w) (hq : pc + 1 = q) (k : Go p e below Fn Q T (mkF m q Ls (.long w :: S))) : Go p e below Fn Q T (mkF m pc Ls (.int y :: .long x :: S)) := by
  subst hq; exact k.st fun _ z => XS.lshl X.here hx rfl hd rfl (hv ▸ z)
theorem g_lshr (X : Stand p l e R s m args below meth c T locs cells slots) (hx : p.tables.exec = Jvm.exec) (q : Nat) {x : Int64} {y : Int32} (w : Int64) (hd : decode c.code pc = .ok (.lshr, 1)) (hv : x >>> (y &&& 0x3f).toInt64 = w) (hq : pc + 1 = q) (k : Go p e below Fn Q T (mkF m q Ls (.long w :: S))) : Go p e below Fn Q T (mkF m pc Ls (.int y :: .long x :: S)) := by
  subst hq; exact k.st fun _ z => XS.lshr X.here hx rfl hd rfl (hv ▸ z)
theorem g_lushr (X : Stand p l e R s m args below meth c T locs cells slots) (hx : p.tables.exec = Jvm.exec) (q : Nat) {x : Int64} {y : Int32} (w : Int64) (hd : decode c.code pc = .ok (.lushr, 1)) (hv : (x.toUInt64 >>> (y &&& 0x3f).toInt64.toUInt64).toInt64 = w) (hq : pc + 1 = q) (k : Go p e below Fn Q T (mkF m q Ls (.long w :: S))) : Go p e below Fn Q T (mkF m pc Ls (.int y :: .long x :: S)) := by
  subst hq; exact k.st fun _ z => XS.lushr X.here hx rfl hd rfl (hv ▸ z)
theorem g_lcmp (X : Stand p l e R s m args below meth c T locs cells slots) (hx : p.tables.exec = Jvm.exec) (q : Nat) {x y : Int64} (hd : decode c.code pc = .ok (.lcmp, 1))  (hq : pc + 1 = q) (k : Go p e below Fn Q T (mkF m q Ls (.int (lcmpW x y) :: S))) : Go p e below Fn Q T (mkF m pc Ls (.long y :: .long x :: S)) := by
  subst hq; exact k.st fun _ z => XS.lcmp X.here hx rfl hd rfl z
theorem g_idiv (X : Stand p l e R s m args below meth c T locs cells slots) (hx : p.tables.exec = Jvm.exec) (q : Nat) {x y : Int32} (w : Int32) (hd : decode c.code pc = .ok (.idiv, 1)) (hy : y ≠ 0) (hv : x / y = w) (hq : pc + 1 = q) (k : Go p e below Fn Q T (mkF m q Ls (.int w :: S))) : Go p e below Fn Q T (mkF m pc Ls (.int y :: .int x :: S)) := by
  subst hq; exact k.st fun _ z => XS.idiv X.here hx rfl hd rfl hy (hv ▸ z)
theorem g_irem (X : Stand p l e R s m args below meth c T locs cells slots) (hx : p.tables.exec = Jvm.exec) (q : Nat) {x y : Int32} (w : Int32) (hd : decode c.code pc = .ok (.irem, 1)) (hy : y ≠ 0) (hv : x % y = w) (hq : pc + 1 = q) (k : Go p e below Fn Q T (mkF m q Ls (.int w :: S))) : Go p e below Fn Q T (mkF m pc Ls (.int y :: .int x :: S)) := by
  subst hq; exact k.st fun _ z => iremM X hx rfl hd rfl hy (hv ▸ z)
theorem g_ldiv (X : Stand p l e R s m args below meth c T locs cells slots) (hx : p.tables.exec = Jvm.exec) (q : Nat) {x y : Int64} (w : Int64) (hd : decode c.code pc = .ok (.ldiv, 1)) (hy : y ≠ 0) (hv : x / y = w) (hq : pc + 1 = q) (k : Go p e below Fn Q T (mkF m q Ls (.long w :: S))) : Go p e below Fn Q T (mkF m pc Ls (.long y :: .long x :: S)) := by
  subst hq; exact k.st fun _ z => XS.ldiv X.here hx rfl hd rfl hy (hv ▸ z)
theorem g_ineg (X : Stand p l e R s m args below meth c T locs cells slots) (hx : p.tables.exec = Jvm.exec) (q : Nat) {x : Int32} (w : Int32) (hd : decode c.code pc = .ok (.ineg, 1)) (hv : -x = w) (hq : pc + 1 = q) (k : Go p e below Fn Q T (mkF m q Ls (.int w :: S))) : Go p e below Fn Q T (mkF m pc Ls (.int x :: S)) := by
  subst hq; exact k.st fun _ z => XS.ineg X.here hx rfl hd rfl (hv ▸ z)
theorem g_lneg (X : Stand p l e R s m args below meth c T locs cells slots) (hx : p.tables.exec = Jvm.exec) (q : Nat) {x : Int64} (w : Int64) (hd : decode c.code pc = .ok (.lneg, 1)) (hv : -x = w) (hq : pc + 1 = q) (k : Go p e below Fn Q T (mkF m q Ls (.long w :: S))) : Go p e below Fn Q T (mkF m pc Ls (.long x :: S)) := by
  subst hq; exact k.st fun _ z => XS.lneg X.here hx rfl hd rfl (hv ▸ z)
theorem g_i2l (X : Stand p l e R s m args below meth c T locs cells slots) (hx : p.tables.exec = Jvm.exec) (q : Nat) {x : Int32} (w : Int64) (hd : decode c.code pc = .ok (.i2l, 1)) (hv : x.toInt64 = w) (hq : pc + 1 = q) (k : Go p e below Fn Q T (mkF m q Ls (.long w :: S))) : Go p e below Fn Q T (mkF m pc Ls (.int x :: S)) := by
  subst hq; exact k.st fun _ z => XS.i2l X.here hx rfl hd rfl (hv ▸ z)
theorem g_l2i (X : Stand p l e R s m args below meth c T locs cells slots) (hx : p.tables.exec = Jvm.exec) (q : Nat) {x : Int64} (w : Int32) (hd : decode c.code pc = .ok (.l2i, 1)) (hv : x.toInt32 = w) (hq : pc + 1 = q) (k : Go p e below Fn Q T (mkF m q Ls (.int w :: S))) : Go p e below Fn Q T (mkF m pc Ls (.long x :: S)) := by
  subst hq; exact k.st fun _ z => XS.l2i X.here hx rfl hd rfl (hv ▸ z)
theorem g_i2c (X : Stand p l e R s m args below meth c T locs cells slots) (hx : p.tables.exec = Jvm.exec) (q : Nat) {x : Int32} (w : Int32) (hd : decode c.code pc = .ok (.i2c, 1)) (hv : x.toUInt32.toUInt16.toUInt32.toInt32 = w) (hq : pc + 1 = q) (k : Go p e below Fn Q T (mkF m q Ls (.int w :: S))) : Go p e below Fn Q T (mkF m pc Ls (.int x :: S)) := by
  subst hq; exact k.st fun _ z => XS.i2c X.here hx rfl hd rfl (hv ▸ z)
theorem g_i2b (X : Stand p l e R s m args below meth c T locs cells slots) (hx : p.tables.exec = Jvm.exec) (q : Nat) {x : Int32} (w : Int32) (hd : decode c.code pc = .ok (.i2b, 1)) (hv : x.toInt8.toInt32 = w) (hq : pc + 1 = q) (k : Go p e below Fn Q T (mkF m q Ls (.int w :: S))) : Go p e below Fn Q T (mkF m pc Ls (.int x :: S)) := by
  subst hq; exact k.st fun _ z => XS.i2b X.here hx rfl hd rfl (hv ▸ z)
theorem g_i2s (X : Stand p l e R s m args below meth c T locs cells slots) (hx : p.tables.exec = Jvm.exec) (q : Nat) {x : Int32} (w : Int32) (hd : decode c.code pc = .ok (.i2s, 1)) (hv : x.toInt16.toInt32 = w) (hq : pc + 1 = q) (k : Go p e below Fn Q T (mkF m q Ls (.int w :: S))) : Go p e below Fn Q T (mkF m pc Ls (.int x :: S)) := by
  subst hq; exact k.st fun _ z => XS.i2s X.here hx rfl hd rfl (hv ▸ z)
theorem g_dup (X : Stand p l e R s m args below meth c T locs cells slots) (hx : p.tables.exec = Jvm.exec) (q : Nat) {v : Value} (hd : decode c.code pc = .ok (.dup, 1)) (hc : v.category = 1) (hq : pc + 1 = q) (k : Go p e below Fn Q T (mkF m q Ls (v :: v :: S))) : Go p e below Fn Q T (mkF m pc Ls (v :: S)) := by
  subst hq; exact k.st fun _ z => XS.dup X.here hx rfl hd rfl hc z
theorem g_pop (X : Stand p l e R s m args below meth c T locs cells slots) (hx : p.tables.exec = Jvm.exec) (q : Nat) {v : Value} (hd : decode c.code pc = .ok (.pop, 1)) (hc : v.category = 1) (hq : pc + 1 = q) (k : Go p e below Fn Q T (mkF m q Ls (S))) : Go p e below Fn Q T (mkF m pc Ls (v :: S)) := by
  subst hq; exact k.st fun _ z => XS.pop X.here hx rfl hd rfl hc z
theorem g_dup_x1 (X : Stand p l e R s m args below meth c T locs cells slots) (hx : p.tables.exec = Jvm.exec) (q : Nat) {v w : Value} (hd : decode c.code pc = .ok (.dup_x1, 1)) (hc : v.category = 1) (hc' : w.category = 1) (hq : pc + 1 = q) (k : Go p e below Fn Q T (mkF m q Ls (v :: w :: v :: S))) : Go p e below Fn Q T (mkF m pc Ls (v :: w :: S)) := by
  subst hq; exact k.st fun _ z => XS.dupX1 X.here hx rfl hd rfl hc hc' z
theorem g_dup2L (X : Stand p l e R s m args below meth c T locs cells slots) (hx : p.tables.exec = Jvm.exec) (q : Nat) {x : Int64} (hd : decode c.code pc = .ok (.dup2, 1))  (hq : pc + 1 = q) (k : Go p e below Fn Q T (mkF m q Ls (.long x :: .long x :: S))) : Go p e below Fn Q T (mkF m pc Ls (.long x :: S)) := by
  subst hq; exact k.st fun _ z => Jvm.Free.XT.dup2L X.here hx rfl hd rfl z
theorem g_dup2 (X : Stand p l e R s m args below meth c T locs cells slots) (hx : p.tables.exec = Jvm.exec) (q : Nat) {v w : Value} (hd : decode c.code pc = .ok (.dup2, 1)) (hc : v.category = 1) (hc' : w.category = 1) (hq : pc + 1 = q) (k : Go p e below Fn Q T (mkF m q Ls (v :: w :: v :: w :: S))) : Go p e below Fn Q T (mkF m pc Ls (v :: w :: S)) := by
  subst hq; exact k.st fun _ z => Jvm.Free.XT.dup2 X.here hx rfl hd rfl hc hc' z
theorem g_iinc (X : Stand p l e R s m args below meth c T locs cells slots) (hx : p.tables.exec = Jvm.exec) (q : Nat) {k : Nat} {cst : Int} {x : Int32} (w : Int32) (l' : Array Slot) (hd : decode c.code pc = .ok (.iinc k cst, 3)) (hl : Ls[k]? = some (.val (.int x))) (hv : x + Int32.ofInt cst = w) (hl' : storeLocals Ls k (.int w) = some l') (hq : pc + 3 = q) (k : Go p e below Fn Q T (mkF m q l' (S))) : Go p e below Fn Q T (mkF m pc Ls (S)) := by
  subst hq; exact k.st fun _ z => XS.iinc X.here hx rfl hd hl (hv ▸ hl') z
theorem g_ldcI (X : Stand p l e R s m args below meth c T locs cells slots) (hx : p.tables.exec = Jvm.exec) (q : Nat) (hZ : Z.Warmed39 s.vm) {own : String} {index : Nat} {v : Int32} (hown : s.vm.findClass own = some m.cls) (w1 : (Jvm.Cond.constant own index v).before a0 Z = true) (hd : decode c.code pc = .ok (.ldc index, 2))  (hq : pc + 2 = q) (k : Go p e below Fn Q T (mkF m q Ls (.int v :: S))) : Go p e below Fn Q T (mkF m pc Ls (S)) := by
  subst hq; exact k.st fun _ z => X.ldcInt hx hown (mvT hZ w1) (g := mkF m pc Ls S) rfl hd _ z
theorem g_ldc2J (X : Stand p l e R s m args below meth c T locs cells slots) (hx : p.tables.exec = Jvm.exec) (q : Nat) (hZ : Z.Warmed39 s.vm) {own : String} {index : Nat} {v : Int64} (hown : s.vm.findClass own = some m.cls) (w1 : (Jvm.Cond.constantLong own index v).before a0 Z = true) (hd : decode c.code pc = .ok (.ldc2_w index, 3))  (hq : pc + 3 = q) (k : Go p e below Fn Q T (mkF m q Ls (.long v :: S))) : Go p e below Fn Q T (mkF m pc Ls (S)) := by
  subst hq; exact k.st fun _ z => X.ldc2Long hx hown (mvT hZ w1) (g := mkF m pc Ls S) rfl hd _ z
theorem g_goto (X : Stand p l e R s m args below meth c T locs cells slots) (hx : p.tables.exec = Jvm.exec) (q : Nat)  {o : Int} (hd : decode c.code pc = .ok (.goto o, 3))  (ho : 0 ≤ (pc : Int) + o) (hp : ((pc : Int) + o).toNat = q) (k : Go p e below Fn Q T (mkF m q Ls S)) : Go p e below Fn Q T (mkF m pc Ls (S)) := k.st fun _ z => XS.goto X.here hx rfl rfl hd ho hp z
theorem g_ifT (X : Stand p l e R s m args below meth c T locs cells slots) (hx : p.tables.exec = Jvm.exec) (q : Nat) {cd : ClassFile.Cond} {x : Int32} {o : Int} (hd : decode c.code pc = .ok (.ifCond cd o, 3)) (hc : ifCond.holds cd x = true) (ho : 0 ≤ (pc : Int) + o) (hp : ((pc : Int) + o).toNat = q) (k : Go p e below Fn Q T (mkF m q Ls S)) : Go p e below Fn Q T (mkF m pc Ls (.int x :: S)) := k.st fun _ z => XS.ifYes X.here hx rfl rfl hd rfl hc ho hp z
theorem g_ifF (X : Stand p l e R s m args below meth c T locs cells slots) (hx : p.tables.exec = Jvm.exec) (q : Nat) {cd : ClassFile.Cond} {x : Int32} {o : Int} (hd : decode c.code pc = .ok (.ifCond cd o, 3)) (hc : ifCond.holds cd x = false) (hq : pc + 3 = q) (k : Go p e below Fn Q T (mkF m q Ls S)) : Go p e below Fn Q T (mkF m pc Ls (.int x :: S)) := by
  subst hq; exact k.st fun _ z => XS.ifNo X.here hx rfl hd rfl hc z
theorem g_icT (X : Stand p l e R s m args below meth c T locs cells slots) (hx : p.tables.exec = Jvm.exec) (q : Nat) {cd : ClassFile.Cond} {x y : Int32} {o : Int} (hd : decode c.code pc = .ok (.if_icmp cd o, 3)) (hc : if_icmp.holds cd x y = true) (ho : 0 ≤ (pc : Int) + o) (hp : ((pc : Int) + o).toNat = q) (k : Go p e below Fn Q T (mkF m q Ls S)) : Go p e below Fn Q T (mkF m pc Ls (.int y :: .int x :: S)) := k.st fun _ z => XS.icmpYes X.here hx rfl rfl hd rfl hc ho hp z
theorem g_icF (X : Stand p l e R s m args below meth c T locs cells slots) (hx : p.tables.exec = Jvm.exec) (q : Nat) {cd : ClassFile.Cond} {x y : Int32} {o : Int} (hd : decode c.code pc = .ok (.if_icmp cd o, 3)) (hc : if_icmp.holds cd x y = false) (hq : pc + 3 = q) (k : Go p e below Fn Q T (mkF m q Ls S)) : Go p e below Fn Q T (mkF m pc Ls (.int y :: .int x :: S)) := by
  subst hq; exact k.st fun _ z => XS.icmpNo X.here hx rfl hd rfl hc z
theorem g_ifnullT (X : Stand p l e R s m args below meth c T locs cells slots) (hx : p.tables.exec = Jvm.exec) (q : Nat)  {o : Int} (hd : decode c.code pc = .ok (.ifnull o, 3))  (ho : 0 ≤ (pc : Int) + o) (hp : ((pc : Int) + o).toNat = q) (k : Go p e below Fn Q T (mkF m q Ls S)) : Go p e below Fn Q T (mkF m pc Ls (.null :: S)) := k.st fun _ z => XS.ifnullYes X.here hx rfl rfl hd rfl ho hp z
theorem g_ifnullF (X : Stand p l e R s m args below meth c T locs cells slots) (hx : p.tables.exec = Jvm.exec) (q : Nat) {b : Addr} {o : Int} (hd : decode c.code pc = .ok (.ifnull o, 3))  (hq : pc + 3 = q) (k : Go p e below Fn Q T (mkF m q Ls S)) : Go p e below Fn Q T (mkF m pc Ls (.ref b :: S)) := by
  subst hq; exact k.st fun _ z => XS.ifnullNo X.here hx rfl hd rfl z
theorem g_ifnonnullT (X : Stand p l e R s m args below meth c T locs cells slots) (hx : p.tables.exec = Jvm.exec) (q : Nat) {b : Addr} {o : Int} (hd : decode c.code pc = .ok (.ifnonnull o, 3))  (ho : 0 ≤ (pc : Int) + o) (hp : ((pc : Int) + o).toNat = q) (k : Go p e below Fn Q T (mkF m q Ls S)) : Go p e below Fn Q T (mkF m pc Ls (.ref b :: S)) := k.st fun _ z => XS.ifnonnullYes X.here hx rfl rfl hd rfl ho hp z
theorem g_ifnonnullF (X : Stand p l e R s m args below meth c T locs cells slots) (hx : p.tables.exec = Jvm.exec) (q : Nat)  {o : Int} (hd : decode c.code pc = .ok (.ifnonnull o, 3))  (hq : pc + 3 = q) (k : Go p e below Fn Q T (mkF m q Ls S)) : Go p e below Fn Q T (mkF m pc Ls (.null :: S)) := by
  subst hq; exact k.st fun _ z => XS.ifnonnullNo X.here hx rfl hd rfl z
theorem g_ac (X : Stand p l e R s m args below meth c T locs cells slots) (hx : p.tables.exec = Jvm.exec) (q : Nat) {cd : ACond} {v w : Value} {o : Int} (same : Bool) (hd : decode c.code pc = .ok (.if_acmp cd o, 3)) (h1 : v.isRef = true) (h2 : w.isRef = true) (hs : decide (v = w) = same) (ho : 0 ≤ (pc : Int) + o) (hp : q = if acV cd same = true then ((pc : Int) + o).toNat else pc + 3) (k : Go p e below Fn Q T (mkF m q Ls S)) : Go p e below Fn Q T (mkF m pc Ls (w :: v :: S)) := k.st fun _ z => Jvm.RoadKit.acmp X hx rfl h1 h2 rfl hd rfl hs ho hp z
theorem own_ltL {x y : Int64} (h : x < y) : ifCond.holds .lt (lcmpW x y) = true ∧ ifCond.holds .ge (lcmpW x y) = false ∧ ifCond.holds .gt (lcmpW y x) = true ∧ ifCond.holds .le (lcmpW y x) = false := by
  have h1 := (lw_lt x y).mpr h
  have h2 := (lw_gt y x).mpr h
  exact ⟨(if0 _ _).trans (tlt h1).1, (if0 _ _).trans (tlt h1).2.1, (if0 _ _).trans (tlt h2).2.2.1, (if0 _ _).trans (tlt h2).2.2.2⟩
theorem own_nltL {x y : Int64} (h : ¬ x < y) : ifCond.holds .lt (lcmpW x y) = false ∧ ifCond.holds .ge (lcmpW x y) = true ∧ ifCond.holds .gt (lcmpW y x) = false ∧ ifCond.holds .le (lcmpW y x) = true := by
  have h1 : ¬ lcmpW x y < 0 := fun q => h ((lw_lt x y).mp q)
  have h2 : ¬ 0 < lcmpW y x := fun q => h ((lw_gt y x).mp q)
  exact ⟨(if0 _ _).trans (flt h1).1, (if0 _ _).trans (flt h1).2.1, (if0 _ _).trans (flt h2).2.2.1, (if0 _ _).trans (flt h2).2.2.2⟩
theorem own_eqL {x y : Int64} (h : x = y) : ifCond.holds .eq (lcmpW x y) = true ∧ ifCond.holds .ne (lcmpW x y) = false := by
  have h1 := (lw_eq x y).mpr h
  exact ⟨(if0 _ _).trans (teq h1).1, (if0 _ _).trans (teq h1).2⟩
theorem own_neL {x y : Int64} (h : ¬ x = y) : ifCond.holds .eq (lcmpW x y) = false ∧ ifCond.holds .ne (lcmpW x y) = true := by
  have h1 : ¬ lcmpW x y = 0 := fun q => h ((lw_eq x y).mp q)
  exact ⟨(if0 _ _).trans (feq h1).1, (if0 _ _).trans (feq h1).2⟩
theorem g_ret (X : Stand p l e R s m args below meth c T locs cells slots) (hx : p.tables.exec = Jvm.exec) {t : FieldType} {i : Instr} {w : Value} (hret : meth.sig.returnType = some t) (hlk : meth.locks = false) (hn : narrow t w = w) (hi : (i = .ireturn ∧ (t = .int ∨ t = .boolean ∨ t = .byte ∨ t = .char ∨ t = .short) ∧ ∃ z, w = .int z) ∨ (i = .lreturn ∧ t = .long ∧ ∃ z, w = .long z) ∨ (i = .dreturn ∧ t = .double ∧ ∃ z, w = .double z) ∨ (i = .freturn ∧ t = .float ∧ ∃ z, w = .float z) ∨ (i = .areturn ∧ t.isReference = true ∧ w.isRef = true)) (hd : decode c.code pc = .ok (i, 1)) (hc : cells ≤ K) (hs : slots ≤ J) (hq : Q (some w) T.heap locs) : Go p e below (fun o t L => FrameEnd s o t L K J) Q T (mkF m pc Ls (w :: S)) := by
  obtain ⟨fs, hr, hrun, hended, hW, hsame⟩ := X.leave (v := some w) (fun h => by rw [hret] at h; cases h) hlk
  exact ⟨_, _, retOut X hx hret hn hi hd hr, hrun, hended, _, _, rfl, hq, ⟨_, rfl⟩, hW, hsame.mono hc hs⟩
theorem g_retI (X : Stand p l e R s m args below meth c T locs cells slots) (hx : p.tables.exec = Jvm.exec) {z : Int32} (hret : meth.sig.returnType = some .int) (hlk : meth.locks = false) (hd : decode c.code pc = .ok (.ireturn, 1)) (hc : cells ≤ K) (hs : slots ≤ J) (hq : Q (some (.int z)) T.heap locs) : Go p e below (fun o t L => FrameEnd s o t L K J) Q T (mkF m pc Ls (.int z :: S)) := g_ret X hx hret hlk rfl (Or.inl ⟨rfl, Or.inl rfl, _, rfl⟩) hd hc hs hq
theorem g_retZ (X : Stand p l e R s m args below meth c T locs cells slots) (hx : p.tables.exec = Jvm.exec) {z : Int32} (hret : meth.sig.returnType = some .boolean) (hlk : meth.locks = false) (hn : narrow .boolean (.int z) = .int z) (hd : decode c.code pc = .ok (.ireturn, 1)) (hc : cells ≤ K) (hs : slots ≤ J) (hq : Q (some (.int z)) T.heap locs) : Go p e below (fun o t L => FrameEnd s o t L K J) Q T (mkF m pc Ls (.int z :: S)) := g_ret X hx hret hlk hn (Or.inl ⟨rfl, Or.inr (Or.inl rfl), _, rfl⟩) hd hc hs hq
theorem g_retC (X : Stand p l e R s m args below meth c T locs cells slots) (hx : p.tables.exec = Jvm.exec) {z : Int32} (hret : meth.sig.returnType = some .char) (hlk : meth.locks = false) (hn : narrow .char (.int z) = .int z) (hd : decode c.code pc = .ok (.ireturn, 1)) (hc : cells ≤ K) (hs : slots ≤ J) (hq : Q (some (.int z)) T.heap locs) : Go p e below (fun o t L => FrameEnd s o t L K J) Q T (mkF m pc Ls (.int z :: S)) := g_ret X hx hret hlk hn (Or.inl ⟨rfl, Or.inr (Or.inr (Or.inr (Or.inl rfl))), _, rfl⟩) hd hc hs hq
theorem g_retB (X : Stand p l e R s m args below meth c T locs cells slots) (hx : p.tables.exec = Jvm.exec) {z : Int32} (hret : meth.sig.returnType = some .byte) (hlk : meth.locks = false) (hn : narrow .byte (.int z) = .int z) (hd : decode c.code pc = .ok (.ireturn, 1)) (hc : cells ≤ K) (hs : slots ≤ J) (hq : Q (some (.int z)) T.heap locs) : Go p e below (fun o t L => FrameEnd s o t L K J) Q T (mkF m pc Ls (.int z :: S)) := g_ret X hx hret hlk hn (Or.inl ⟨rfl, Or.inr (Or.inr (Or.inl rfl)), _, rfl⟩) hd hc hs hq
theorem g_retJ (X : Stand p l e R s m args below meth c T locs cells slots) (hx : p.tables.exec = Jvm.exec) {z : Int64} (hret : meth.sig.returnType = some .long) (hlk : meth.locks = false) (hd : decode c.code pc = .ok (.lreturn, 1)) (hc : cells ≤ K) (hs : slots ≤ J) (hq : Q (some (.long z)) T.heap locs) : Go p e below (fun o t L => FrameEnd s o t L K J) Q T (mkF m pc Ls (.long z :: S)) := g_ret X hx hret hlk rfl (Or.inr (Or.inl ⟨rfl, rfl, _, rfl⟩)) hd hc hs hq
theorem g_retA (X : Stand p l e R s m args below meth c T locs cells slots) (hx : p.tables.exec = Jvm.exec) {t : FieldType} {w : Value} (hret : meth.sig.returnType = some t) (hlk : meth.locks = false) (hr : t.isReference = true) (hw : w.isRef = true) (hn : narrow t w = w) (hd : decode c.code pc = .ok (.areturn, 1)) (hc : cells ≤ K) (hs : slots ≤ J) (hq : Q (some w) T.heap locs) : Go p e below (fun o t L => FrameEnd s o t L K J) Q T (mkF m pc Ls (w :: S)) := g_ret X hx hret hlk hn (Or.inr (Or.inr (Or.inr (Or.inr ⟨rfl, hr, hw⟩)))) hd hc hs hq
theorem g_retV (X : Stand p l e R s m args below meth c T locs cells slots) (hx : p.tables.exec = Jvm.exec) (hret : meth.sig.returnType = none) (hlk : meth.locks = false) (hd : decode c.code pc = .ok (.return_, 1)) (hc : cells ≤ K) (hs : slots ≤ J) (hq : Q none T.heap locs) : Go p e below (fun o t L => FrameEnd s o t L K J) Q T (mkF m pc Ls []) := by
  obtain ⟨fs, hr, hrun, hended, hW, hsame⟩ := X.leave (v := none) (fun _ => rfl) hlk
  exact ⟨_, _, X.returnOut hx hret hd hr, hrun, hended, _, _, rfl, hq, ⟨_, rfl⟩, hW, hsame.mono hc hs⟩
theorem g_getF (X : Stand p l e R s m args below meth c T locs cells slots) (hx : p.tables.exec = Jvm.exec) (q : Nat) (hZ : Z.Warmed39 s.vm) {own R0 O n d host : String} {index : Nat} (hown : s.vm.findClass own = some m.cls) (w1 : (Jvm.Cond.fieldLink own index R0 n d).before a0 Z = true ∨ (Jvm.Cond.fieldLinkNest own index R0 n d host).before a0 Z = true) (via : Via Z R0 O n d) (eT : T.heap = h) {a : Addr} {v : Value} (F : Fld Z h a O n d v) (hd : decode c.code pc = .ok (.getfield index, 3)) (hq : pc + 3 = q)
    (k : ∀ T', Stand p l e R s m args below meth c T' locs cells slots → T'.heap = h → Go p e below Fn Q T' (mkF m q Ls (v :: S))) : Go p e below Fn Q T (mkF m pc Ls (.ref a :: S)) := by
  obtain ⟨T', X', e', st⟩ := getF X hx hZ hown w1 via eT F (g := mkF m pc Ls (.ref a :: S)) rfl rfl hd
  subst hq; exact (k T' X' e').st st
theorem g_putF (X : Stand p l e R s m args below meth c T locs cells slots) (hx : p.tables.exec = Jvm.exec) (q : Nat) (hZ : Z.Warmed39 s.vm) {own R0 O n d host C : String} {index kk : Nat} {ty : FieldType} (hown : s.vm.findClass own = some m.cls) (w1 : (Jvm.Cond.fieldLink own index R0 n d).before a0 Z = true ∨ (Jvm.Cond.fieldLinkNest own index R0 n d host).before a0 Z = true) (via : Via Z R0 O n d) (eT : T.heap = h) {a : Addr} {v old : Value} (F : Fld Z h a O n d old) (E : Exa Z h a C)
    (L : (Jvm.Cond.lays C O n d).before a0 Z = true ∨ ((Jvm.Cond.laysFinal C O n d).before a0 Z = true ∧ own = O ∧ meth.name = "<init>")) (wi : (Jvm.Cond.instantiable C kk).before a0 Z = true) (hty : parseFieldDescriptor d = some ty) (hn : narrow ty v = v) (hf : fits ty v = true) (hd : decode c.code pc = .ok (.putfield index, 3)) (hq : pc + 3 = q)
    (k : ∀ T' h', Stand p l e R s m args below meth c T' (locs ++ [⟨a, Jvm.RoadKit.slotOf Z O n d⟩]) cells slots → T'.heap = h' → Wr h h' a (Jvm.RoadKit.slotOf Z O n d) v → Go p e below Fn Q T' (mkF m q Ls S)) : Go p e below Fn Q T (mkF m pc Ls (v :: .ref a :: S)) := by
  obtain ⟨T', h', X', e', W', st⟩ := putF X hx hZ hown w1 via eT F E L wi hty hn hf (g := mkF m pc Ls (v :: .ref a :: S)) rfl rfl hd
  subst hq; exact (k T' h' X' e' W').st st
theorem g_getS (X : Stand p l e R s m args below meth c T locs cells slots) (hx : p.tables.exec = Jvm.exec) (q : Nat) (hZ : Z.Warmed39 s.vm) {own R0 O n d host : String} {index : Nat} (hown : s.vm.findClass own = some m.cls) (w1 : (Jvm.Cond.fieldLink own index R0 n d).before a0 Z = true ∨ (Jvm.Cond.fieldLinkNest own index R0 n d host).before a0 Z = true) (via : Via Z R0 O n d) (eT : T.heap = h) {v : Value} (F : Sta Z h O n d v) (hd : decode c.code pc = .ok (.getstatic index, 3)) (hq : pc + 3 = q)
    (k : ∀ T', Stand p l e R s m args below meth c T' locs cells slots → T'.heap = h → Go p e below Fn Q T' (mkF m q Ls (v :: S))) : Go p e below Fn Q T (mkF m pc Ls S) := by
  obtain ⟨T', X', e', st⟩ := getS2 X hx hZ hown w1 via eT F (g := mkF m pc Ls S) rfl hd
  subst hq; exact (k T' X' e').st st
theorem g_new (X : Stand p l e R s m args below meth c T locs cells slots) (hx : p.tables.exec = Jvm.exec) (q : Nat) (hZ : Z.Warmed39 s.vm) {own C : String} {index n : Nat} (hown : s.vm.findClass own = some m.cls) (w1 : (Jvm.Cond.classLink own index C).before a0 Z = true) (wi : (Jvm.Cond.instantiable C n).before a0 Z = true) (wz : (Jvm.Cond.initialized C).before a0 Z = true) (eT : T.heap = h) (hd : decode c.code pc = .ok (.new index, 3)) (hc : cells + 1 ≤ R.cells) (hl : slots + n ≤ R.slots) (hq : pc + 3 = q)
    (k : ∀ T' h' b, b = h.size → Stand p l e R s m args below meth c T' locs (cells + 1) (slots + n) → T'.heap = h' → Ext h h' → Exa Z h' b C → (∀ {O nm d : String} {ty : FieldType}, Laid Z a0 C O nm d → parseFieldDescriptor d = some ty → Fld Z h' b O nm d (defaultValue ty)) → Go p e below Fn Q T' (mkF m q Ls (.ref b :: S))) : Go p e below Fn Q T (mkF m pc Ls S) := by
  obtain ⟨T', h', X', e', E', A', D', -, st⟩ := newO X hx hZ hown w1 wi wz eT (g := mkF m pc Ls S) rfl hd hc hl
  subst hq; exact (k T' h' _ rfl X' e' E' A' D').st st
theorem g_initO (X : Stand p l e R s m args below meth c T locs cells slots) (hx : p.tables.exec = Jvm.exec) (q : Nat) (hZ : Z.Warmed39 s.vm) {own : String} {index : Nat} (hown : s.vm.findClass own = some m.cls) (w1 : (Jvm.Cond.methodLink own index Lib.objectInit).before a0 Z = true) (w2 : (Jvm.Cond.instanceMethod Lib.objectInit).before a0 Z = true) (w3 : (Jvm.Cond.code Lib.objectInit ⟨#[0xb1]⟩ 1 none).before a0 Z = true) (eT : T.heap = h) (hml : Ls.size = c.maxLocals) {a : Addr} (hd : decode c.code pc = .ok (.invokespecial index, 3)) (hf : 1 ≤ R.frames) (W : Nat) (hW : (S.map fun v => v.category).sum ≤ W) (hl : W + 12 ≤ R.locals) (hq : pc + 3 = q)
    (k : ∀ T', Stand p l e R s m args below meth c T' locs cells slots → T'.heap = h → Go p e below Fn Q T' (mkF m q Ls S)) : Go p e below Fn Q T (mkF m pc Ls (.ref a :: S)) := by
  obtain ⟨T', X', e', st⟩ := initO X hx hZ hown w1 w2 w3 eT (g := mkF m pc Ls (.ref a :: S)) rfl hml rfl hd hf (W := W) (by show 2 * 0 + _ ≤ _; omega) hl
  subst hq; exact (k T' X' e').st st
theorem g_newP (X : Stand p l e R s m args below meth c T locs cells slots) (hx : p.tables.exec = Jvm.exec) (q : Nat) (hZ : Z.Warmed39 s.vm) {aty : ArrayType} (w1 : (Jvm.Cond.arrayClass (newarray.typeOf aty)).before a0 Z = true) (eT : T.heap = h) {n : Int32} (hd : decode c.code pc = .ok (.newarray aty, 2)) (hn : ¬ n < 0) (cap : Nat) (hcap : n.toNatClampNeg ≤ cap) (hb : cap * 8 ≤ 536870912) (hc : cells + 1 ≤ R.cells) (hl : slots + cap ≤ R.slots) (hq : pc + 2 = q)
    (k : ∀ T' h' b kA, b = h.size → Stand p l e R s m args below meth c T' locs (cells + 1) (slots + cap) → T'.heap = h' → Ext h h' → Arv Z h' b kA (newarray.typeOf aty) n [] (defaultValue (newarray.typeOf aty)) → Go p e below Fn Q T' (mkF m q Ls (.ref b :: S))) : Go p e below Fn Q T (mkF m pc Ls (.int n :: S)) := by
  obtain ⟨T', h', cA, X', e', E', A', st⟩ := newP X hx hZ w1 eT (g := mkF m pc Ls (.int n :: S)) rfl hd rfl hn hcap hb hc hl
  subst hq; exact (k T' h' _ cA rfl X' e' E' (Arv.new A' hn)).st st
theorem g_newR (X : Stand p l e R s m args below meth c T locs cells slots) (hx : p.tables.exec = Jvm.exec) (q : Nat) (hZ : Z.Warmed39 s.vm) {own C : String} {index : Nat} (hown : s.vm.findClass own = some m.cls) (w1 : (Jvm.Cond.classLink own index C).before a0 Z = true) (w2 : (Jvm.Cond.arrayOver (.object C)).before a0 Z = true) (eT : T.heap = h) {n : Int32} (hd : decode c.code pc = .ok (.anewarray index, 3)) (hn : ¬ n < 0) (cap : Nat) (hcap : n.toNatClampNeg ≤ cap) (hb : cap * 8 ≤ 536870912) (hc : cells + 1 ≤ R.cells) (hl : slots + cap ≤ R.slots) (hq : pc + 3 = q)
    (k : ∀ T' h' b kA, b = h.size → Stand p l e R s m args below meth c T' locs (cells + 1) (slots + cap) → T'.heap = h' → Ext h h' → Arv Z h' b kA (.object C) n [] .null → Ovr Z kA C → Go p e below Fn Q T' (mkF m q Ls (.ref b :: S))) : Go p e below Fn Q T (mkF m pc Ls (.int n :: S)) := by
  obtain ⟨T', h', cA, X', e', E', A', O', st⟩ := newR X hx hZ hown w1 w2 eT (g := mkF m pc Ls (.int n :: S)) rfl hd rfl hn hcap hb hc hl
  subst hq; exact (k T' h' _ cA rfl X' e' E' (Arv.new A' hn) O').st st
theorem g_iaload (X : Stand p l e R s m args below meth c T locs cells slots) (hx : p.tables.exec = Jvm.exec) (q : Nat) (hZ : Z.Warmed39 s.vm) (eT : T.heap = h) {a : Addr} {kA : ClassId} {n j : Int32} {vs : List Value} {dv v : Value} (V : Arv Z h a kA .int n vs dv) (hj : ¬ j < 0 ∧ j < n) (hv : vs.getD j.toNatClampNeg dv = v) (hd : decode c.code pc = .ok (.iaload, 1)) (hq : pc + 1 = q) (k : Go p e below Fn Q T (mkF m q Ls (v :: S))) : Go p e below Fn Q T (mkF m pc Ls (.int j :: .ref a :: S)) := by
  obtain ⟨cl, A, -, S', -, H', -⟩ := V
  subst hq
  exact k.st fun _ z => X.iaload hx (by rw [eT]; exact A.1) (State.isArrayOf_alike hZ.alike A.2.1) A.2.2 (inb_of S' hj) (H'.at (inb_of S' hj) hv) (g := mkF m pc Ls (.int j :: .ref a :: S)) rfl rfl hd _ z
theorem g_caload (X : Stand p l e R s m args below meth c T locs cells slots) (hx : p.tables.exec = Jvm.exec) (q : Nat) (hZ : Z.Warmed39 s.vm) (eT : T.heap = h) {a : Addr} {kA : ClassId} {n j : Int32} {vs : List Value} {dv v : Value} (V : Arv Z h a kA .char n vs dv) (hj : ¬ j < 0 ∧ j < n) (hv : vs.getD j.toNatClampNeg dv = v) (hd : decode c.code pc = .ok (.caload, 1)) (hq : pc + 1 = q) (k : Go p e below Fn Q T (mkF m q Ls (v :: S))) : Go p e below Fn Q T (mkF m pc Ls (.int j :: .ref a :: S)) := by
  obtain ⟨cl, A, -, S', -, H', -⟩ := V
  subst hq
  exact k.st fun _ z => X.caload hx (by rw [eT]; exact A.1) (State.isArrayOf_alike hZ.alike A.2.1) A.2.2 (inb_of S' hj) (H'.at (inb_of S' hj) hv) (g := mkF m pc Ls (.int j :: .ref a :: S)) rfl rfl hd _ z
theorem g_laload (X : Stand p l e R s m args below meth c T locs cells slots) (hx : p.tables.exec = Jvm.exec) (q : Nat) (hZ : Z.Warmed39 s.vm) (eT : T.heap = h) {a : Addr} {kA : ClassId} {n j : Int32} {vs : List Value} {dv v : Value} (V : Arv Z h a kA .long n vs dv) (hj : ¬ j < 0 ∧ j < n) (hv : vs.getD j.toNatClampNeg dv = v) (hd : decode c.code pc = .ok (.laload, 1)) (hq : pc + 1 = q) (k : Go p e below Fn Q T (mkF m q Ls (v :: S))) : Go p e below Fn Q T (mkF m pc Ls (.int j :: .ref a :: S)) := by
  obtain ⟨cl, A, -, S', -, H', -⟩ := V
  subst hq
  exact k.st fun _ z => X.laload hx (by rw [eT]; exact A.1) (State.isArrayOf_alike hZ.alike A.2.1) A.2.2 (inb_of S' hj) (H'.at (inb_of S' hj) hv) (g := mkF m pc Ls (.int j :: .ref a :: S)) rfl rfl hd _ z
theorem g_baload (X : Stand p l e R s m args below meth c T locs cells slots) (hx : p.tables.exec = Jvm.exec) (q : Nat) (hZ : Z.Warmed39 s.vm) (eT : T.heap = h) {a : Addr} {kA : ClassId} {n j : Int32} {vs : List Value} {dv v : Value} (V : Arv Z h a kA .byte n vs dv) (hj : ¬ j < 0 ∧ j < n) (hv : vs.getD j.toNatClampNeg dv = v) (hd : decode c.code pc = .ok (.baload, 1)) (hq : pc + 1 = q) (k : Go p e below Fn Q T (mkF m q Ls (v :: S))) : Go p e below Fn Q T (mkF m pc Ls (.int j :: .ref a :: S)) := by
  obtain ⟨cl, A, -, S', -, H', -⟩ := V
  subst hq
  exact k.st fun _ z => X.baloadBytes hx (by rw [eT]; exact A.1) (State.isArrayOf_alike hZ.alike A.2.1) A.2.2 (inb_of S' hj) (H'.at (inb_of S' hj) hv) (g := mkF m pc Ls (.int j :: .ref a :: S)) rfl rfl hd _ z
theorem g_aaload (X : Stand p l e R s m args below meth c T locs cells slots) (hx : p.tables.exec = Jvm.exec) (q : Nat) (hZ : Z.Warmed39 s.vm) (eT : T.heap = h) {a : Addr} {kA : ClassId} {C : String} {n j : Int32} {vs : List Value} {dv v : Value} (V : Arv Z h a kA (.object C) n vs dv) (hj : ¬ j < 0 ∧ j < n) (hv : vs.getD j.toNatClampNeg dv = v) (hd : decode c.code pc = .ok (.aaload, 1)) (hq : pc + 1 = q) (k : Go p e below Fn Q T (mkF m q Ls (v :: S))) : Go p e below Fn Q T (mkF m pc Ls (.int j :: .ref a :: S)) := by
  obtain ⟨cl, A, -, S', -, H', -⟩ := V
  subst hq
  exact k.st fun _ z => X.aaload hx (by rw [eT]; exact A.1) (State.isArrayOf_alike hZ.alike A.2.1) rfl A.2.2 (inb_of S' hj) (H'.at (inb_of S' hj) hv) (g := mkF m pc Ls (.int j :: .ref a :: S)) rfl rfl hd _ z
theorem g_arraylength (X : Stand p l e R s m args below meth c T locs cells slots) (hx : p.tables.exec = Jvm.exec) (q : Nat) (hZ : Z.Warmed39 s.vm) (eT : T.heap = h) {a : Addr} {kA : ClassId} {ty : FieldType} {n : Int32} {vs : List Value} {dv : Value} (V : Arv Z h a kA ty n vs dv) (hd : decode c.code pc = .ok (.arraylength, 1)) (hq : pc + 1 = q) (k : Go p e below Fn Q T (mkF m q Ls (.int n :: S))) : Go p e below Fn Q T (mkF m pc Ls (.ref a :: S)) := by
  obtain ⟨cl, A, -, S', N', -, -⟩ := V
  subst hq
  exact k.st fun _ z => X.arraylength hx (by rw [eT]; exact A.1) (State.isArrayOf_alike hZ.alike A.2.1) (g := mkF m pc Ls (.ref a :: S)) rfl rfl hd _ (by rw [len_of S' N']; exact z)
theorem g_aastore (X : Stand p l e R s m args below meth c T locs cells slots) (hx : p.tables.exec = Jvm.exec) (q : Nat) (hZ : Z.Warmed39 s.vm) (eT : T.heap = h) {a b : Addr} {kA : ClassId} {C : String} {n j : Int32} {vs : List Value} {dv : Value} (V : Arv Z h a kA (.object C) n vs dv) (O : Ovr Z kA C) (I : Ins Z h b C true) (i : Nat) (hi : j.toNatClampNeg = i) (hj : ¬ j < 0 ∧ j < n) (hl : i < vs.length) (hd : decode c.code pc = .ok (.aastore, 1)) (hq : pc + 1 = q)
    (k : ∀ T' h', Stand p l e R s m args below meth c T' (locs ++ [⟨a, j.toNatClampNeg⟩]) cells slots → T'.heap = h' → Wr h h' a j.toNatClampNeg (.ref b) → Arv Z h' a kA (.object C) n (vs.set i (.ref b)) dv → Go p e below Fn Q T' (mkF m q Ls S)) : Go p e below Fn Q T (mkF m pc Ls (.ref b :: .int j :: .ref a :: S)) := by
  obtain ⟨cl, A, q1, S', N', H', G'⟩ := V
  subst hq
  obtain ⟨T', h', X', e', W', st⟩ := stR X hx hZ eT A (j := j) (inb_of S' hj) rfl (Sto.ofV A q1 O I) (g := mkF m pc Ls (.ref b :: .int j :: .ref a :: S)) rfl rfl hd
  exact (k T' h' X' e' W' (Arv.set A q1 S' N' H' G' rfl W' i hi hl)).st st
theorem g_iastore (X : Stand p l e R s m args below meth c T locs cells slots) (hx : p.tables.exec = Jvm.exec) (q : Nat) (hZ : Z.Warmed39 s.vm) (eT : T.heap = h) {a : Addr} {kA : ClassId} {n j x : Int32} {vs : List Value} {dv : Value} (V : Arv Z h a kA .int n vs dv) (i : Nat) (hi : j.toNatClampNeg = i) (hj : ¬ j < 0 ∧ j < n) (hl : i < vs.length) (hd : decode c.code pc = .ok (.iastore, 1)) (hq : pc + 1 = q)
    (k : ∀ T' h', Stand p l e R s m args below meth c T' (locs ++ [⟨a, j.toNatClampNeg⟩]) cells slots → T'.heap = h' → Wr h h' a j.toNatClampNeg (.int x) → Arv Z h' a kA .int n (vs.set i (.int x)) dv → Go p e below Fn Q T' (mkF m q Ls S)) : Go p e below Fn Q T (mkF m pc Ls (.int x :: .int j :: .ref a :: S)) := by
  obtain ⟨cl, A, q1, S', N', H', G'⟩ := V
  subst hq
  obtain ⟨T', h', X', e', W', st⟩ := stI X hx hZ eT A (j := j) (inb_of S' hj) (g := mkF m pc Ls (.int x :: .int j :: .ref a :: S)) rfl rfl hd
  exact (k T' h' X' e' W' (Arv.set A q1 S' N' H' G' rfl W' i hi hl)).st st
theorem g_castore (X : Stand p l e R s m args below meth c T locs cells slots) (hx : p.tables.exec = Jvm.exec) (q : Nat) (hZ : Z.Warmed39 s.vm) (eT : T.heap = h) {a : Addr} {kA : ClassId} {n j x : Int32} {vs : List Value} {dv : Value} (V : Arv Z h a kA .char n vs dv) (i : Nat) (hi : j.toNatClampNeg = i) (hj : ¬ j < 0 ∧ j < n) (hl : i < vs.length) (hd : decode c.code pc = .ok (.castore, 1)) (hq : pc + 1 = q)
    (k : ∀ T' h', Stand p l e R s m args below meth c T' (locs ++ [⟨a, j.toNatClampNeg⟩]) cells slots → T'.heap = h' → Wr h h' a j.toNatClampNeg (.int (nar .char x)) → Arv Z h' a kA .char n (vs.set i (.int (nar .char x))) dv → Go p e below Fn Q T' (mkF m q Ls S)) : Go p e below Fn Q T (mkF m pc Ls (.int x :: .int j :: .ref a :: S)) := by
  obtain ⟨cl, A, q1, S', N', H', G'⟩ := V
  subst hq
  obtain ⟨T', h', X', e', W', st⟩ := stC X hx hZ eT A (j := j) (inb_of S' hj) (g := mkF m pc Ls (.int x :: .int j :: .ref a :: S)) rfl rfl hd
  exact (k T' h' X' e' W' (Arv.set A q1 S' N' H' G' (fits_nar_char _) W' i hi hl)).st st
theorem g_bastore (X : Stand p l e R s m args below meth c T locs cells slots) (hx : p.tables.exec = Jvm.exec) (q : Nat) (hZ : Z.Warmed39 s.vm) (eT : T.heap = h) {a : Addr} {kA : ClassId} {n j x : Int32} {vs : List Value} {dv : Value} (V : Arv Z h a kA .byte n vs dv) (i : Nat) (hi : j.toNatClampNeg = i) (hj : ¬ j < 0 ∧ j < n) (hl : i < vs.length) (hd : decode c.code pc = .ok (.bastore, 1)) (hq : pc + 1 = q)
    (k : ∀ T' h', Stand p l e R s m args below meth c T' (locs ++ [⟨a, j.toNatClampNeg⟩]) cells slots → T'.heap = h' → Wr h h' a j.toNatClampNeg (.int (nar .byte x)) → Arv Z h' a kA .byte n (vs.set i (.int (nar .byte x))) dv → Go p e below Fn Q T' (mkF m q Ls S)) : Go p e below Fn Q T (mkF m pc Ls (.int x :: .int j :: .ref a :: S)) := by
  obtain ⟨cl, A, q1, S', N', H', G'⟩ := V
  subst hq
  obtain ⟨T', h', X', e', W', st⟩ := stB X hx hZ eT A (j := j) (inb_of S' hj) (g := mkF m pc Ls (.int x :: .int j :: .ref a :: S)) rfl rfl hd
  exact (k T' h' X' e' W' (Arv.set A q1 S' N' H' G' (fits_nar_byte _) W' i hi hl)).st st
theorem g_callS (X : Stand p l e R s m args below meth c T locs cells slots) (hx : p.tables.exec = Jvm.exec) (q : Nat) (hZ : Z.Warmed39 s.vm) {own : String} {index : Nat} {y : MethodName} {bytes : ByteArray} {maxL : Nat} {ret : Option FieldType} {rm : Room} {Qc : Option Value → Heap → List Loc → Prop} (hown : s.vm.findClass own = some m.cls) (w1 : (Jvm.Cond.methodLink own index y).before a0 Z = true) (w2 : (Jvm.Cond.static y).before a0 Z = true) (w3 : (Jvm.Cond.initialized y.cls).before a0 Z = true) (w4 : (Jvm.Cond.code y bytes maxL ret).before a0 Z = true) (hy : y.cls ≠ "java/lang/invoke/MethodHandle" ∧ y.cls ≠ "java/lang/invoke/VarHandle") (argsL rest : List Value) (hM : OwnMet l Z y bytes maxL ret [] rm argsL h Qc)
    (eT : T.heap = h) (W : Nat) (hf : rm.frames + 1 ≤ R.frames) (hl : W + (maxL + 11) + rm.locals ≤ R.locals) (hc : cells + rm.cells ≤ R.cells) (hs : slots + rm.slots ≤ R.slots) (hml : Ls.size = c.maxLocals) (hlen : ∀ sig, parseMethodDescriptor y.desc = some sig → argsL.length = sig.parameters.length) (hd : decode c.code pc = .ok (.invokestatic index, 3)) (hst : S = argsL.reverse ++ rest) (hW : (rest.map fun v => v.category).sum ≤ W) (hq : pc + 3 = q) (k : ∀ v T' L', Stand p l e R s m args below meth c T' (locs ++ L') (cells + rm.cells) (slots + rm.slots) → Qc v T'.heap L' → Go p e below Fn Q T' (mkF m q Ls (v.toList ++ rest))) : Go p e below Fn Q T (mkF m pc Ls S) := by
  subst hst
  obtain ⟨v, _, ⟨T', L', k', n'⟩, -, X', ⟨Lc, hQ, l', y', z'⟩, st⟩ := Jvm.LawKit.callS X hx (y := y) hown (mvT hZ w1) (mvT hZ w2) (mvT hZ w3) (mvT hZ w4) hy (backOf (W := W) hM hZ w4 w3 hf hl) (g := mkF m pc Ls (argsL.reverse ++ rest)) rfl hml (argsL := argsL) (rest := rest) hlen rfl (by show 2 * 0 + _ ≤ _; omega) hd (fun _ _ => ⟨rfl, eT, hc, hs⟩)
  dsimp only [Pt.U, Pt.locs, Pt.cells, Pt.slots] at X' l' y' z' st hQ
  subst l' y' z' hq
  exact (k v T' Lc X' hQ).st st
theorem g_callI (X : Stand p l e R s m args below meth c T locs cells slots) (hx : p.tables.exec = Jvm.exec) (q : Nat) (hZ : Z.Warmed39 s.vm) {own : String} {index : Nat} {y : MethodName} {bytes : ByteArray} {maxL : Nat} {rm : Room} {Qc : Option Value → Heap → List Loc → Prop} (hy1 : y.name = "<init>") (hown : s.vm.findClass own = some m.cls) (w1 : (Jvm.Cond.methodLink own index y).before a0 Z = true) (w2 : (Jvm.Cond.instanceMethod y).before a0 Z = true) (w3 : (Jvm.Cond.initialized y.cls).before a0 Z = true) (w4 : (Jvm.Cond.code y bytes maxL none).before a0 Z = true) (hy : y.cls ≠ "java/lang/invoke/MethodHandle" ∧ y.cls ≠ "java/lang/invoke/VarHandle") (a : Addr) (argsL rest : List Value) (hM : OwnMet l Z y bytes maxL none [] rm (.ref a :: argsL) h Qc)
    (eT : T.heap = h) (W : Nat) (hf : rm.frames + 1 ≤ R.frames) (hl : W + (maxL + 11) + rm.locals ≤ R.locals) (hc : cells + rm.cells ≤ R.cells) (hs : slots + rm.slots ≤ R.slots) (hml : Ls.size = c.maxLocals) (hlen : ∀ sig, parseMethodDescriptor y.desc = some sig → argsL.length = sig.parameters.length) (hd : decode c.code pc = .ok (.invokespecial index, 3)) (hst : S = argsL.reverse ++ .ref a :: rest) (hW : (rest.map fun v => v.category).sum ≤ W) (hq : pc + 3 = q) (k : ∀ v T' L', Stand p l e R s m args below meth c T' (locs ++ L') (cells + rm.cells) (slots + rm.slots) → Qc v T'.heap L' → Go p e below Fn Q T' (mkF m q Ls (v.toList ++ rest))) : Go p e below Fn Q T (mkF m pc Ls S) := by
  subst hst
  obtain ⟨v, _, ⟨T', L', k', n'⟩, -, X', ⟨Lc, hQ, l', y', z'⟩, st⟩ := X.specialBack hx (y := y) hy1 hown (mvT hZ w1) (mvT hZ w2) (mvT hZ w4) hy (backOf (W := W) hM hZ w4 w3 hf hl) (g := mkF m pc Ls (argsL.reverse ++ .ref a :: rest)) rfl hml (Steps.refl _) (a := a) (argsL := argsL) (rest := rest) hlen rfl (by show 2 * 0 + _ ≤ _; omega) hd (fun _ _ => ⟨rfl, eT, hc, hs⟩)
  dsimp only [Pt.U, Pt.locs, Pt.cells, Pt.slots] at X' l' y' z' st hQ
  subst l' y' z' hq
  exact (k v T' Lc X' hQ).st fun _ z => st.trans z
theorem g_callV (X : Stand p l e R s m args below meth c T locs cells slots) (hx : p.tables.exec = Jvm.exec) (q : Nat) (hZ : Z.Warmed39 s.vm) {own C : String} {index : Nat} {y : MethodName} {bytes : ByteArray} {maxL : Nat} {ret : Option FieldType} {rm : Room} {Qc : Option Value → Heap → List Loc → Prop} (hown : s.vm.findClass own = some m.cls) (w1 : (Jvm.Cond.methodLink own index y).before a0 Z = true) (w2 : (Jvm.Cond.declares y).before a0 Z = true) (w5 : (Jvm.Cond.selects C y y).before a0 Z = true) (w6 : (Jvm.Cond.instanceMethod y).before a0 Z = true) (w3 : (Jvm.Cond.initialized y.cls).before a0 Z = true) (w4 : (Jvm.Cond.code y bytes maxL ret).before a0 Z = true) (hy : y.cls ≠ "java/lang/invoke/MethodHandle" ∧ y.cls ≠ "java/lang/invoke/VarHandle") (a : Addr) (E : Exa Z h a C) (argsL rest : List Value) (hM : OwnMet l Z y bytes maxL ret [] rm (.ref a :: argsL) h Qc)
    (eT : T.heap = h) (W : Nat) (hf : rm.frames + 1 ≤ R.frames) (hl : W + (maxL + 11) + rm.locals ≤ R.locals) (hc : cells + rm.cells ≤ R.cells) (hs : slots + rm.slots ≤ R.slots) (hml : Ls.size = c.maxLocals) (hlen : ∀ sig, parseMethodDescriptor y.desc = some sig → argsL.length = sig.parameters.length) (hd : decode c.code pc = .ok (.invokevirtual index, 3)) (hst : S = argsL.reverse ++ .ref a :: rest) (hW : (rest.map fun v => v.category).sum ≤ W) (hq : pc + 3 = q) (k : ∀ v T' L', Stand p l e R s m args below meth c T' (locs ++ L') (cells + rm.cells) (slots + rm.slots) → Qc v T'.heap L' → Go p e below Fn Q T' (mkF m q Ls (v.toList ++ rest))) : Go p e below Fn Q T (mkF m pc Ls S) := by
  subst hst
  obtain ⟨cq, kq, qa, qb, qc⟩ := isOf (T := T) hZ eT E
  obtain ⟨v, _, ⟨T', L', k', n'⟩, -, X', ⟨Lc, hQ, l', y', z'⟩, st⟩ := X.virtualBack hx (y := y) (z := y) hown (mvT hZ w1) (mvT hZ w2) (notFace_of_selects (args := #[]) (mvT hZ w5)) (mvT hZ w5) (mvT hZ w6) hy (backOf (W := W) hM hZ w4 w3 hf hl) qa qc (g := mkF m pc Ls (argsL.reverse ++ .ref a :: rest)) rfl hml (Steps.refl _) (argsL := argsL) (rest := rest) hlen rfl (by show 2 * 0 + _ ≤ _; omega) hd (fun _ _ => ⟨rfl, eT, hc, hs⟩)
  dsimp only [Pt.U, Pt.locs, Pt.cells, Pt.slots] at X' l' y' z' st hQ
  subst l' y' z' hq
  exact (k v T' Lc X' hQ).st fun _ z => st.trans z
theorem g_newPE (X : Stand p l e R s m args below meth c T locs cells slots) (hx : p.tables.exec = Jvm.exec) (q : Nat) (hZ : Z.Warmed39 s.vm) {aty : ArrayType} (w1 : (Jvm.Cond.arrayClass (newarray.typeOf aty)).before a0 Z = true) (eT : T.heap = h) {n : Int32} (hd : decode c.code pc = .ok (.newarray aty, 2)) (hn : ¬ n < 0) (cap : Nat) (hcap : n.toNatClampNeg ≤ cap) (hb : cap * 8 ≤ 536870912) (hc : cells + 1 ≤ R.cells) (hl : slots + cap ≤ R.slots) (ad : String) (had : "[" ++ (newarray.typeOf aty).toString = ad) (hq : pc + 2 = q)
    (k : ∀ T' h' b kA, b = h.size → Stand p l e R s m args below meth c T' locs (cells + 1) (slots + cap) → T'.heap = h' → Ext h h' → Arv Z h' b kA (newarray.typeOf aty) n [] (defaultValue (newarray.typeOf aty)) → Exa Z h' b ad → Go p e below Fn Q T' (mkF m q Ls (.ref b :: S))) : Go p e below Fn Q T (mkF m pc Ls (.int n :: S)) := by
  obtain ⟨T', h', cA, X', e', E', A', I', st⟩ := newPE X hx hZ w1 eT (g := mkF m pc Ls (.int n :: S)) rfl hd rfl hn hcap hb hc hl had
  subst hq; exact (k T' h' _ cA rfl X' e' E' (Arv.new A' hn) I').st st
theorem g_clone (X : Stand p l e R s m args below meth c T locs cells slots) (hx : p.tables.exec = Jvm.exec) (q : Nat) (hZ : Z.Warmed39 s.vm) {own ad : String} {index : Nat} (hown : s.vm.findClass own = some m.cls) (w1 : (Jvm.Cond.methodLink own index ⟨ad, "clone", "()Ljava/lang/Object;"⟩).before a0 Z = true) (w2 : (Jvm.Cond.sameMethod ad "java/lang/Object" "clone" "()Ljava/lang/Object;").before a0 Z = true) (w3 : (Jvm.Cond.native ⟨"java/lang/Object", "clone", "()Ljava/lang/Object;"⟩).before a0 Z = true) (w4 : (Jvm.Cond.instanceMethod ⟨"java/lang/Object", "clone", "()Ljava/lang/Object;"⟩).before a0 Z = true) (w5 : (Jvm.Cond.selects ad ⟨ad, "clone", "()Ljava/lang/Object;"⟩ ⟨"java/lang/Object", "clone", "()Ljava/lang/Object;"⟩).before a0 Z = true) (w6 : (Jvm.Cond.castable ad "java/lang/Cloneable").before a0 Z = true)
    (eT : T.heap = h) {a : Addr} {kA : ClassId} {ty : FieldType} {n : Int32} {vs : List Value} {dv : Value} (V : Arv Z h a kA ty n vs dv) (E : Exa Z h a ad) (hml : Ls.size = c.maxLocals) (hd : decode c.code pc = .ok (.invokevirtual index, 3)) (hf : 1 ≤ R.frames) (W cap : Nat) (hW : (S.map fun v => v.category).sum ≤ W) (hl : W + 14 ≤ R.locals) (hcap : n.toNatClampNeg ≤ cap) (hc : cells + 1 ≤ R.cells) (hsl : slots + cap ≤ R.slots) (hq : pc + 3 = q)
    (k : ∀ T' h' b, b = h.size → Stand p l e R s m args below meth c T' locs (cells + 1) (slots + cap) → T'.heap = h' → Ext h h' → Arv Z h' b kA ty n vs dv → Exa Z h' b ad → Go p e below Fn Q T' (mkF m q Ls (.ref b :: S))) : Go p e below Fn Q T (mkF m pc Ls (.ref a :: S)) := by
  obtain ⟨T', h', X', e', E', V', I', st⟩ := cloneH X hx hZ hown w1 w2 w3 w4 w5 w6 eT V.arh E (g := mkF m pc Ls (.ref a :: S)) rfl hml rfl hd hf (W := W) (by show 2 * 0 + _ ≤ _; omega) hl hcap hc hsl
  subst hq; exact (k T' h' _ rfl X' e' E' V' I').st st
theorem g_cast (X : Stand p l e R s m args below meth c T locs cells slots) (hx : p.tables.exec = Jvm.exec) (q : Nat) (hZ : Z.Warmed39 s.vm) {own C : String} {index : Nat} (hown : s.vm.findClass own = some m.cls) (w1 : (Jvm.Cond.classLink own index C).before a0 Z = true) (eT : T.heap = h) {a : Addr} (I : Ins Z h a C true) (hd : decode c.code pc = .ok (.checkcast index, 3)) (hq : pc + 3 = q)
    (k : ∀ T', Stand p l e R s m args below meth c T' locs cells slots → T'.heap = h → Go p e below Fn Q T' (mkF m q Ls (.ref a :: S))) : Go p e below Fn Q T (mkF m pc Ls (.ref a :: S)) := by
  obtain ⟨T', X', e', st⟩ := castY X hx hZ hown w1 eT I (g := mkF m pc Ls (.ref a :: S)) rfl rfl hd
  subst hq; exact (k T' X' e').st st
theorem g_callU (X : Stand p l e R s m args below meth c T locs cells slots) (hx : p.tables.exec = Jvm.exec) (q : Nat) (hZ : Z.Warmed39 s.vm) {own C owner : String} {index : Nat} {x y : MethodName} {bytes : ByteArray} {maxL : Nat} {ret : Option FieldType} {rm : Room} {Qc : Option Value → Heap → List Loc → Prop} (hown : s.vm.findClass own = some m.cls) (w1 : (Jvm.Cond.methodLink own index x).before a0 Z = true) (w2 : (Jvm.Cond.sameMethod x.cls owner x.name x.desc).before a0 Z = true) (w7 : (Jvm.Cond.declares ⟨owner, x.name, x.desc⟩).before a0 Z = true) (hy : owner ≠ "java/lang/invoke/MethodHandle" ∧ owner ≠ "java/lang/invoke/VarHandle") (w5 : (Jvm.Cond.selects C x y).before a0 Z = true) (w6 : (Jvm.Cond.instanceMethod y).before a0 Z = true) (w3 : (Jvm.Cond.initialized y.cls).before a0 Z = true) (w4 : (Jvm.Cond.code y bytes maxL ret).before a0 Z = true) (a : Addr) (E : Exa Z h a C) (argsL rest : List Value) (hM : OwnMet l Z y bytes maxL ret [] rm (.ref a :: argsL) h Qc)
    (eT : T.heap = h) (W : Nat) (hf : rm.frames + 1 ≤ R.frames) (hl : W + (maxL + 11) + rm.locals ≤ R.locals) (hc : cells + rm.cells ≤ R.cells) (hs : slots + rm.slots ≤ R.slots) (hml : Ls.size = c.maxLocals) (hlen : ∀ sig, parseMethodDescriptor x.desc = some sig → argsL.length = sig.parameters.length) (hd : decode c.code pc = .ok (.invokevirtual index, 3)) (hst : S = argsL.reverse ++ .ref a :: rest) (hW : (rest.map fun v => v.category).sum ≤ W) (hq : pc + 3 = q) (k : ∀ v T' L', Stand p l e R s m args below meth c T' (locs ++ L') (cells + rm.cells) (slots + rm.slots) → Qc v T'.heap L' → Go p e below Fn Q T' (mkF m q Ls (v.toList ++ rest))) : Go p e below Fn Q T (mkF m pc Ls S) := by
  subst hst
  obtain ⟨cq, kq, qa, qb, qc⟩ := isOf (T := T) hZ eT E
  obtain ⟨v, _, ⟨T', L', k', n'⟩, -, X', ⟨Lc, hQ, l', y', z'⟩, st⟩ := X.virtualBackUp hx (x := x) (y := y) hown (mvT hZ w1) (mvT hZ w2) (mvT hZ w7) hy (mvT hZ w5) (mvT hZ w6) (backOf (W := W) hM hZ w4 w3 hf hl) qa qc (g := mkF m pc Ls (argsL.reverse ++ .ref a :: rest)) rfl hml (Steps.refl _) (argsL := argsL) (rest := rest) hlen rfl (by show 2 * 0 + _ ≤ _; omega) hd (fun _ _ => ⟨rfl, eT, hc, hs⟩)
  dsimp only [Pt.U, Pt.locs, Pt.cells, Pt.slots] at X' l' y' z' st hQ
  subst l' y' z' hq
  exact (k v T' Lc X' hQ).st fun _ z => st.trans z
theorem g_callP (X : Stand p l e R s m args below meth c T locs cells slots) (hx : p.tables.exec = Jvm.exec) (q : Nat) (hZ : Z.Warmed39 s.vm) {own C0 : String} {index : Nat} {y y0 : MethodName} {bytes : ByteArray} {maxL : Nat} {ret : Option FieldType} {rm : Room} {Qc : Option Value → Heap → List Loc → Prop} (hown : s.vm.findClass own = some m.cls) (w1 : (Jvm.Cond.methodLink own index y).before a0 Z = true) (w6 : (Jvm.Cond.instanceMethod y).before a0 Z = true) (w8 : (Jvm.Cond.privateMethod y).before a0 Z = true) (w5 : (Jvm.Cond.selects C0 y0 y0).before a0 Z = true) (hc0 : y0.cls = y.cls) (w3 : (Jvm.Cond.initialized y.cls).before a0 Z = true) (w4 : (Jvm.Cond.code y bytes maxL ret).before a0 Z = true) (hy : y.cls ≠ "java/lang/invoke/MethodHandle" ∧ y.cls ≠ "java/lang/invoke/VarHandle") {C : String} (a : Addr) (E : Exa Z h a C) (argsL rest : List Value) (hM : OwnMet l Z y bytes maxL ret [] rm (.ref a :: argsL) h Qc)
    (eT : T.heap = h) (W : Nat) (hf : rm.frames + 1 ≤ R.frames) (hl : W + (maxL + 11) + rm.locals ≤ R.locals) (hc : cells + rm.cells ≤ R.cells) (hs : slots + rm.slots ≤ R.slots) (hml : Ls.size = c.maxLocals) (hlen : ∀ sig, parseMethodDescriptor y.desc = some sig → argsL.length = sig.parameters.length) (hd : decode c.code pc = .ok (.invokevirtual index, 3)) (hst : S = argsL.reverse ++ .ref a :: rest) (hW : (rest.map fun v => v.category).sum ≤ W) (hq : pc + 3 = q) (k : ∀ v T' L', Stand p l e R s m args below meth c T' (locs ++ L') (cells + rm.cells) (slots + rm.slots) → Qc v T'.heap L' → Go p e below Fn Q T' (mkF m q Ls (v.toList ++ rest))) : Go p e below Fn Q T (mkF m pc Ls S) := by
  subst hst
  have hpriv : s.PrivateAt y := Cond.privateMethod_at (mvP hZ w8 (args := #[]))
  have hsel : (Jvm.Cond.selects y.cls y y).before args s = true := by
    obtain ⟨c2, r2, m2, -, -, q3, -, kP, hkP, hkPi⟩ := Cond.selects_spec (mvT hZ w5 : (Jvm.Cond.selects C0 y0 y0).before args s = true)
    exact selects_self_of_private (hc0 ▸ findClass_of_methodNamed q3) hkP hkPi hpriv (mvT hZ w6) hy
  obtain ⟨cq, qa, qb⟩ := E.cell
  obtain ⟨v, _, ⟨T', L', k', n'⟩, -, X', ⟨Lc, hQ, l', y', z'⟩, st⟩ := X.privateBack hx (y := y) hown (mvT hZ w1) (mvT hZ w6) hsel hpriv (mvT hZ w4) hy (backOf (W := W) hM hZ w4 w3 hf hl) (g := mkF m pc Ls (argsL.reverse ++ .ref a :: rest)) rfl hml (Steps.refl _) (a := a) (by rw [eT]; exact qa) qb (argsL := argsL) (rest := rest) hlen rfl (by show 2 * 0 + _ ≤ _; omega) hd (fun _ _ => ⟨rfl, eT, hc, hs⟩)
  dsimp only [Pt.U, Pt.locs, Pt.cells, Pt.slots] at X' l' y' z' st hQ
  subst l' y' z' hq
  exact (k v T' Lc X' hQ).st fun _ z => st.trans z
theorem own_sta_keep {h' : Heap} {C n d : String} {v : Value} (F : Sta Z h C n d v) (Kp : Keep h h' []) : Sta Z h' C n d v := by
  obtain ⟨cf, i, k, f, st, cell, h1, h2, h3, h4, h5, r⟩ := F
  exact ⟨cf, i, k, f, st, cell, h1, h2, h3, h4, Kp.2.1 _ _ h5 nin0, r⟩
theorem own_plain {C : String} {x : Addr} (F : Exa Z h x C) : ∃ cl : Cell, h[x]? = some cl ∧ cl.vm.isStatics = false := by
  obtain ⟨c, _, h1, -, -, h4, -⟩ := F; exact ⟨c, h1, h4⟩
theorem own_sta_keep' {h' : Heap} {C n d : String} {v : Value} {x : Addr} (F : Sta Z h C n d v) (Kp : Keep h h' [x]) (hp : ∃ cl : Cell, h[x]? = some cl ∧ cl.vm.isStatics = false) : Sta Z h' C n d v := by
  obtain ⟨cf, i, k, f, st, cell, h1, h2, h3, h4, h5, h6, r⟩ := F
  obtain ⟨cl, q1, q2⟩ := hp
  have ne : st ≠ x := fun q => by rw [q] at h5; rw [q1] at h5; cases h5; rw [q2] at h6; cases h6
  exact ⟨cf, i, k, f, st, cell, h1, h2, h3, h4, Kp.2.1 _ _ h5 (ninS ne nin0), h6, r⟩
end OwnKit
section OwnWide
variable {p : Program} {l : Launch} {e : Env} {R : Room} {s0 : State} {vm0 : Vm} {m : MethodId} {args : Array Value} {below : List Frame} {meth : Method} {c : Code} {T : State} {locs : List Loc} {cells slots : Nat} {Z : State} {a0 : Array Value} {h : Heap} {pc : Nat} {Ls : Array Slot} {S : List Value} {Q : Option Value → Heap → List Loc → Prop} {K J : Nat} {Fn : Outcome → State → List Loc → Prop}
/-- the contract of a body that may intern -/
def OwnMetW (l : Launch) (Z : State) (y : MethodName) (bytes : ByteArray) (maxL : Nat) (ret : Option FieldType) (ws : List Jvm.Cond) (rm : Room) (as' : List Value) (h0 : Heap) (Qc : Option Value → Heap → List Loc → Prop) : Prop :=
  MetFree l y (head1 (Jvm.Cond.code y bytes maxL ret :: ws) rm) (fun a U => a = as'.toArray ∧ Z.Warmed39 U.vm ∧ U.heap = h0) (fun _ _ _ _ _ => True) (fun _ U o U' => ∃ v L, o = .returned v ∧ Qc v U'.heap L ∧ ReturnedEndW U o U' L rm.cells rm.slots)
theorem own_bodyW {y : MethodName} {bytes : ByteArray} {maxL : Nat} {ret : Option FieldType} {ws : List Jvm.Cond} {rm : Room} {as' : List Value} {h0 : Heap} {Qc : Option Value → Heap → List Loc → Prop} {Ls : Array Slot} (hpl : plainFor y = true) (hef : ∀ m, entryFrame m as'.toArray maxL = mkF m 0 Ls [])
    (k : ∀ (p : Program) (e : Env) (s : State) (m : MethodId) (below : List Frame) (meth : Method) (c : Code) (T : State), p.tables.exec = Jvm.exec → c.code = bytes → c.maxLocals = maxL → s.vm.findClass y.cls = some m.cls → meth.name = y.name → meth.sig.returnType = ret → meth.locks = false → Z.Warmed39 s.vm → Stand p l e rm s m as'.toArray below meth c T [] 0 0 → T.heap = h0 → Go p e below (fun o t L => ReturnedEndW s o t L rm.cells rm.slots) Qc T (mkF m 0 Ls [])) : OwnMetW l Z y bytes maxL ret ws rm as' h0 Qc := by
  refine MetFree.of_bodySF hpl hisR ?_
  intro p e s m args below meth c s₁ Bd hml0 hP hK
  obtain ⟨rfl, hZ, hh⟩ := hP
  have e0 : s₁.heap = h0 := by rw [← hh, Bd.state]; rfl
  have g := k p e s m below meth c s₁ Bd.exec Bd.bytes hml0 (findClass_of_methodNamed Bd.named) (name_of_methodNamed Bd.named Bd.method).1 Bd.returns (BodyLoose.notSynchronized Bd) hZ (Stand.of_body Bd) e0
  rw [hef]
  exact g
theorem own_endW {s t : State} {o : Outcome} {L : List Loc} {k n k' n' : Nat} (q : ReturnedEndW s o t L k n) (hk : k ≤ k') (hn : n ≤ n') : ReturnedEndW s o t L k' n' := ⟨q.1, q.2.1, q.2.2.1, q.2.2.2.mono hk hn⟩
theorem g_retW (X : Stand p l e R (s0.setVm vm0) m args below meth c T locs cells slots) (hx : p.tables.exec = Jvm.exec) {t : FieldType} {i : Instr} {w : Value} (hret : meth.sig.returnType = some t) (hlk : meth.locks = false) (hn : narrow t w = w) (hi : (i = .ireturn ∧ (t = .int ∨ t = .boolean ∨ t = .byte ∨ t = .char ∨ t = .short) ∧ ∃ z, w = .int z) ∨ (i = .lreturn ∧ t = .long ∧ ∃ z, w = .long z) ∨ (i = .dreturn ∧ t = .double ∧ ∃ z, w = .double z) ∨ (i = .freturn ∧ t = .float ∧ ∃ z, w = .float z) ∨ (i = .areturn ∧ t.isReference = true ∧ w.isRef = true)) (hd : decode c.code pc = .ok (i, 1)) {n : Nat} (hS : s0.Since vm0 n) (hk : n ≤ T.heap.size) (hc : cells ≤ K) (hs : slots ≤ J) (hq : Q (some w) T.heap locs) : Go p e below (fun o t L => ReturnedEndW s0 o t L K J) Q T (mkF m pc Ls (w :: S)) := by
  obtain ⟨fs, hr, hrun, hended, hE⟩ := X.leaveW hS hk (v := some w) (fun h => by rw [hret] at h; cases h) hlk
  exact ⟨_, _, retOut X hx hret hn hi hd hr, hrun, hended, _, _, rfl, hq, own_endW hE hc hs⟩
theorem g_retZW (X : Stand p l e R (s0.setVm vm0) m args below meth c T locs cells slots) (hx : p.tables.exec = Jvm.exec) {z : Int32} (hret : meth.sig.returnType = some .boolean) (hlk : meth.locks = false) (hn : narrow .boolean (.int z) = .int z) (hd : decode c.code pc = .ok (.ireturn, 1)) {n : Nat} (hS : s0.Since vm0 n) (hk : n ≤ T.heap.size) (hc : cells ≤ K) (hs : slots ≤ J) (hq : Q (some (.int z)) T.heap locs) : Go p e below (fun o t L => ReturnedEndW s0 o t L K J) Q T (mkF m pc Ls (.int z :: S)) := g_retW X hx hret hlk hn (Or.inl ⟨rfl, Or.inr (Or.inl rfl), _, rfl⟩) hd hS hk hc hs hq
theorem g_retAW (X : Stand p l e R (s0.setVm vm0) m args below meth c T locs cells slots) (hx : p.tables.exec = Jvm.exec) {t : FieldType} {w : Value} (hret : meth.sig.returnType = some t) (hlk : meth.locks = false) (hr : t.isReference = true) (hw : w.isRef = true) (hn : narrow t w = w) (hd : decode c.code pc = .ok (.areturn, 1)) {n : Nat} (hS : s0.Since vm0 n) (hk : n ≤ T.heap.size) (hc : cells ≤ K) (hs : slots ≤ J) (hq : Q (some w) T.heap locs) : Go p e below (fun o t L => ReturnedEndW s0 o t L K J) Q T (mkF m pc Ls (w :: S)) := g_retW X hx hret hlk hn (Or.inr (Or.inr (Or.inr (Or.inr ⟨rfl, hr, hw⟩)))) hd hS hk hc hs hq
theorem g_retVW (X : Stand p l e R (s0.setVm vm0) m args below meth c T locs cells slots) (hx : p.tables.exec = Jvm.exec) (hret : meth.sig.returnType = none) (hlk : meth.locks = false) (hd : decode c.code pc = .ok (.return_, 1)) {n : Nat} (hS : s0.Since vm0 n) (hk : n ≤ T.heap.size) (hc : cells ≤ K) (hs : slots ≤ J) (hq : Q none T.heap locs) : Go p e below (fun o t L => ReturnedEndW s0 o t L K J) Q T (mkF m pc Ls []) := by
  obtain ⟨fs, hr, hrun, hended, hE⟩ := X.leaveW hS hk (v := none) (fun _ => rfl) hlk
  exact ⟨_, _, X.returnOut hx hret hd hr, hrun, hended, _, _, rfl, hq, own_endW hE hc hs⟩
theorem g_ldcS (X : Stand p l e R (s0.setVm vm0) m args below meth c T locs cells slots) (hx : p.tables.exec = Jvm.exec) (q : Nat) (hZ : Z.Warmed39 (s0.setVm vm0).vm) {own text : String} {index : Nat} (hown : (s0.setVm vm0).vm.findClass own = some m.cls) (w1 : (Jvm.Cond.stringLink own index text).before a0 Z = true) (wS : ∀ a ∈ Bundle.stringAtoms, a.before a0 Z = true) (eT : T.heap = h) {k0 : Nat} (hS : s0.Since vm0 k0) (hk : k0 ≤ h.size) (hd : decode c.code pc = .ok (.ldc index, 2)) (n : Nat) (hn : 4 * text.toList.length ≤ n) (hbig : n ≤ 536870912) (hc : cells + 2 ≤ R.cells) (hl : slots + (n + 4) ≤ R.slots) (hq : pc + 2 = q)
    (k : ∀ a T' h' k1, Stand p l e R (s0.setVm T'.vm) m args below meth c T' locs (cells + 2) (slots + (n + 4)) → T'.heap = h' → Ext h h' → s0.Since T'.vm k1 → k1 ≤ h'.size → Z.Warmed39 (s0.setVm T'.vm).vm → (s0.setVm T'.vm).vm.findClass own = some m.cls → Go p e below Fn Q T' (mkF m q Ls (.ref a :: S))) : Go p e below Fn Q T (mkF m pc Ls S) := by
  obtain ⟨a, T', h', k1, X', e', E', S', K', Z', O', st⟩ := ldcS X hx hZ hown w1 wS eT hS hk (g := mkF m pc Ls S) rfl hd hn hbig hc hl
  subst hq; exact (k a T' h' k1 X' e' E' S' K' Z' O').st st
theorem g_callIW (X : Stand p l e R (s0.setVm vm0) m args below meth c T locs cells slots) (hx : p.tables.exec = Jvm.exec) (q : Nat) (hZ : Z.Warmed39 (s0.setVm vm0).vm) {own : String} {index : Nat} {y : MethodName} {bytes : ByteArray} {maxL : Nat} {rm : Room} {Qc : Option Value → Heap → List Loc → Prop} (hy1 : y.name = "<init>") (hown : (s0.setVm vm0).vm.findClass own = some m.cls) (w1 : (Jvm.Cond.methodLink own index y).before a0 Z = true) (w2 : (Jvm.Cond.instanceMethod y).before a0 Z = true) (w3 : (Jvm.Cond.initialized y.cls).before a0 Z = true) (w4 : (Jvm.Cond.code y bytes maxL none).before a0 Z = true) (hy : y.cls ≠ "java/lang/invoke/MethodHandle" ∧ y.cls ≠ "java/lang/invoke/VarHandle") (a : Addr) (argsL rest : List Value) (hM : OwnMetW l Z y bytes maxL none [] rm (.ref a :: argsL) h Qc)
    (eT : T.heap = h) (W : Nat) (hf : rm.frames + 1 ≤ R.frames) (hl : W + (maxL + 11) + rm.locals ≤ R.locals) (hc : cells + rm.cells ≤ R.cells) (hs : slots + rm.slots ≤ R.slots) (hml : Ls.size = c.maxLocals) (hlen : ∀ sig, parseMethodDescriptor y.desc = some sig → argsL.length = sig.parameters.length) (hd : decode c.code pc = .ok (.invokespecial index, 3)) (hst : S = argsL.reverse ++ .ref a :: rest) {k0 : Nat} (hS : s0.Since vm0 k0) (hk : k0 ≤ h.size) (hW : (rest.map fun v => v.category).sum ≤ W) (hq : pc + 3 = q)
    (k : ∀ v T' L', Stand p l e R (s0.setVm T'.vm) m args below meth c T' (locs ++ L') (cells + rm.cells) (slots + rm.slots) → s0.Since T'.vm T'.heap.size → Z.Warmed39 (s0.setVm T'.vm).vm → (s0.setVm T'.vm).vm.findClass own = some m.cls → Qc v T'.heap L' → Go p e below Fn Q T' (mkF m q Ls (v.toList ++ rest))) : Go p e below Fn Q T (mkF m pc Ls S) := by
  subst hst
  obtain ⟨v, _, ⟨T', L', k', n'⟩, -, X', S', gr, ⟨Lc, hQ, l', y', z'⟩, st⟩ := X.specialBackS hx (y := y) hy1 hown (mvT hZ w1) (mvT hZ w2) (mvT hZ w4) hy (backOfS (W := W) hM hZ w4 w3 hf hl) (g := mkF m pc Ls (argsL.reverse ++ .ref a :: rest)) rfl hml (Steps.refl _) (a := a) (argsL := argsL) (rest := rest) hlen rfl (by show 2 * 0 + _ ≤ _; omega) hd (fun _ _ => ⟨rfl, eT, hc, hs⟩)
  dsimp only [Pt.U, Pt.locs, Pt.cells, Pt.slots] at X' S' gr l' y' z' st hQ
  subst l' y' z' hq
  obtain ⟨X2, S2, Z2, O2⟩ := rebS hS (show k0 ≤ T.heap.size by rw [eT]; exact hk) X' S' gr hZ hown
  exact (k v T' Lc X2 S2 Z2 O2 hQ).st fun _ z => st.trans z
end OwnWide
section OwnM3
variable {p : Program} {l : Launch} {e : Env} {R : Room} {s s0 : State} {vm0 : Vm} {m : MethodId} {args : Array Value} {below : List Frame} {meth : Method} {c : Code} {T : State} {locs : List Loc} {cells slots : Nat} {Z : State} {a0 : Array Value} {h : Heap} {pc : Nat} {Ls : Array Slot} {S : List Value} {Q : Option Value → Heap → List Loc → Prop} {K J : Nat} {Fn : Outcome → State → List Loc → Prop}
theorem g_inst (X : Stand p l e R s m args below meth c T locs cells slots) (hx : p.tables.exec = Jvm.exec) (q : Nat) (hZ : Z.Warmed39 s.vm) {own C : String} {index : Nat} (hown : s.vm.findClass own = some m.cls) (w1 : (Jvm.Cond.classLink own index C).before a0 Z = true) (eT : T.heap = h) {a : Addr} (I : Ins Z h a C true) (hd : decode c.code pc = .ok (.instanceof index, 3)) (hq : pc + 3 = q)
    (k : ∀ T', Stand p l e R s m args below meth c T' locs cells slots → T'.heap = h → Go p e below Fn Q T' (mkF m q Ls (.int 1 :: S))) : Go p e below Fn Q T (mkF m pc Ls (.ref a :: S)) := by
  obtain ⟨T', X', e', st⟩ := instY X hx hZ hown w1 eT I (g := mkF m pc Ls (.ref a :: S)) rfl rfl hd
  subst hq; exact (k T' X' e').st st
/-- the contract of a body that may intern, where nothing has been interned yet -/
def OwnMetI (l : Launch) (Z : State) (y : MethodName) (bytes : ByteArray) (maxL : Nat) (ret : Option FieldType) (ws : List Jvm.Cond) (rm : Room) (as' : List Value) (h0 : Heap) (Qc : Option Value → Heap → List Loc → Prop) : Prop :=
  MetFree l y (head1 (Jvm.Cond.code y bytes maxL ret :: ws) rm) (fun a U => a = as'.toArray ∧ Z.Warmed39 U.vm ∧ U.heap = h0 ∧ U.vm.interned = Z.vm.interned) (fun _ _ _ _ _ => True) (fun _ U o U' => ∃ v L, o = .returned v ∧ Qc v U'.heap L ∧ ReturnedEndW U o U' L rm.cells rm.slots)
theorem own_bodyI {y : MethodName} {bytes : ByteArray} {maxL : Nat} {ret : Option FieldType} {ws : List Jvm.Cond} {rm : Room} {as' : List Value} {h0 : Heap} {Qc : Option Value → Heap → List Loc → Prop} {Ls : Array Slot} (hpl : plainFor y = true) (hef : ∀ m, entryFrame m as'.toArray maxL = mkF m 0 Ls [])
    (k : ∀ (p : Program) (e : Env) (s : State) (m : MethodId) (below : List Frame) (meth : Method) (c : Code) (T : State), p.tables.exec = Jvm.exec → c.code = bytes → c.maxLocals = maxL → s.vm.findClass y.cls = some m.cls → meth.name = y.name → meth.sig.returnType = ret → meth.locks = false → Z.Warmed39 s.vm → Stand p l e rm s m as'.toArray below meth c T [] 0 0 → T.heap = h0 → s.heap = h0 → s.vm.interned = Z.vm.interned → Go p e below (fun o t L => ReturnedEndW s o t L rm.cells rm.slots) Qc T (mkF m 0 Ls [])) : OwnMetI l Z y bytes maxL ret ws rm as' h0 Qc := by
  refine MetFree.of_bodySF hpl hisR ?_
  intro p e s m args below meth c s₁ Bd hml0 hP hK
  obtain ⟨rfl, hZ, hh, hI⟩ := hP
  have e0 : s₁.heap = h0 := by rw [← hh, Bd.state]; rfl
  have g := k p e s m below meth c s₁ Bd.exec Bd.bytes hml0 (findClass_of_methodNamed Bd.named) (name_of_methodNamed Bd.named Bd.method).1 Bd.returns (BodyLoose.notSynchronized Bd) hZ (Stand.of_body Bd) e0 hh hI
  rw [hef]
  exact g
theorem own_backI {y : MethodName} {bytes : ByteArray} {maxL : Nat} {ret : Option FieldType} {rm : Room} {len W : Nat} {as' : List Value} {Qc : Option Value → Heap → List Loc → Prop} (hM : OwnMetI l Z y bytes maxL ret [] rm as' h Qc) (hI : s.vm.interned = Z.vm.interned)
    (hZ : Z.Warmed39 s.vm) (wc : (Jvm.Cond.code y bytes maxL ret).before a0 Z = true) (wz : (Jvm.Cond.initialized y.cls).before a0 Z = true) (hf : rm.frames + 1 ≤ R.frames) (hl : W + (maxL + 11) + rm.locals ≤ R.locals) :
    BackS l R p e below s args y len W (fun A a => a = as'.toArray ∧ A.U.heap = h ∧ A.cells + rm.cells ≤ R.cells ∧ A.slots + rm.slots ≤ R.slots)
      (fun A _ v B => ∃ L, Qc v B.U.heap L ∧ B.locs = A.locs ++ L ∧ B.cells = A.cells + rm.cells ∧ B.slots = A.slots + rm.slots) :=
  BackS.of_freeW (bytes := bytes) (maxL := maxL) (ret := ret) (E := fun _ _ o t L k n => k = rm.cells ∧ n = rm.slots ∧ ∃ v, o = .returned v ∧ Qc v t.heap L) hM hf hl
    (fun m meth c A a Y hp => have hU : Z.Warmed39 A.U.vm := wtrans hZ Y.warmed
      ⟨by show (Jvm.Cond.and _ .tt).before a A.U = true; rw [Cond.before_and, mv hU wc]; rfl, mv hU wc, mv hU wz, hp.2.2.1, hp.2.2.2⟩)
    (fun m meth c A a g mk Y hp => ⟨hp.1, wtrans hZ Y.warmed, hp.2.1, Y.warmed.interned_eq.trans hI⟩) (fun _ _ _ _ _ _ _ _ _ => trivial)
    (fun _ _ _ _ ⟨v, L, h1, h2, h3⟩ => ⟨L, _, _, h3, rfl, rfl, v, h1, h2⟩)
    (fun m meth c A a g mk v t L k n Y hp _ _ ⟨e1, e2, v', e3, e4⟩ => by cases e3; subst e1 e2; exact ⟨L, e4, rfl, rfl, rfl⟩)
theorem g_callSW (X : Stand p l e R (s0.setVm vm0) m args below meth c T locs cells slots) (hx : p.tables.exec = Jvm.exec) (q : Nat) (hZ : Z.Warmed39 (s0.setVm vm0).vm) (hI : (s0.setVm vm0).vm.interned = Z.vm.interned) {own : String} {index : Nat} {y : MethodName} {bytes : ByteArray} {maxL : Nat} {ret : Option FieldType} {rm : Room} {Qc : Option Value → Heap → List Loc → Prop} (hown : (s0.setVm vm0).vm.findClass own = some m.cls) (w1 : (Jvm.Cond.methodLink own index y).before a0 Z = true) (w2 : (Jvm.Cond.static y).before a0 Z = true) (w3 : (Jvm.Cond.initialized y.cls).before a0 Z = true) (w4 : (Jvm.Cond.code y bytes maxL ret).before a0 Z = true) (hy : y.cls ≠ "java/lang/invoke/MethodHandle" ∧ y.cls ≠ "java/lang/invoke/VarHandle") (argsL rest : List Value) (hM : OwnMetI l Z y bytes maxL ret [] rm argsL h Qc)
    (eT : T.heap = h) (W : Nat) (hf : rm.frames + 1 ≤ R.frames) (hl : W + (maxL + 11) + rm.locals ≤ R.locals) (hc : cells + rm.cells ≤ R.cells) (hs : slots + rm.slots ≤ R.slots) (hml : Ls.size = c.maxLocals) (hlen : ∀ sig, parseMethodDescriptor y.desc = some sig → argsL.length = sig.parameters.length) (hd : decode c.code pc = .ok (.invokestatic index, 3)) (hst : S = argsL.reverse ++ rest) {k0 : Nat} (hS : s0.Since vm0 k0) (hk : k0 ≤ h.size) (hW : (rest.map fun v => v.category).sum ≤ W) (hq : pc + 3 = q)
    (k : ∀ v T' L', Stand p l e R (s0.setVm T'.vm) m args below meth c T' (locs ++ L') (cells + rm.cells) (slots + rm.slots) → s0.Since T'.vm T'.heap.size → Z.Warmed39 (s0.setVm T'.vm).vm → (s0.setVm T'.vm).vm.findClass own = some m.cls → Qc v T'.heap L' → Go p e below Fn Q T' (mkF m q Ls (v.toList ++ rest))) : Go p e below Fn Q T (mkF m pc Ls S) := by
  subst hst
  obtain ⟨v, _, ⟨T', L', k', n'⟩, -, X', S', gr, ⟨Lc, hQ, l', y', z'⟩, st⟩ := callSS X hx (y := y) hown (mvT hZ w1) (mvT hZ w2) (mvT hZ w3) (mvT hZ w4) hy (own_backI (W := W) hM hI hZ w4 w3 hf hl) (g := mkF m pc Ls (argsL.reverse ++ rest)) rfl hml (argsL := argsL) (rest := rest) hlen rfl (by show 2 * 0 + _ ≤ _; omega) hd (fun _ _ => ⟨rfl, eT, hc, hs⟩)
  dsimp only [Pt.U, Pt.locs, Pt.cells, Pt.slots] at X' S' gr l' y' z' st hQ
  subst l' y' z' hq
  obtain ⟨X2, S2, Z2, O2⟩ := rebS hS (show k0 ≤ T.heap.size by rw [eT]; exact hk) X' S' gr hZ hown
  exact (k v T' Lc X2 S2 Z2 O2 hQ).st fun _ z => st.trans z
theorem g_ldcV (X : Stand p l e R (s0.setVm vm0) m args below meth c T locs cells slots) (hx : p.tables.exec = Jvm.exec) (q : Nat) (hZ : Z.Warmed39 (s0.setVm vm0).vm) {own text : String} {index : Nat} (hown : (s0.setVm vm0).vm.findClass own = some m.cls) (w1 : (Jvm.Cond.stringLink own index text).before a0 Z = true) (wS : ∀ a ∈ Bundle.stringAtoms, a.before a0 Z = true) (eT : T.heap = h) {k0 : Nat} (hS : s0.Since vm0 k0) (hk : k0 ≤ h.size) (N : Fr s0.heap.size locs) (hkeep : ∀ (b : Addr) (cl : Cell), Z.heap[b]? = some cl → s0.heap[b]? = some cl) (hI : (s0.setVm vm0).vm.interned = Z.vm.interned) (hh : Jvm.Lit.constHeld Z own index) (hcw : Jvm.Lit.compactW.before a0 Z = true) (vs : List Value) (z : Int32) (ht : (∀ c ∈ text.toList, c.toNat < 256) ∧ text.toList.map (fun c => Value.int (Jvm.Lit.byteI c.toNat.toUInt16)) = vs) (hz : ¬ z < 0) (hl : z.toNatClampNeg = vs.length) (hd : decode c.code pc = .ok (.ldc index, 2)) (n : Nat) (hn : 4 * text.toList.length ≤ n) (hbig : n ≤ 536870912) (hc : cells + 2 ≤ R.cells) (hl' : slots + (n + 4) ≤ R.slots) (hq : pc + 2 = q)
    (k : ∀ a T' h' k1 b kb, Stand p l e R (s0.setVm T'.vm) m args below meth c T' locs (cells + 2) (slots + (n + 4)) → T'.heap = h' → Ext h h' → s0.Since T'.vm k1 → k1 ≤ h'.size → Z.Warmed39 (s0.setVm T'.vm).vm → (s0.setVm T'.vm).vm.findClass own = some m.cls → Exa Z h' a "java/lang/String" → Fld Z h' a "java/lang/String" "coder" "B" (.int 0) → Fld Z h' a "java/lang/String" "value" "[B" (.ref b) → Arv Z h' b kb .byte z vs (.int 0) → Go p e below Fn Q T' (mkF m q Ls (.ref a :: S))) : Go p e below Fn Q T (mkF m pc Ls S) := by
  obtain ⟨a, T', h', k1, b, kb, X', e', E', S', K', Z', O', r1, r2, r3, r4, -, -, -, st⟩ := ldcSV X hx hZ hown w1 wS eT hS hk N hkeep (show IB Z vm0 [] from ⟨#[], by simpa using hI, fun q hq => by simp at hq⟩) (by simp) hh hcw ht hz hl (g := mkF m pc Ls S) rfl hd hn hbig hc hl'
  subst hq; exact (k a T' h' k1 b kb X' e' E' S' K' Z' O' r1 r2 r3 r4).st st
end OwnM3
theorem own_nn (a : Int32) : ¬ (a &&& (2147483647 : Int32)) < 0 := by
  rw [Int32.lt_iff_toInt_lt]
  show ¬ (a &&& 2147483647).toBitVec.toInt < 0
  rw [Int32.toBitVec_and, BitVec.toInt_neg_iff]
  rw [Nat.not_le, BitVec.toNat_and]
  have : a.toBitVec.toNat &&& (2147483647 : Int32).toBitVec.toNat ≤ (2147483647 : Int32).toBitVec.toNat := Nat.and_le_right
  have e : (2147483647 : Int32).toBitVec.toNat = 2147483647 := by decide
  omega
theorem own_nnL (a : Int64) : ¬ (a &&& (9223372036854775807 : Int64)) < 0 := by
  rw [Int64.lt_iff_toInt_lt]
  show ¬ (a &&& 9223372036854775807).toBitVec.toInt < 0
  rw [Int64.toBitVec_and, BitVec.toInt_neg_iff]
  rw [Nat.not_le, BitVec.toNat_and]
  have : a.toBitVec.toNat &&& (9223372036854775807 : Int64).toBitVec.toNat ≤ (9223372036854775807 : Int64).toBitVec.toNat := Nat.and_le_right
  have e : (9223372036854775807 : Int64).toBitVec.toNat = 9223372036854775807 := by decide
  omega
theorem own_modb (a n : Int32) (ha : ¬ a < 0) (hn : 0 < n) : ¬ a % n < 0 ∧ a % n < n := by
  rw [Int32.lt_iff_toInt_lt] at *
  rw [Int32.lt_iff_toInt_lt] at *
  rw [Int32.toInt_mod]
  have z : (0 : Int32).toInt = 0 := rfl
  rw [z] at *
  have h1 := Int.tmod_nonneg n.toInt (Int.not_lt.mp ha)
  have h2 := Int.tmod_lt_of_pos a.toInt hn
  omega
theorem own_nar2 (x : Int32) : nar .char (nar .char x) = nar .char x := Value.int.inj (Jvm.Free.XT.narrow_c x)
def own_isw (v0 v1 v2 v3 v4 v5 v6 v7 v8 v9 v10 : Int32) : Int32 := if v0 = 105 then if v1 = 115 then if v2 = 69 then if v3 = 120 then if v4 = 104 then if v5 = 97 then if v6 = 117 then if v7 = 115 then if v8 = 116 then if v9 = 101 then if v10 = 100 then 1 else 0 else 0 else 0 else 0 else 0 else 0 else 0 else 0 else 0 else 0 else 0
theorem own_isw01 (v0 v1 v2 v3 v4 v5 v6 v7 v8 v9 v10 : Int32) : own_isw v0 v1 v2 v3 v4 v5 v6 v7 v8 v9 v10 = 1 ∨ own_isw v0 v1 v2 v3 v4 v5 v6 v7 v8 v9 v10 = 0 := by
  unfold own_isw; (repeat' split) <;> simp
theorem own_isw_nz {v0 v1 v2 v3 v4 v5 v6 v7 v8 v9 v10 : Int32} (h : ¬ own_isw v0 v1 v2 v3 v4 v5 v6 v7 v8 v9 v10 = 0) : own_isw v0 v1 v2 v3 v4 v5 v6 v7 v8 v9 v10 = 1 := (own_isw01 ..).resolve_right h
theorem own_isw0 (v0 v1 v2 v3 v4 v5 v6 v7 v8 v9 v10 : Int32) (h : ¬ (v0 = 105 ∧ v1 = 115 ∧ v2 = 69 ∧ v3 = 120 ∧ v4 = 104 ∧ v5 = 97 ∧ v6 = 117 ∧ v7 = 115 ∧ v8 = 116 ∧ v9 = 101 ∧ v10 = 100)) : own_isw v0 v1 v2 v3 v4 v5 v6 v7 v8 v9 v10 = 0 := by
  unfold own_isw; (repeat' split) <;> first | rfl | (exfalso; apply h; refine ⟨?_, ?_, ?_, ?_, ?_, ?_, ?_, ?_, ?_, ?_, ?_⟩ <;> assumption)
theorem own_isw1 (v0 v1 v2 v3 v4 v5 v6 v7 v8 v9 v10 : Int32) (h : own_isw v0 v1 v2 v3 v4 v5 v6 v7 v8 v9 v10 = 1) : v0 = 105 ∧ v1 = 115 ∧ v2 = 69 ∧ v3 = 120 ∧ v4 = 104 ∧ v5 = 97 ∧ v6 = 117 ∧ v7 = 115 ∧ v8 = 116 ∧ v9 = 101 ∧ v10 = 100 := by
  apply Classical.byContradiction; intro q; rw [own_isw0 _ _ _ _ _ _ _ _ _ _ _ q] at h; exact absurd h (by decide)
abbrev own_bt (c : Int32) : Int32 := nar .byte (c.toInt8.toInt32)
theorem own_c_nn {c : Int32} (n : nar .char c = c) : 0 ≤ c.toInt := by
  have : c.toInt = (c.toUInt32.toUInt16).toNat := by
    rw [← n]
    show ((c.toUInt32.toUInt16.toUInt32.toInt32)).toInt = _
    have h : ∀ u : UInt16, (u.toUInt32.toInt32).toInt = u.toNat := fun u => by
      show (u.toUInt32.toInt32).toBitVec.toInt = _
      have := u.toNat_lt
      rw [BitVec.toInt_eq_toNat_cond, if_pos (by show 2 * u.toUInt32.toNat < _; rw [UInt16.toNat_toUInt32]; omega)]
      show ((u.toUInt32.toNat : Nat) : Int) = _
      rw [UInt16.toNat_toUInt32]
    rw [h]
    rw [show nar .char c = c from n]
  omega
theorem own_bt_eq (c w : Int32) (n : nar .char c = c) (h : ¬ 255 < c) (hw0 : 0 ≤ w.toInt) (hw : w.toInt < 128) : own_bt c = w ↔ c = w := by
  have e : own_bt c = c.toInt8.toInt32 := by show (c.toInt8.toInt32).toInt8.toInt32 = _; simp
  rw [e, ← Int32.toInt_inj, ← Int32.toInt_inj]
  rw [Int32.lt_iff_toInt_lt] at h
  have z : (255 : Int32).toInt = 255 := rfl
  rw [z] at h
  have c0 := own_c_nn n
  rw [Int8.toInt_toInt32, Int32.toInt_toInt8]
  have : c.toInt.bmod 256 = if c.toInt < 128 then c.toInt else c.toInt - 256 := by
    rw [Int.bmod_def]; split <;> split <;> omega
  rw [show (2 ^ 8 : Nat) = 256 from rfl, this]
  split <;> omega
theorem own_255 (c : Int32) : ¬ (255 : Int32) < nar .char (nar .char (c &&& 255)) := by
  have e : nar .char (c &&& 255) = c &&& 255 := i2c_mask c
  rw [e, e, Int32.lt_iff_toInt_lt]
  have a : (c &&& 255).toBitVec.toNat ≤ 255 := by
    rw [Int32.toBitVec_and, BitVec.toNat_and]; exact Nat.and_le_right
  have z : (255 : Int32).toInt = 255 := rfl
  have b : (c &&& 255).toInt = ((c &&& 255).toBitVec.toNat : Int) := by
    show (c &&& 255).toBitVec.toInt = _
    rw [BitVec.toInt_eq_toNat_cond, if_pos (by omega)]
  omega
theorem own_b255 (y : Int64) : ¬ (255 : Int32) < nar .char (nar .char ((y &&& (255 : Int64)).toInt32)) := by
  rw [Int64.toInt32_and]; exact own_255 _
/-- getChar of what putChar laid -/
abbrev own_lo (c : Int32) : Int32 := nar .byte ((c >>> ((0 : Int32) &&& 31)).toInt8.toInt32)
abbrev own_hi (c : Int32) : Int32 := nar .byte ((c >>> ((8 : Int32) &&& 31)).toInt8.toInt32)
def own_gc (x y : Int32) : Int32 := (((x &&& (255 : Int32)) <<< ((0 : Int32) &&& 31)) ||| ((y &&& (255 : Int32)) <<< ((8 : Int32) &&& 31))).toUInt32.toUInt16.toUInt32.toInt32
theorem own_ushr2 (x : Int32) : ¬ ((x.toUInt32 >>> ((2 : Int32) &&& 31).toUInt32).toInt32) < 0 := by
  rw [Int32.lt_iff_toInt_lt]
  show ¬ (x.toUInt32 >>> 2).toBitVec.toInt < 0
  rw [BitVec.toInt_neg_iff]
  have e : (x.toUInt32 >>> 2).toBitVec.toNat = x.toUInt32.toNat / 4 := by
    show (x.toUInt32 >>> 2).toNat = _
    rw [UInt32.toNat_shiftRight]; simp [Nat.shiftRight_eq_div_pow]
  have := x.toUInt32.toNat_lt
  omega
theorem own_eleven (a : Int32) (h0 : ¬ a < 0) (h : a < 11) : a = 0 ∨ a = 1 ∨ a = 2 ∨ a = 3 ∨ a = 4 ∨ a = 5 ∨ a = 6 ∨ a = 7 ∨ a = 8 ∨ a = 9 ∨ a = 10 := by
  rw [Int32.lt_iff_toInt_lt] at h0 h
  have z : (0 : Int32).toInt = 0 := rfl
  have z' : (11 : Int32).toInt = 11 := rfl
  have : a.toInt = 0 ∨ a.toInt = 1 ∨ a.toInt = 2 ∨ a.toInt = 3 ∨ a.toInt = 4 ∨ a.toInt = 5 ∨ a.toInt = 6 ∨ a.toInt = 7 ∨ a.toInt = 8 ∨ a.toInt = 9 ∨ a.toInt = 10 := by omega
  simp only [← Int32.toInt_inj]
  exact this
theorem own_gcb (c : Int32) (n : nar .char c = c) (h : 255 < c) : 255 < own_gc (own_lo c) (own_hi c) := by
  have hc0 := own_c_nn n
  have hch : c.toInt < 65536 := by
    have h16 : ∀ u : UInt16, (u.toUInt32.toInt32).toInt = u.toNat := fun u => by
      show (u.toUInt32.toInt32).toBitVec.toInt = _
      have := u.toNat_lt
      rw [BitVec.toInt_eq_toNat_cond, if_pos (by show 2 * u.toUInt32.toNat < _; rw [UInt16.toNat_toUInt32]; omega)]
      show ((u.toUInt32.toNat : Nat) : Int) = _
      rw [UInt16.toNat_toUInt32]
    rw [← n]; show ((c.toUInt32.toUInt16.toUInt32.toInt32)).toInt < _
    rw [h16]; have := c.toUInt32.toUInt16.toNat_lt; omega
  have e1 : own_hi c = (c >>> ((8 : Int32) &&& 31)).toInt8.toInt32 := by show ((c >>> ((8 : Int32) &&& 31)).toInt8.toInt32).toInt8.toInt32 = _; simp
  have e2 : (c >>> ((8 : Int32) &&& 31)).toInt = c.toInt / 256 := c_ishr c 8 8 rfl
  have e3 : (own_hi c &&& (255 : Int32)).toInt = c.toInt / 256 := by
    rw [c_mask _ 255 8 (by decide) rfl, e1, Int8.toInt_toInt32, Int32.toInt_toInt8, e2]
    rw [show (2 ^ 8 : Nat) = 256 from rfl, Int.bmod_def]; split <;> omega
  unfold own_gc
  rw [Int32.lt_iff_toInt_lt] at h ⊢
  have z : (255 : Int32).toInt = 255 := rfl
  rw [z] at h ⊢
  have e4 : (own_hi c &&& (255 : Int32)).toBitVec.toNat = c.toInt.toNat / 256 := by
    have q : (own_hi c &&& (255 : Int32)).toBitVec.toInt = c.toInt / 256 := e3
    rw [BitVec.toInt_eq_toNat_cond] at q
    split at q <;> omega
  have e5 : ((own_hi c &&& (255 : Int32)) <<< ((8 : Int32) &&& 31)).toBitVec.toNat = c.toInt.toNat / 256 * 256 := by
    have : ((own_hi c &&& (255 : Int32)) <<< ((8 : Int32) &&& 31)).toBitVec = (own_hi c &&& (255 : Int32)).toBitVec <<< 8 := rfl
    rw [this, BitVec.toNat_shiftLeft, e4, Nat.shiftLeft_eq]
    omega
  generalize ((own_hi c &&& (255 : Int32)) <<< ((8 : Int32) &&& 31)) = B at e5
  have hA : ((own_lo c &&& (255 : Int32)) <<< ((0 : Int32) &&& 31)).toBitVec.toNat < 256 := by
    have e : ((own_lo c &&& (255 : Int32)) <<< ((0 : Int32) &&& 31)).toBitVec = (own_lo c &&& (255 : Int32)).toBitVec := by
      show (own_lo c &&& (255 : Int32)).toBitVec <<< 0 = _; simp
    rw [e, Int32.toBitVec_and, BitVec.toNat_and]
    exact Nat.lt_of_le_of_lt Nat.and_le_right (by decide)
  generalize ((own_lo c &&& (255 : Int32)) <<< ((0 : Int32) &&& 31)) = A at hA
  obtain ⟨q1, q2, q3⟩ := c_i2c (A ||| B)
  have r1 : (A ||| B).toBitVec.toNat = A.toBitVec.toNat ||| B.toBitVec.toNat := by rw [Int32.toBitVec_or, BitVec.toNat_or]
  have r2 : B.toBitVec.toNat ≤ (A ||| B).toBitVec.toNat := by rw [r1]; exact Nat.right_le_or
  have r3 : (A ||| B).toBitVec.toNat < 65536 := by rw [r1]; exact Nat.or_lt_two_pow (n := 16) (by omega) (by omega)
  have r4 : (A ||| B).toInt = ((A ||| B).toBitVec.toNat : Int) := by
    show (A ||| B).toBitVec.toInt = _
    rw [BitVec.toInt_eq_toNat_cond, if_pos (by omega)]
  omega
theorem own_same {Z : State} {h : Heap} {t : Addr} {k k' : ClassId} {ty ty' : FieldType} {n n' : Int32} {vs ws : List Value} {d d' : Value} (V : Arv Z h t k ty n vs d) (W : Arv Z h t k' ty' n' ws d') : n.toNatClampNeg = n'.toNatClampNeg ∧ ∀ i, i < n.toNatClampNeg → vs.getD i d = ws.getD i d' := by
  obtain ⟨c1, A1, -, s1, -, H1, -⟩ := V
  obtain ⟨c2, A2, -, s2, -, H2, -⟩ := W
  cases A1.1.symm.trans A2.1
  exact ⟨s1.symm.trans s2, fun i hi => Option.some.inj ((H1 i (by rw [s1]; exact hi)).symm.trans (H2 i (by rw [s1]; exact hi)))⟩
theorem own_fld_u {Z : State} {h : Heap} {a : Addr} {C n d : String} {v w : Value} (F : Fld Z h a C n d v) (G : Fld Z h a C n d w) : v = w := Classical.byContradiction fun q => Fld.ne F G q rfl
theorem own_strOf {Z : State} {a0 : Array Value} (hw : ∀ d ∈ tables_1, d.before a0 Z = true) : ∀ a ∈ Bundle.stringAtoms, a.before a0 Z = true := by
  intro a ha
  simp only [Bundle.stringAtoms, List.mem_cons, List.not_mem_nil, or_false] at ha
  rcases ha with rfl | rfl | rfl | rfl | rfl | rfl | rfl
  · exact own_w hw 7 rfl
  · exact own_w hw 6 rfl
  · exact own_w hw 23 rfl
  · exact own_w hw 33 rfl
  · exact own_w hw 31 rfl
  · exact own_w hw 39 rfl
  · exact own_w hw 40 rfl
/-- the two places of a char in a byte array of nn bytes -/
abbrev own_pl (i nn : Int32) (ja jb len : Nat) : Prop := ((i <<< ((1 : Int32) &&& 31)).toNatClampNeg = ja ∧ ¬ (i <<< ((1 : Int32) &&& 31)) < 0 ∧ (i <<< ((1 : Int32) &&& 31)) < nn) ∧ (((i <<< ((1 : Int32) &&& 31)) + (1 : Int32)).toNatClampNeg = jb ∧ ¬ ((i <<< ((1 : Int32) &&& 31)) + (1 : Int32)) < 0 ∧ ((i <<< ((1 : Int32) &&& 31)) + (1 : Int32)) < nn) ∧ ja < len ∧ jb < len
theorem own_pn0 : plainName "java/lang/StringUTF16" = true := by first | (simp [plainName, overriddenIn]; done) | decide +kernel
theorem d14_0 : decode jdk_52_method_4_code 0 = .ok (.getstatic 44, 3) := by decide +kernel
theorem d14_3 : decode jdk_52_method_4_code 3 = .ok (.ifCond .ne 25, 3) := by decide +kernel
theorem d14_28 : decode jdk_52_method_4_code 28 = .ok (.iload_n 1, 1) := by decide +kernel
theorem d14_29 : decode jdk_52_method_4_code 29 = .ok (.iconst 1, 1) := by decide +kernel
theorem d14_30 : decode jdk_52_method_4_code 30 = .ok (.ishl, 1) := by decide +kernel
theorem d14_31 : decode jdk_52_method_4_code 31 = .ok (.istore_n 1, 1) := by decide +kernel
theorem d14_32 : decode jdk_52_method_4_code 32 = .ok (.aload_n 0, 1) := by decide +kernel
theorem d14_33 : decode jdk_52_method_4_code 33 = .ok (.iload_n 1, 1) := by decide +kernel
theorem d14_34 : decode jdk_52_method_4_code 34 = .ok (.iinc 1 1, 3) := by decide +kernel
theorem d14_37 : decode jdk_52_method_4_code 37 = .ok (.iload_n 2, 1) := by decide +kernel
theorem d14_38 : decode jdk_52_method_4_code 38 = .ok (.getstatic 59, 3) := by decide +kernel
theorem d14_41 : decode jdk_52_method_4_code 41 = .ok (.ishr, 1) := by decide +kernel
theorem d14_42 : decode jdk_52_method_4_code 42 = .ok (.i2b, 1) := by decide +kernel
theorem d14_43 : decode jdk_52_method_4_code 43 = .ok (.bastore, 1) := by decide +kernel
theorem d14_44 : decode jdk_52_method_4_code 44 = .ok (.aload_n 0, 1) := by decide +kernel
theorem d14_45 : decode jdk_52_method_4_code 45 = .ok (.iload_n 1, 1) := by decide +kernel
theorem d14_46 : decode jdk_52_method_4_code 46 = .ok (.iload_n 2, 1) := by decide +kernel
theorem d14_47 : decode jdk_52_method_4_code 47 = .ok (.getstatic 63, 3) := by decide +kernel
theorem d14_50 : decode jdk_52_method_4_code 50 = .ok (.ishr, 1) := by decide +kernel
theorem d14_51 : decode jdk_52_method_4_code 51 = .ok (.i2b, 1) := by decide +kernel
theorem d14_52 : decode jdk_52_method_4_code 52 = .ok (.bastore, 1) := by decide +kernel
theorem d14_53 : decode jdk_52_method_4_code 53 = .ok (.return_, 1) := by decide +kernel
set_option maxRecDepth 65536 in
set_option maxHeartbeats 40000000 in
theorem ru_put (l : Launch) (Z : State) (a0 : Array Value) (hw : ∀ d ∈ tables_1, d.before a0 Z = true) (t : Addr) (ii nn ch : Int32) (ja jb len : Nat) (vs : List Value) (kT : ClassId) (h0 : Heap) (n0 : Nat) (Z0 : n0 ≤ h0.size) (g_t : n0 ≤ t) (V_t : Arv Z h0 t kT .byte nn vs (.int (0 : Int32))) (S_ad : Sta Z h0 "java/lang/StringUTF16" "$assertionsDisabled" "Z" (.int 1)) (S_hi : Sta Z h0 "java/lang/StringUTF16" "HI_BYTE_SHIFT" "I" (.int 0)) (S_lo : Sta Z h0 "java/lang/StringUTF16" "LO_BYTE_SHIFT" "I" (.int 8)) (hp : own_pl ii nn ja jb len) (hlen : vs.length = len) :
    OwnMet l Z (⟨"java/lang/StringUTF16", "putChar", "([BII)V"⟩ : MethodName) jdk_52_method_4_code 3 none [] ({ frames := 0, cells := 0, slots := 0, locals := 0 } : Room) [(.ref t), (.int ii), (.int ch)] h0 (fun v h L => v = none ∧ Fr n0 L ∧ Keep h0 h [t] ∧ Arv Z h t kT .byte nn ((vs.set ja (.int (own_lo ch))).set jb (.int (own_hi ch))) (.int (0 : Int32))) := by
  refine own_body (Ls := #[.val (.ref t), .val (.int ii), .val (.int ch)]) (plainFor_of_name own_pn0) (fun m => by first | (simp [entryFrame, mkF, argsToLocals, Value.category]; done) | rfl) (fun p e s m below meth cO T0 hx hby hml hown hnm hret hlk hZ X0 e0 => ?_)
  have hown : s.vm.findClass "java/lang/StringUTF16" = some m.cls := hown
  have N0 := Fr.nil n0
  have K0 := Keep.refl h0 [t]
  refine g_getS X0 hx 3 hZ hown (host := "") (Or.inl (own_w hw 68 rfl)) Via.refl e0 S_ad (hb hby d14_0) rfl (fun T1 X1 e1 => ?_)
  refine g_ifT X1 hx 28 (hb hby d14_3) (by decide) (by decide) (by decide) ?_
  refine g_iloadN X1 hx 29 (hb hby d14_28) rfl rfl ?_
  refine g_iconst X1 hx 30 (1 : Int32) (hb hby d14_29) (by decide) rfl ?_
  refine g_ishl X1 hx 31 (ii <<< ((1 : Int32) &&& 31)) (hb hby d14_30) rfl rfl ?_
  refine g_istoreN X1 hx 32 #[.val (.ref t), .val (.int (ii <<< ((1 : Int32) &&& 31))), .val (.int ch)] (hb hby d14_31) rfl rfl ?_
  refine g_aloadN X1 hx 33 (hb hby d14_32) rfl rfl rfl ?_
  refine g_iloadN X1 hx 34 (hb hby d14_33) rfl rfl ?_
  refine g_iinc X1 hx 37 ((ii <<< ((1 : Int32) &&& 31)) + (1 : Int32)) #[.val (.ref t), .val (.int ((ii <<< ((1 : Int32) &&& 31)) + (1 : Int32))), .val (.int ch)] (hb hby d14_34) rfl rfl rfl rfl ?_
  refine g_iloadN X1 hx 38 (hb hby d14_37) rfl rfl ?_
  refine g_getS X1 hx 41 hZ hown (host := "") (Or.inl (own_w hw 69 rfl)) Via.refl e1 S_hi (hb hby d14_38) rfl (fun T2 X2 e2 => ?_)
  refine g_ishr X2 hx 42 (ch >>> ((0 : Int32) &&& 31)) (hb hby d14_41) rfl rfl ?_
  refine g_i2b X2 hx 43 ((ch >>> ((0 : Int32) &&& 31)).toInt8.toInt32) (hb hby d14_42) rfl rfl ?_
  refine g_bastore X2 hx 44 hZ e2 V_t ja hp.1.1 hp.1.2 (by rw [hlen]; exact hp.2.2.1) (hb hby d14_43) rfl (fun T3 h3 X3 e3 W3 V3 => ?_)
  have S_hi := S_hi.wr W3
  have S_lo := S_lo.wr W3
  have V_t : Arv Z h3 t kT .byte nn (vs.set ja (.int (own_lo ch))) (.int (0 : Int32)) := V3
  have N3 := Fr.snoc X3 N0 g_t
  have Z3 : n0 ≤ h3.size := by rw [W3.size]; exact Z0
  have K3 := K0.wr W3 (Or.inl (List.mem_of_getElem? (i := 0) rfl))
  refine g_aloadN X3 hx 45 (hb hby d14_44) rfl rfl rfl ?_
  refine g_iloadN X3 hx 46 (hb hby d14_45) rfl rfl ?_
  refine g_iloadN X3 hx 47 (hb hby d14_46) rfl rfl ?_
  refine g_getS X3 hx 50 hZ hown (host := "") (Or.inl (own_w hw 70 rfl)) Via.refl e3 S_lo (hb hby d14_47) rfl (fun T4 X4 e4 => ?_)
  refine g_ishr X4 hx 51 (ch >>> ((8 : Int32) &&& 31)) (hb hby d14_50) rfl rfl ?_
  refine g_i2b X4 hx 52 ((ch >>> ((8 : Int32) &&& 31)).toInt8.toInt32) (hb hby d14_51) rfl rfl ?_
  refine g_bastore X4 hx 53 hZ e4 V_t jb hp.2.1.1 hp.2.1.2 (by rw [List.length_set, hlen]; exact hp.2.2.2) (hb hby d14_52) rfl (fun T5 h5 X5 e5 W5 V5 => ?_)
  have S_lo := S_lo.wr W5
  have V_t : Arv Z h5 t kT .byte nn ((vs.set ja (.int (own_lo ch))).set jb (.int (own_hi ch))) (.int (0 : Int32)) := V5
  have N5 := Fr.snoc X5 N3 g_t
  have Z5 : n0 ≤ h5.size := by rw [W5.size]; exact Z3
  have K5 := K3.wr W5 (Or.inl (List.mem_of_getElem? (i := 0) rfl))
  exact g_retV X5 hx hret hlk (hb hby d14_53) (by decide) (by decide) (by rw [e5]; exact ⟨rfl, N5, K5, V_t⟩)
theorem d15_0 : decode jdk_52_method_5_code 0 = .ok (.getstatic 44, 3) := by decide +kernel
theorem d15_3 : decode jdk_52_method_5_code 3 = .ok (.ifCond .ne 25, 3) := by decide +kernel
theorem d15_28 : decode jdk_52_method_5_code 28 = .ok (.iload_n 1, 1) := by decide +kernel
theorem d15_29 : decode jdk_52_method_5_code 29 = .ok (.iconst 1, 1) := by decide +kernel
theorem d15_30 : decode jdk_52_method_5_code 30 = .ok (.ishl, 1) := by decide +kernel
theorem d15_31 : decode jdk_52_method_5_code 31 = .ok (.istore_n 1, 1) := by decide +kernel
theorem d15_32 : decode jdk_52_method_5_code 32 = .ok (.aload_n 0, 1) := by decide +kernel
theorem d15_33 : decode jdk_52_method_5_code 33 = .ok (.iload_n 1, 1) := by decide +kernel
theorem d15_34 : decode jdk_52_method_5_code 34 = .ok (.iinc 1 1, 3) := by decide +kernel
theorem d15_37 : decode jdk_52_method_5_code 37 = .ok (.baload, 1) := by decide +kernel
theorem d15_38 : decode jdk_52_method_5_code 38 = .ok (.sipush 255, 3) := by decide +kernel
theorem d15_41 : decode jdk_52_method_5_code 41 = .ok (.iand, 1) := by decide +kernel
theorem d15_42 : decode jdk_52_method_5_code 42 = .ok (.getstatic 59, 3) := by decide +kernel
theorem d15_45 : decode jdk_52_method_5_code 45 = .ok (.ishl, 1) := by decide +kernel
theorem d15_46 : decode jdk_52_method_5_code 46 = .ok (.aload_n 0, 1) := by decide +kernel
theorem d15_47 : decode jdk_52_method_5_code 47 = .ok (.iload_n 1, 1) := by decide +kernel
theorem d15_48 : decode jdk_52_method_5_code 48 = .ok (.baload, 1) := by decide +kernel
theorem d15_49 : decode jdk_52_method_5_code 49 = .ok (.sipush 255, 3) := by decide +kernel
theorem d15_52 : decode jdk_52_method_5_code 52 = .ok (.iand, 1) := by decide +kernel
theorem d15_53 : decode jdk_52_method_5_code 53 = .ok (.getstatic 63, 3) := by decide +kernel
theorem d15_56 : decode jdk_52_method_5_code 56 = .ok (.ishl, 1) := by decide +kernel
theorem d15_57 : decode jdk_52_method_5_code 57 = .ok (.ior, 1) := by decide +kernel
theorem d15_58 : decode jdk_52_method_5_code 58 = .ok (.i2c, 1) := by decide +kernel
theorem d15_59 : decode jdk_52_method_5_code 59 = .ok (.ireturn, 1) := by decide +kernel
set_option maxRecDepth 65536 in
set_option maxHeartbeats 40000000 in
theorem ru_get (l : Launch) (Z : State) (a0 : Array Value) (hw : ∀ d ∈ tables_1, d.before a0 Z = true) (t : Addr) (ii nn ya yb : Int32) (ja jb len : Nat) (vs : List Value) (kT : ClassId) (h0 : Heap) (n0 : Nat) (Z0 : n0 ≤ h0.size) (V_t : Arv Z h0 t kT .byte nn vs (.int (0 : Int32))) (S_ad : Sta Z h0 "java/lang/StringUTF16" "$assertionsDisabled" "Z" (.int 1)) (S_hi : Sta Z h0 "java/lang/StringUTF16" "HI_BYTE_SHIFT" "I" (.int 0)) (S_lo : Sta Z h0 "java/lang/StringUTF16" "LO_BYTE_SHIFT" "I" (.int 8)) (hp : own_pl ii nn ja jb len) (hya : vs.getD ja (.int (0 : Int32)) = .int ya) (hyb : vs.getD jb (.int (0 : Int32)) = .int yb) :
    OwnMet l Z (⟨"java/lang/StringUTF16", "getChar", "([BI)C"⟩ : MethodName) jdk_52_method_5_code 2 (some .char) [] ({ frames := 0, cells := 0, slots := 0, locals := 0 } : Room) [(.ref t), (.int ii)] h0 (fun v h L => v = some (.int (own_gc ya yb)) ∧ Fr n0 L ∧ h = h0) := by
  refine own_body (Ls := #[.val (.ref t), .val (.int ii)]) (plainFor_of_name own_pn0) (fun m => by first | (simp [entryFrame, mkF, argsToLocals, Value.category]; done) | rfl) (fun p e s m below meth cO T0 hx hby hml hown hnm hret hlk hZ X0 e0 => ?_)
  have hown : s.vm.findClass "java/lang/StringUTF16" = some m.cls := hown
  have N0 := Fr.nil n0
  refine g_getS X0 hx 3 hZ hown (host := "") (Or.inl (own_w hw 68 rfl)) Via.refl e0 S_ad (hb hby d15_0) rfl (fun T1 X1 e1 => ?_)
  refine g_ifT X1 hx 28 (hb hby d15_3) (by decide) (by decide) (by decide) ?_
  refine g_iloadN X1 hx 29 (hb hby d15_28) rfl rfl ?_
  refine g_iconst X1 hx 30 (1 : Int32) (hb hby d15_29) (by decide) rfl ?_
  refine g_ishl X1 hx 31 (ii <<< ((1 : Int32) &&& 31)) (hb hby d15_30) rfl rfl ?_
  refine g_istoreN X1 hx 32 #[.val (.ref t), .val (.int (ii <<< ((1 : Int32) &&& 31)))] (hb hby d15_31) rfl rfl ?_
  refine g_aloadN X1 hx 33 (hb hby d15_32) rfl rfl rfl ?_
  refine g_iloadN X1 hx 34 (hb hby d15_33) rfl rfl ?_
  refine g_iinc X1 hx 37 ((ii <<< ((1 : Int32) &&& 31)) + (1 : Int32)) #[.val (.ref t), .val (.int ((ii <<< ((1 : Int32) &&& 31)) + (1 : Int32)))] (hb hby d15_34) rfl rfl rfl rfl ?_
  refine g_baload X1 hx 38 hZ e1 V_t hp.1.2 (show _ = Value.int ya from by rw [hp.1.1]; exact hya) (hb hby d15_37) rfl ?_
  refine g_sipush X1 hx 41 (255 : Int32) (hb hby d15_38) (by decide) rfl ?_
  refine g_iand X1 hx 42 (ya &&& (255 : Int32)) (hb hby d15_41) rfl rfl ?_
  refine g_getS X1 hx 45 hZ hown (host := "") (Or.inl (own_w hw 69 rfl)) Via.refl e1 S_hi (hb hby d15_42) rfl (fun T2 X2 e2 => ?_)
  refine g_ishl X2 hx 46 ((ya &&& (255 : Int32)) <<< ((0 : Int32) &&& 31)) (hb hby d15_45) rfl rfl ?_
  refine g_aloadN X2 hx 47 (hb hby d15_46) rfl rfl rfl ?_
  refine g_iloadN X2 hx 48 (hb hby d15_47) rfl rfl ?_
  refine g_baload X2 hx 49 hZ e2 V_t hp.2.1.2 (show _ = Value.int yb from by rw [hp.2.1.1]; exact hyb) (hb hby d15_48) rfl ?_
  refine g_sipush X2 hx 52 (255 : Int32) (hb hby d15_49) (by decide) rfl ?_
  refine g_iand X2 hx 53 (yb &&& (255 : Int32)) (hb hby d15_52) rfl rfl ?_
  refine g_getS X2 hx 56 hZ hown (host := "") (Or.inl (own_w hw 70 rfl)) Via.refl e2 S_lo (hb hby d15_53) rfl (fun T3 X3 e3 => ?_)
  refine g_ishl X3 hx 57 ((yb &&& (255 : Int32)) <<< ((8 : Int32) &&& 31)) (hb hby d15_56) rfl rfl ?_
  refine g_ior X3 hx 58 (((ya &&& (255 : Int32)) <<< ((0 : Int32) &&& 31)) ||| ((yb &&& (255 : Int32)) <<< ((8 : Int32) &&& 31))) (hb hby d15_57) rfl rfl ?_
  refine g_i2c X3 hx 59 ((((ya &&& (255 : Int32)) <<< ((0 : Int32) &&& 31)) ||| ((yb &&& (255 : Int32)) <<< ((8 : Int32) &&& 31))).toUInt32.toUInt16.toUInt32.toInt32) (hb hby d15_58) rfl rfl ?_
  exact g_retC X3 hx hret hlk (Jvm.Free.XT.narrow_c _) (hb hby d15_59) (by decide) (by decide) ⟨rfl, N0, e3⟩
def own_fst10 (c0 c1 c2 c3 c4 c5 c6 c7 c8 c9 : Int32) : Int32 := if 255 < c0 then 0 else if 255 < c1 then 1 else if 255 < c2 then 2 else if 255 < c3 then 3 else if 255 < c4 then 4 else if 255 < c5 then 5 else if 255 < c6 then 6 else if 255 < c7 then 7 else if 255 < c8 then 8 else if 255 < c9 then 9 else 10
theorem own_fst10_n {c0 c1 c2 c3 c4 c5 c6 c7 c8 c9 : Int32} (hc0 : ¬ 255 < c0) (hc1 : ¬ 255 < c1) (hc2 : ¬ 255 < c2) (hc3 : ¬ 255 < c3) (hc4 : ¬ 255 < c4) (hc5 : ¬ 255 < c5) (hc6 : ¬ 255 < c6) (hc7 : ¬ 255 < c7) (hc8 : ¬ 255 < c8) (hc9 : ¬ 255 < c9) : own_fst10 c0 c1 c2 c3 c4 c5 c6 c7 c8 c9 = (10 : Int32) := by unfold own_fst10; rw [if_neg hc0, if_neg hc1, if_neg hc2, if_neg hc3, if_neg hc4, if_neg hc5, if_neg hc6, if_neg hc7, if_neg hc8, if_neg hc9]
theorem d6_0 : decode jdk_52_method_21_code 0 = .ok (.iconst 0, 1) := by decide +kernel
theorem d6_1 : decode jdk_52_method_21_code 1 = .ok (.istore 5, 2) := by decide +kernel
theorem d6_3 : decode jdk_52_method_21_code 3 = .ok (.iload 5, 2) := by decide +kernel
theorem d6_5 : decode jdk_52_method_21_code 5 = .ok (.iload 4, 2) := by decide +kernel
theorem d6_7 : decode jdk_52_method_21_code 7 = .ok (.if_icmp .ge 37, 3) := by decide +kernel
theorem d6_10 : decode jdk_52_method_21_code 10 = .ok (.aload_n 0, 1) := by decide +kernel
theorem d6_11 : decode jdk_52_method_21_code 11 = .ok (.iload_n 1, 1) := by decide +kernel
theorem d6_12 : decode jdk_52_method_21_code 12 = .ok (.caload, 1) := by decide +kernel
theorem d6_13 : decode jdk_52_method_21_code 13 = .ok (.istore 6, 2) := by decide +kernel
theorem d6_15 : decode jdk_52_method_21_code 15 = .ok (.iload 6, 2) := by decide +kernel
theorem d6_17 : decode jdk_52_method_21_code 17 = .ok (.sipush 255, 3) := by decide +kernel
theorem d6_20 : decode jdk_52_method_21_code 20 = .ok (.if_icmp .le 6, 3) := by decide +kernel
theorem d6_23 : decode jdk_52_method_21_code 23 = .ok (.iload 5, 2) := by decide +kernel
theorem d6_25 : decode jdk_52_method_21_code 25 = .ok (.ireturn, 1) := by decide +kernel
theorem d6_26 : decode jdk_52_method_21_code 26 = .ok (.aload_n 2, 1) := by decide +kernel
theorem d6_27 : decode jdk_52_method_21_code 27 = .ok (.iload_n 3, 1) := by decide +kernel
theorem d6_28 : decode jdk_52_method_21_code 28 = .ok (.iload 6, 2) := by decide +kernel
theorem d6_30 : decode jdk_52_method_21_code 30 = .ok (.i2b, 1) := by decide +kernel
theorem d6_31 : decode jdk_52_method_21_code 31 = .ok (.bastore, 1) := by decide +kernel
theorem d6_32 : decode jdk_52_method_21_code 32 = .ok (.iinc 1 1, 3) := by decide +kernel
theorem d6_35 : decode jdk_52_method_21_code 35 = .ok (.iinc 3 1, 3) := by decide +kernel
theorem d6_38 : decode jdk_52_method_21_code 38 = .ok (.iinc 5 1, 3) := by decide +kernel
theorem d6_41 : decode jdk_52_method_21_code 41 = .ok (.goto (-38), 3) := by decide +kernel
theorem d6_44 : decode jdk_52_method_21_code 44 = .ok (.iload 4, 2) := by decide +kernel
theorem d6_46 : decode jdk_52_method_21_code 46 = .ok (.ireturn, 1) := by decide +kernel
set_option maxRecDepth 65536 in
set_option maxHeartbeats 40000000 in
theorem ru10_inner (l : Launch) (Z : State) (a0 : Array Value) (hw : ∀ d ∈ tables_1, d.before a0 Z = true) (b t : Addr) (c0 c1 c2 c3 c4 c5 c6 c7 c8 c9 : Int32) (kB kT : ClassId) (h0 : Heap) (n0 : Nat) (Z0 : n0 ≤ h0.size) (g_t : n0 ≤ t) (V_b : Arv Z h0 b kB .char (10 : Int32) [(.int c0), (.int c1), (.int c2), (.int c3), (.int c4), (.int c5), (.int c6), (.int c7), (.int c8), (.int c9)] (.int (0 : Int32))) (V_t : Arv Z h0 t kT .byte (10 : Int32) [(.int (0 : Int32)), (.int (0 : Int32)), (.int (0 : Int32)), (.int (0 : Int32)), (.int (0 : Int32)), (.int (0 : Int32)), (.int (0 : Int32)), (.int (0 : Int32)), (.int (0 : Int32)), (.int (0 : Int32))] (.int (0 : Int32))) (ne_t_b : t ≠ b) :
    OwnMet l Z (⟨"java/lang/StringUTF16", "compress", "([CI[BII)I"⟩ : MethodName) jdk_52_method_21_code 7 (some .int) [] ({ frames := 0, cells := 0, slots := 0, locals := 0 } : Room) [(.ref b), (.int (0 : Int32)), (.ref t), (.int (0 : Int32)), (.int (10 : Int32))] h0 (fun v h L => v = some (.int (own_fst10 c0 c1 c2 c3 c4 c5 c6 c7 c8 c9)) ∧ Fr n0 L ∧ Keep h0 h [t] ∧ (own_fst10 c0 c1 c2 c3 c4 c5 c6 c7 c8 c9 = (10 : Int32) → Arv Z h t kT .byte (10 : Int32) [(.int (own_bt c0)), (.int (own_bt c1)), (.int (own_bt c2)), (.int (own_bt c3)), (.int (own_bt c4)), (.int (own_bt c5)), (.int (own_bt c6)), (.int (own_bt c7)), (.int (own_bt c8)), (.int (own_bt c9))] (.int (0 : Int32)))) := by
  refine own_body (Ls := #[.val (.ref b), .val (.int (0 : Int32)), .val (.ref t), .val (.int (0 : Int32)), .val (.int (10 : Int32)), .unset, .unset]) (plainFor_of_name own_pn0) (fun m => by first | (simp [entryFrame, mkF, argsToLocals, Value.category]; done) | rfl) (fun p e s m below meth cO T0 hx hby hml hown hnm hret hlk hZ X0 e0 => ?_)
  have hown : s.vm.findClass "java/lang/StringUTF16" = some m.cls := hown
  have N0 := Fr.nil n0
  have K0 := Keep.refl h0 [t]
  refine g_iconst X0 hx 1 (0 : Int32) (hb hby d6_0) (by decide) rfl ?_
  refine g_istore X0 hx 3 #[.val (.ref b), .val (.int (0 : Int32)), .val (.ref t), .val (.int (0 : Int32)), .val (.int (10 : Int32)), .val (.int (0 : Int32)), .unset] (hb hby d6_1) rfl rfl ?_
  refine g_iload X0 hx 5 (hb hby d6_3) rfl rfl ?_
  refine g_iload X0 hx 7 (hb hby d6_5) rfl rfl ?_
  refine g_icF X0 hx 10 (hb hby d6_7) (by decide) rfl ?_
  refine g_aloadN X0 hx 11 (hb hby d6_10) rfl rfl rfl ?_
  refine g_iloadN X0 hx 12 (hb hby d6_11) rfl rfl ?_
  refine g_caload X0 hx 13 hZ e0 V_b ⟨by decide, by decide⟩ (show _ = (.int c0) from rfl) (hb hby d6_12) rfl ?_
  refine g_istore X0 hx 15 #[.val (.ref b), .val (.int (0 : Int32)), .val (.ref t), .val (.int (0 : Int32)), .val (.int (10 : Int32)), .val (.int (0 : Int32)), .val (.int c0)] (hb hby d6_13) rfl rfl ?_
  refine g_iload X0 hx 17 (hb hby d6_15) rfl rfl ?_
  refine g_sipush X0 hx 20 (255 : Int32) (hb hby d6_17) (by decide) rfl ?_
  by_cases hc1 : (255 : Int32) < c0
  · refine g_icF X0 hx 23 (hb hby d6_20) (tlt hc1).2.2.2 rfl ?_
    refine g_iload X0 hx 25 (hb hby d6_23) rfl rfl ?_
    have hF : own_fst10 c0 c1 c2 c3 c4 c5 c6 c7 c8 c9 = (0 : Int32) := by unfold own_fst10; rw [if_pos hc1]
    exact g_retI X0 hx hret hlk (hb hby d6_25) (by decide) (by decide) (by rw [e0, hF]; exact ⟨rfl, N0, K0, fun q => absurd q (by decide)⟩)
  · refine g_icT X0 hx 26 (hb hby d6_20) (flt hc1).2.2.2 (by decide) (by decide) ?_
    refine g_aloadN X0 hx 27 (hb hby d6_26) rfl rfl rfl ?_
    refine g_iloadN X0 hx 28 (hb hby d6_27) rfl rfl ?_
    refine g_iload X0 hx 30 (hb hby d6_28) rfl rfl ?_
    refine g_i2b X0 hx 31 (c0.toInt8.toInt32) (hb hby d6_30) rfl rfl ?_
    refine g_bastore X0 hx 32 hZ e0 V_t 0 (by decide) ⟨by decide, by decide⟩ (Nat.le_of_ble_eq_true rfl) (hb hby d6_31) rfl (fun T2 h2 X2 e2 W2 V2 => ?_)
    have V_b := V_b.other W2 (Ne.symm ne_t_b)
    have V_t : Arv Z h2 t kT .byte (10 : Int32) [(.int (nar .byte (c0.toInt8.toInt32))), (.int (0 : Int32)), (.int (0 : Int32)), (.int (0 : Int32)), (.int (0 : Int32)), (.int (0 : Int32)), (.int (0 : Int32)), (.int (0 : Int32)), (.int (0 : Int32)), (.int (0 : Int32))] (.int (0 : Int32)) := V2
    have N2 := Fr.snoc X2 N0 g_t
    have Z2 : n0 ≤ h2.size := by rw [W2.size]; exact Z0
    have K2 := K0.wr W2 (Or.inl (List.mem_of_getElem? (i := 0) rfl))
    refine g_iinc X2 hx 35 (1 : Int32) #[.val (.ref b), .val (.int (1 : Int32)), .val (.ref t), .val (.int (0 : Int32)), .val (.int (10 : Int32)), .val (.int (0 : Int32)), .val (.int c0)] (hb hby d6_32) rfl (by decide) rfl rfl ?_
    refine g_iinc X2 hx 38 (1 : Int32) #[.val (.ref b), .val (.int (1 : Int32)), .val (.ref t), .val (.int (1 : Int32)), .val (.int (10 : Int32)), .val (.int (0 : Int32)), .val (.int c0)] (hb hby d6_35) rfl (by decide) rfl rfl ?_
    refine g_iinc X2 hx 41 (1 : Int32) #[.val (.ref b), .val (.int (1 : Int32)), .val (.ref t), .val (.int (1 : Int32)), .val (.int (10 : Int32)), .val (.int (1 : Int32)), .val (.int c0)] (hb hby d6_38) rfl (by decide) rfl rfl ?_
    refine g_goto X2 hx 3 (hb hby d6_41) (by decide) (by decide) ?_
    refine g_iload X2 hx 5 (hb hby d6_3) rfl rfl ?_
    refine g_iload X2 hx 7 (hb hby d6_5) rfl rfl ?_
    refine g_icF X2 hx 10 (hb hby d6_7) (by decide) rfl ?_
    refine g_aloadN X2 hx 11 (hb hby d6_10) rfl rfl rfl ?_
    refine g_iloadN X2 hx 12 (hb hby d6_11) rfl rfl ?_
    refine g_caload X2 hx 13 hZ e2 V_b ⟨by decide, by decide⟩ (show _ = (.int c1) from rfl) (hb hby d6_12) rfl ?_
    refine g_istore X2 hx 15 #[.val (.ref b), .val (.int (1 : Int32)), .val (.ref t), .val (.int (1 : Int32)), .val (.int (10 : Int32)), .val (.int (1 : Int32)), .val (.int c1)] (hb hby d6_13) rfl rfl ?_
    refine g_iload X2 hx 17 (hb hby d6_15) rfl rfl ?_
    refine g_sipush X2 hx 20 (255 : Int32) (hb hby d6_17) (by decide) rfl ?_
    by_cases hc3 : (255 : Int32) < c1
    · refine g_icF X2 hx 23 (hb hby d6_20) (tlt hc3).2.2.2 rfl ?_
      refine g_iload X2 hx 25 (hb hby d6_23) rfl rfl ?_
      have hF : own_fst10 c0 c1 c2 c3 c4 c5 c6 c7 c8 c9 = (1 : Int32) := by unfold own_fst10; rw [if_neg hc1, if_pos hc3]
      exact g_retI X2 hx hret hlk (hb hby d6_25) (by decide) (by decide) (by rw [e2, hF]; exact ⟨rfl, N2, K2, fun q => absurd q (by decide)⟩)
    · refine g_icT X2 hx 26 (hb hby d6_20) (flt hc3).2.2.2 (by decide) (by decide) ?_
      refine g_aloadN X2 hx 27 (hb hby d6_26) rfl rfl rfl ?_
      refine g_iloadN X2 hx 28 (hb hby d6_27) rfl rfl ?_
      refine g_iload X2 hx 30 (hb hby d6_28) rfl rfl ?_
      refine g_i2b X2 hx 31 (c1.toInt8.toInt32) (hb hby d6_30) rfl rfl ?_
      refine g_bastore X2 hx 32 hZ e2 V_t 1 (by decide) ⟨by decide, by decide⟩ (Nat.le_of_ble_eq_true rfl) (hb hby d6_31) rfl (fun T4 h4 X4 e4 W4 V4 => ?_)
      have V_b := V_b.other W4 (Ne.symm ne_t_b)
      have V_t : Arv Z h4 t kT .byte (10 : Int32) [(.int (nar .byte (c0.toInt8.toInt32))), (.int (nar .byte (c1.toInt8.toInt32))), (.int (0 : Int32)), (.int (0 : Int32)), (.int (0 : Int32)), (.int (0 : Int32)), (.int (0 : Int32)), (.int (0 : Int32)), (.int (0 : Int32)), (.int (0 : Int32))] (.int (0 : Int32)) := V4
      have N4 := Fr.snoc X4 N2 g_t
      have Z4 : n0 ≤ h4.size := by rw [W4.size]; exact Z2
      have K4 := K2.wr W4 (Or.inl (List.mem_of_getElem? (i := 0) rfl))
      refine g_iinc X4 hx 35 (2 : Int32) #[.val (.ref b), .val (.int (2 : Int32)), .val (.ref t), .val (.int (1 : Int32)), .val (.int (10 : Int32)), .val (.int (1 : Int32)), .val (.int c1)] (hb hby d6_32) rfl (by decide) rfl rfl ?_
      refine g_iinc X4 hx 38 (2 : Int32) #[.val (.ref b), .val (.int (2 : Int32)), .val (.ref t), .val (.int (2 : Int32)), .val (.int (10 : Int32)), .val (.int (1 : Int32)), .val (.int c1)] (hb hby d6_35) rfl (by decide) rfl rfl ?_
      refine g_iinc X4 hx 41 (2 : Int32) #[.val (.ref b), .val (.int (2 : Int32)), .val (.ref t), .val (.int (2 : Int32)), .val (.int (10 : Int32)), .val (.int (2 : Int32)), .val (.int c1)] (hb hby d6_38) rfl (by decide) rfl rfl ?_
      refine g_goto X4 hx 3 (hb hby d6_41) (by decide) (by decide) ?_
      refine g_iload X4 hx 5 (hb hby d6_3) rfl rfl ?_
      refine g_iload X4 hx 7 (hb hby d6_5) rfl rfl ?_
      refine g_icF X4 hx 10 (hb hby d6_7) (by decide) rfl ?_
      refine g_aloadN X4 hx 11 (hb hby d6_10) rfl rfl rfl ?_
      refine g_iloadN X4 hx 12 (hb hby d6_11) rfl rfl ?_
      refine g_caload X4 hx 13 hZ e4 V_b ⟨by decide, by decide⟩ (show _ = (.int c2) from rfl) (hb hby d6_12) rfl ?_
      refine g_istore X4 hx 15 #[.val (.ref b), .val (.int (2 : Int32)), .val (.ref t), .val (.int (2 : Int32)), .val (.int (10 : Int32)), .val (.int (2 : Int32)), .val (.int c2)] (hb hby d6_13) rfl rfl ?_
      refine g_iload X4 hx 17 (hb hby d6_15) rfl rfl ?_
      refine g_sipush X4 hx 20 (255 : Int32) (hb hby d6_17) (by decide) rfl ?_
      by_cases hc5 : (255 : Int32) < c2
      · refine g_icF X4 hx 23 (hb hby d6_20) (tlt hc5).2.2.2 rfl ?_
        refine g_iload X4 hx 25 (hb hby d6_23) rfl rfl ?_
        have hF : own_fst10 c0 c1 c2 c3 c4 c5 c6 c7 c8 c9 = (2 : Int32) := by unfold own_fst10; rw [if_neg hc1, if_neg hc3, if_pos hc5]
        exact g_retI X4 hx hret hlk (hb hby d6_25) (by decide) (by decide) (by rw [e4, hF]; exact ⟨rfl, N4, K4, fun q => absurd q (by decide)⟩)
      · refine g_icT X4 hx 26 (hb hby d6_20) (flt hc5).2.2.2 (by decide) (by decide) ?_
        refine g_aloadN X4 hx 27 (hb hby d6_26) rfl rfl rfl ?_
        refine g_iloadN X4 hx 28 (hb hby d6_27) rfl rfl ?_
        refine g_iload X4 hx 30 (hb hby d6_28) rfl rfl ?_
        refine g_i2b X4 hx 31 (c2.toInt8.toInt32) (hb hby d6_30) rfl rfl ?_
        refine g_bastore X4 hx 32 hZ e4 V_t 2 (by decide) ⟨by decide, by decide⟩ (Nat.le_of_ble_eq_true rfl) (hb hby d6_31) rfl (fun T6 h6 X6 e6 W6 V6 => ?_)
        have V_b := V_b.other W6 (Ne.symm ne_t_b)
        have V_t : Arv Z h6 t kT .byte (10 : Int32) [(.int (nar .byte (c0.toInt8.toInt32))), (.int (nar .byte (c1.toInt8.toInt32))), (.int (nar .byte (c2.toInt8.toInt32))), (.int (0 : Int32)), (.int (0 : Int32)), (.int (0 : Int32)), (.int (0 : Int32)), (.int (0 : Int32)), (.int (0 : Int32)), (.int (0 : Int32))] (.int (0 : Int32)) := V6
        have N6 := Fr.snoc X6 N4 g_t
        have Z6 : n0 ≤ h6.size := by rw [W6.size]; exact Z4
        have K6 := K4.wr W6 (Or.inl (List.mem_of_getElem? (i := 0) rfl))
        refine g_iinc X6 hx 35 (3 : Int32) #[.val (.ref b), .val (.int (3 : Int32)), .val (.ref t), .val (.int (2 : Int32)), .val (.int (10 : Int32)), .val (.int (2 : Int32)), .val (.int c2)] (hb hby d6_32) rfl (by decide) rfl rfl ?_
        refine g_iinc X6 hx 38 (3 : Int32) #[.val (.ref b), .val (.int (3 : Int32)), .val (.ref t), .val (.int (3 : Int32)), .val (.int (10 : Int32)), .val (.int (2 : Int32)), .val (.int c2)] (hb hby d6_35) rfl (by decide) rfl rfl ?_
        refine g_iinc X6 hx 41 (3 : Int32) #[.val (.ref b), .val (.int (3 : Int32)), .val (.ref t), .val (.int (3 : Int32)), .val (.int (10 : Int32)), .val (.int (3 : Int32)), .val (.int c2)] (hb hby d6_38) rfl (by decide) rfl rfl ?_
        refine g_goto X6 hx 3 (hb hby d6_41) (by decide) (by decide) ?_
        refine g_iload X6 hx 5 (hb hby d6_3) rfl rfl ?_
        refine g_iload X6 hx 7 (hb hby d6_5) rfl rfl ?_
        refine g_icF X6 hx 10 (hb hby d6_7) (by decide) rfl ?_
        refine g_aloadN X6 hx 11 (hb hby d6_10) rfl rfl rfl ?_
        refine g_iloadN X6 hx 12 (hb hby d6_11) rfl rfl ?_
        refine g_caload X6 hx 13 hZ e6 V_b ⟨by decide, by decide⟩ (show _ = (.int c3) from rfl) (hb hby d6_12) rfl ?_
        refine g_istore X6 hx 15 #[.val (.ref b), .val (.int (3 : Int32)), .val (.ref t), .val (.int (3 : Int32)), .val (.int (10 : Int32)), .val (.int (3 : Int32)), .val (.int c3)] (hb hby d6_13) rfl rfl ?_
        refine g_iload X6 hx 17 (hb hby d6_15) rfl rfl ?_
        refine g_sipush X6 hx 20 (255 : Int32) (hb hby d6_17) (by decide) rfl ?_
        by_cases hc7 : (255 : Int32) < c3
        · refine g_icF X6 hx 23 (hb hby d6_20) (tlt hc7).2.2.2 rfl ?_
          refine g_iload X6 hx 25 (hb hby d6_23) rfl rfl ?_
          have hF : own_fst10 c0 c1 c2 c3 c4 c5 c6 c7 c8 c9 = (3 : Int32) := by unfold own_fst10; rw [if_neg hc1, if_neg hc3, if_neg hc5, if_pos hc7]
          exact g_retI X6 hx hret hlk (hb hby d6_25) (by decide) (by decide) (by rw [e6, hF]; exact ⟨rfl, N6, K6, fun q => absurd q (by decide)⟩)
        · refine g_icT X6 hx 26 (hb hby d6_20) (flt hc7).2.2.2 (by decide) (by decide) ?_
          refine g_aloadN X6 hx 27 (hb hby d6_26) rfl rfl rfl ?_
          refine g_iloadN X6 hx 28 (hb hby d6_27) rfl rfl ?_
          refine g_iload X6 hx 30 (hb hby d6_28) rfl rfl ?_
          refine g_i2b X6 hx 31 (c3.toInt8.toInt32) (hb hby d6_30) rfl rfl ?_
          refine g_bastore X6 hx 32 hZ e6 V_t 3 (by decide) ⟨by decide, by decide⟩ (Nat.le_of_ble_eq_true rfl) (hb hby d6_31) rfl (fun T8 h8 X8 e8 W8 V8 => ?_)
          have V_b := V_b.other W8 (Ne.symm ne_t_b)
          have V_t : Arv Z h8 t kT .byte (10 : Int32) [(.int (nar .byte (c0.toInt8.toInt32))), (.int (nar .byte (c1.toInt8.toInt32))), (.int (nar .byte (c2.toInt8.toInt32))), (.int (nar .byte (c3.toInt8.toInt32))), (.int (0 : Int32)), (.int (0 : Int32)), (.int (0 : Int32)), (.int (0 : Int32)), (.int (0 : Int32)), (.int (0 : Int32))] (.int (0 : Int32)) := V8
          have N8 := Fr.snoc X8 N6 g_t
          have Z8 : n0 ≤ h8.size := by rw [W8.size]; exact Z6
          have K8 := K6.wr W8 (Or.inl (List.mem_of_getElem? (i := 0) rfl))
          refine g_iinc X8 hx 35 (4 : Int32) #[.val (.ref b), .val (.int (4 : Int32)), .val (.ref t), .val (.int (3 : Int32)), .val (.int (10 : Int32)), .val (.int (3 : Int32)), .val (.int c3)] (hb hby d6_32) rfl (by decide) rfl rfl ?_
          refine g_iinc X8 hx 38 (4 : Int32) #[.val (.ref b), .val (.int (4 : Int32)), .val (.ref t), .val (.int (4 : Int32)), .val (.int (10 : Int32)), .val (.int (3 : Int32)), .val (.int c3)] (hb hby d6_35) rfl (by decide) rfl rfl ?_
          refine g_iinc X8 hx 41 (4 : Int32) #[.val (.ref b), .val (.int (4 : Int32)), .val (.ref t), .val (.int (4 : Int32)), .val (.int (10 : Int32)), .val (.int (4 : Int32)), .val (.int c3)] (hb hby d6_38) rfl (by decide) rfl rfl ?_
          refine g_goto X8 hx 3 (hb hby d6_41) (by decide) (by decide) ?_
          refine g_iload X8 hx 5 (hb hby d6_3) rfl rfl ?_
          refine g_iload X8 hx 7 (hb hby d6_5) rfl rfl ?_
          refine g_icF X8 hx 10 (hb hby d6_7) (by decide) rfl ?_
          refine g_aloadN X8 hx 11 (hb hby d6_10) rfl rfl rfl ?_
          refine g_iloadN X8 hx 12 (hb hby d6_11) rfl rfl ?_
          refine g_caload X8 hx 13 hZ e8 V_b ⟨by decide, by decide⟩ (show _ = (.int c4) from rfl) (hb hby d6_12) rfl ?_
          refine g_istore X8 hx 15 #[.val (.ref b), .val (.int (4 : Int32)), .val (.ref t), .val (.int (4 : Int32)), .val (.int (10 : Int32)), .val (.int (4 : Int32)), .val (.int c4)] (hb hby d6_13) rfl rfl ?_
          refine g_iload X8 hx 17 (hb hby d6_15) rfl rfl ?_
          refine g_sipush X8 hx 20 (255 : Int32) (hb hby d6_17) (by decide) rfl ?_
          by_cases hc9 : (255 : Int32) < c4
          · refine g_icF X8 hx 23 (hb hby d6_20) (tlt hc9).2.2.2 rfl ?_
            refine g_iload X8 hx 25 (hb hby d6_23) rfl rfl ?_
            have hF : own_fst10 c0 c1 c2 c3 c4 c5 c6 c7 c8 c9 = (4 : Int32) := by unfold own_fst10; rw [if_neg hc1, if_neg hc3, if_neg hc5, if_neg hc7, if_pos hc9]
            exact g_retI X8 hx hret hlk (hb hby d6_25) (by decide) (by decide) (by rw [e8, hF]; exact ⟨rfl, N8, K8, fun q => absurd q (by decide)⟩)
          · refine g_icT X8 hx 26 (hb hby d6_20) (flt hc9).2.2.2 (by decide) (by decide) ?_
            refine g_aloadN X8 hx 27 (hb hby d6_26) rfl rfl rfl ?_
            refine g_iloadN X8 hx 28 (hb hby d6_27) rfl rfl ?_
            refine g_iload X8 hx 30 (hb hby d6_28) rfl rfl ?_
            refine g_i2b X8 hx 31 (c4.toInt8.toInt32) (hb hby d6_30) rfl rfl ?_
            refine g_bastore X8 hx 32 hZ e8 V_t 4 (by decide) ⟨by decide, by decide⟩ (Nat.le_of_ble_eq_true rfl) (hb hby d6_31) rfl (fun T10 h10 X10 e10 W10 V10 => ?_)
            have V_b := V_b.other W10 (Ne.symm ne_t_b)
            have V_t : Arv Z h10 t kT .byte (10 : Int32) [(.int (nar .byte (c0.toInt8.toInt32))), (.int (nar .byte (c1.toInt8.toInt32))), (.int (nar .byte (c2.toInt8.toInt32))), (.int (nar .byte (c3.toInt8.toInt32))), (.int (nar .byte (c4.toInt8.toInt32))), (.int (0 : Int32)), (.int (0 : Int32)), (.int (0 : Int32)), (.int (0 : Int32)), (.int (0 : Int32))] (.int (0 : Int32)) := V10
            have N10 := Fr.snoc X10 N8 g_t
            have Z10 : n0 ≤ h10.size := by rw [W10.size]; exact Z8
            have K10 := K8.wr W10 (Or.inl (List.mem_of_getElem? (i := 0) rfl))
            refine g_iinc X10 hx 35 (5 : Int32) #[.val (.ref b), .val (.int (5 : Int32)), .val (.ref t), .val (.int (4 : Int32)), .val (.int (10 : Int32)), .val (.int (4 : Int32)), .val (.int c4)] (hb hby d6_32) rfl (by decide) rfl rfl ?_
            refine g_iinc X10 hx 38 (5 : Int32) #[.val (.ref b), .val (.int (5 : Int32)), .val (.ref t), .val (.int (5 : Int32)), .val (.int (10 : Int32)), .val (.int (4 : Int32)), .val (.int c4)] (hb hby d6_35) rfl (by decide) rfl rfl ?_
            refine g_iinc X10 hx 41 (5 : Int32) #[.val (.ref b), .val (.int (5 : Int32)), .val (.ref t), .val (.int (5 : Int32)), .val (.int (10 : Int32)), .val (.int (5 : Int32)), .val (.int c4)] (hb hby d6_38) rfl (by decide) rfl rfl ?_
            refine g_goto X10 hx 3 (hb hby d6_41) (by decide) (by decide) ?_
            refine g_iload X10 hx 5 (hb hby d6_3) rfl rfl ?_
            refine g_iload X10 hx 7 (hb hby d6_5) rfl rfl ?_
            refine g_icF X10 hx 10 (hb hby d6_7) (by decide) rfl ?_
            refine g_aloadN X10 hx 11 (hb hby d6_10) rfl rfl rfl ?_
            refine g_iloadN X10 hx 12 (hb hby d6_11) rfl rfl ?_
            refine g_caload X10 hx 13 hZ e10 V_b ⟨by decide, by decide⟩ (show _ = (.int c5) from rfl) (hb hby d6_12) rfl ?_
            refine g_istore X10 hx 15 #[.val (.ref b), .val (.int (5 : Int32)), .val (.ref t), .val (.int (5 : Int32)), .val (.int (10 : Int32)), .val (.int (5 : Int32)), .val (.int c5)] (hb hby d6_13) rfl rfl ?_
            refine g_iload X10 hx 17 (hb hby d6_15) rfl rfl ?_
            refine g_sipush X10 hx 20 (255 : Int32) (hb hby d6_17) (by decide) rfl ?_
            by_cases hc11 : (255 : Int32) < c5
            · refine g_icF X10 hx 23 (hb hby d6_20) (tlt hc11).2.2.2 rfl ?_
              refine g_iload X10 hx 25 (hb hby d6_23) rfl rfl ?_
              have hF : own_fst10 c0 c1 c2 c3 c4 c5 c6 c7 c8 c9 = (5 : Int32) := by unfold own_fst10; rw [if_neg hc1, if_neg hc3, if_neg hc5, if_neg hc7, if_neg hc9, if_pos hc11]
              exact g_retI X10 hx hret hlk (hb hby d6_25) (by decide) (by decide) (by rw [e10, hF]; exact ⟨rfl, N10, K10, fun q => absurd q (by decide)⟩)
            · refine g_icT X10 hx 26 (hb hby d6_20) (flt hc11).2.2.2 (by decide) (by decide) ?_
              refine g_aloadN X10 hx 27 (hb hby d6_26) rfl rfl rfl ?_
              refine g_iloadN X10 hx 28 (hb hby d6_27) rfl rfl ?_
              refine g_iload X10 hx 30 (hb hby d6_28) rfl rfl ?_
              refine g_i2b X10 hx 31 (c5.toInt8.toInt32) (hb hby d6_30) rfl rfl ?_
              refine g_bastore X10 hx 32 hZ e10 V_t 5 (by decide) ⟨by decide, by decide⟩ (Nat.le_of_ble_eq_true rfl) (hb hby d6_31) rfl (fun T12 h12 X12 e12 W12 V12 => ?_)
              have V_b := V_b.other W12 (Ne.symm ne_t_b)
              have V_t : Arv Z h12 t kT .byte (10 : Int32) [(.int (nar .byte (c0.toInt8.toInt32))), (.int (nar .byte (c1.toInt8.toInt32))), (.int (nar .byte (c2.toInt8.toInt32))), (.int (nar .byte (c3.toInt8.toInt32))), (.int (nar .byte (c4.toInt8.toInt32))), (.int (nar .byte (c5.toInt8.toInt32))), (.int (0 : Int32)), (.int (0 : Int32)), (.int (0 : Int32)), (.int (0 : Int32))] (.int (0 : Int32)) := V12
              have N12 := Fr.snoc X12 N10 g_t
              have Z12 : n0 ≤ h12.size := by rw [W12.size]; exact Z10
              have K12 := K10.wr W12 (Or.inl (List.mem_of_getElem? (i := 0) rfl))
              refine g_iinc X12 hx 35 (6 : Int32) #[.val (.ref b), .val (.int (6 : Int32)), .val (.ref t), .val (.int (5 : Int32)), .val (.int (10 : Int32)), .val (.int (5 : Int32)), .val (.int c5)] (hb hby d6_32) rfl (by decide) rfl rfl ?_
              refine g_iinc X12 hx 38 (6 : Int32) #[.val (.ref b), .val (.int (6 : Int32)), .val (.ref t), .val (.int (6 : Int32)), .val (.int (10 : Int32)), .val (.int (5 : Int32)), .val (.int c5)] (hb hby d6_35) rfl (by decide) rfl rfl ?_
              refine g_iinc X12 hx 41 (6 : Int32) #[.val (.ref b), .val (.int (6 : Int32)), .val (.ref t), .val (.int (6 : Int32)), .val (.int (10 : Int32)), .val (.int (6 : Int32)), .val (.int c5)] (hb hby d6_38) rfl (by decide) rfl rfl ?_
              refine g_goto X12 hx 3 (hb hby d6_41) (by decide) (by decide) ?_
              refine g_iload X12 hx 5 (hb hby d6_3) rfl rfl ?_
              refine g_iload X12 hx 7 (hb hby d6_5) rfl rfl ?_
              refine g_icF X12 hx 10 (hb hby d6_7) (by decide) rfl ?_
              refine g_aloadN X12 hx 11 (hb hby d6_10) rfl rfl rfl ?_
              refine g_iloadN X12 hx 12 (hb hby d6_11) rfl rfl ?_
              refine g_caload X12 hx 13 hZ e12 V_b ⟨by decide, by decide⟩ (show _ = (.int c6) from rfl) (hb hby d6_12) rfl ?_
              refine g_istore X12 hx 15 #[.val (.ref b), .val (.int (6 : Int32)), .val (.ref t), .val (.int (6 : Int32)), .val (.int (10 : Int32)), .val (.int (6 : Int32)), .val (.int c6)] (hb hby d6_13) rfl rfl ?_
              refine g_iload X12 hx 17 (hb hby d6_15) rfl rfl ?_
              refine g_sipush X12 hx 20 (255 : Int32) (hb hby d6_17) (by decide) rfl ?_
              by_cases hc13 : (255 : Int32) < c6
              · refine g_icF X12 hx 23 (hb hby d6_20) (tlt hc13).2.2.2 rfl ?_
                refine g_iload X12 hx 25 (hb hby d6_23) rfl rfl ?_
                have hF : own_fst10 c0 c1 c2 c3 c4 c5 c6 c7 c8 c9 = (6 : Int32) := by unfold own_fst10; rw [if_neg hc1, if_neg hc3, if_neg hc5, if_neg hc7, if_neg hc9, if_neg hc11, if_pos hc13]
                exact g_retI X12 hx hret hlk (hb hby d6_25) (by decide) (by decide) (by rw [e12, hF]; exact ⟨rfl, N12, K12, fun q => absurd q (by decide)⟩)
              · refine g_icT X12 hx 26 (hb hby d6_20) (flt hc13).2.2.2 (by decide) (by decide) ?_
                refine g_aloadN X12 hx 27 (hb hby d6_26) rfl rfl rfl ?_
                refine g_iloadN X12 hx 28 (hb hby d6_27) rfl rfl ?_
                refine g_iload X12 hx 30 (hb hby d6_28) rfl rfl ?_
                refine g_i2b X12 hx 31 (c6.toInt8.toInt32) (hb hby d6_30) rfl rfl ?_
                refine g_bastore X12 hx 32 hZ e12 V_t 6 (by decide) ⟨by decide, by decide⟩ (Nat.le_of_ble_eq_true rfl) (hb hby d6_31) rfl (fun T14 h14 X14 e14 W14 V14 => ?_)
                have V_b := V_b.other W14 (Ne.symm ne_t_b)
                have V_t : Arv Z h14 t kT .byte (10 : Int32) [(.int (nar .byte (c0.toInt8.toInt32))), (.int (nar .byte (c1.toInt8.toInt32))), (.int (nar .byte (c2.toInt8.toInt32))), (.int (nar .byte (c3.toInt8.toInt32))), (.int (nar .byte (c4.toInt8.toInt32))), (.int (nar .byte (c5.toInt8.toInt32))), (.int (nar .byte (c6.toInt8.toInt32))), (.int (0 : Int32)), (.int (0 : Int32)), (.int (0 : Int32))] (.int (0 : Int32)) := V14
                have N14 := Fr.snoc X14 N12 g_t
                have Z14 : n0 ≤ h14.size := by rw [W14.size]; exact Z12
                have K14 := K12.wr W14 (Or.inl (List.mem_of_getElem? (i := 0) rfl))
                refine g_iinc X14 hx 35 (7 : Int32) #[.val (.ref b), .val (.int (7 : Int32)), .val (.ref t), .val (.int (6 : Int32)), .val (.int (10 : Int32)), .val (.int (6 : Int32)), .val (.int c6)] (hb hby d6_32) rfl (by decide) rfl rfl ?_
                refine g_iinc X14 hx 38 (7 : Int32) #[.val (.ref b), .val (.int (7 : Int32)), .val (.ref t), .val (.int (7 : Int32)), .val (.int (10 : Int32)), .val (.int (6 : Int32)), .val (.int c6)] (hb hby d6_35) rfl (by decide) rfl rfl ?_
                refine g_iinc X14 hx 41 (7 : Int32) #[.val (.ref b), .val (.int (7 : Int32)), .val (.ref t), .val (.int (7 : Int32)), .val (.int (10 : Int32)), .val (.int (7 : Int32)), .val (.int c6)] (hb hby d6_38) rfl (by decide) rfl rfl ?_
                refine g_goto X14 hx 3 (hb hby d6_41) (by decide) (by decide) ?_
                refine g_iload X14 hx 5 (hb hby d6_3) rfl rfl ?_
                refine g_iload X14 hx 7 (hb hby d6_5) rfl rfl ?_
                refine g_icF X14 hx 10 (hb hby d6_7) (by decide) rfl ?_
                refine g_aloadN X14 hx 11 (hb hby d6_10) rfl rfl rfl ?_
                refine g_iloadN X14 hx 12 (hb hby d6_11) rfl rfl ?_
                refine g_caload X14 hx 13 hZ e14 V_b ⟨by decide, by decide⟩ (show _ = (.int c7) from rfl) (hb hby d6_12) rfl ?_
                refine g_istore X14 hx 15 #[.val (.ref b), .val (.int (7 : Int32)), .val (.ref t), .val (.int (7 : Int32)), .val (.int (10 : Int32)), .val (.int (7 : Int32)), .val (.int c7)] (hb hby d6_13) rfl rfl ?_
                refine g_iload X14 hx 17 (hb hby d6_15) rfl rfl ?_
                refine g_sipush X14 hx 20 (255 : Int32) (hb hby d6_17) (by decide) rfl ?_
                by_cases hc15 : (255 : Int32) < c7
                · refine g_icF X14 hx 23 (hb hby d6_20) (tlt hc15).2.2.2 rfl ?_
                  refine g_iload X14 hx 25 (hb hby d6_23) rfl rfl ?_
                  have hF : own_fst10 c0 c1 c2 c3 c4 c5 c6 c7 c8 c9 = (7 : Int32) := by unfold own_fst10; rw [if_neg hc1, if_neg hc3, if_neg hc5, if_neg hc7, if_neg hc9, if_neg hc11, if_neg hc13, if_pos hc15]
                  exact g_retI X14 hx hret hlk (hb hby d6_25) (by decide) (by decide) (by rw [e14, hF]; exact ⟨rfl, N14, K14, fun q => absurd q (by decide)⟩)
                · refine g_icT X14 hx 26 (hb hby d6_20) (flt hc15).2.2.2 (by decide) (by decide) ?_
                  refine g_aloadN X14 hx 27 (hb hby d6_26) rfl rfl rfl ?_
                  refine g_iloadN X14 hx 28 (hb hby d6_27) rfl rfl ?_
                  refine g_iload X14 hx 30 (hb hby d6_28) rfl rfl ?_
                  refine g_i2b X14 hx 31 (c7.toInt8.toInt32) (hb hby d6_30) rfl rfl ?_
                  refine g_bastore X14 hx 32 hZ e14 V_t 7 (by decide) ⟨by decide, by decide⟩ (Nat.le_of_ble_eq_true rfl) (hb hby d6_31) rfl (fun T16 h16 X16 e16 W16 V16 => ?_)
                  have V_b := V_b.other W16 (Ne.symm ne_t_b)
                  have V_t : Arv Z h16 t kT .byte (10 : Int32) [(.int (nar .byte (c0.toInt8.toInt32))), (.int (nar .byte (c1.toInt8.toInt32))), (.int (nar .byte (c2.toInt8.toInt32))), (.int (nar .byte (c3.toInt8.toInt32))), (.int (nar .byte (c4.toInt8.toInt32))), (.int (nar .byte (c5.toInt8.toInt32))), (.int (nar .byte (c6.toInt8.toInt32))), (.int (nar .byte (c7.toInt8.toInt32))), (.int (0 : Int32)), (.int (0 : Int32))] (.int (0 : Int32)) := V16
                  have N16 := Fr.snoc X16 N14 g_t
                  have Z16 : n0 ≤ h16.size := by rw [W16.size]; exact Z14
                  have K16 := K14.wr W16 (Or.inl (List.mem_of_getElem? (i := 0) rfl))
                  refine g_iinc X16 hx 35 (8 : Int32) #[.val (.ref b), .val (.int (8 : Int32)), .val (.ref t), .val (.int (7 : Int32)), .val (.int (10 : Int32)), .val (.int (7 : Int32)), .val (.int c7)] (hb hby d6_32) rfl (by decide) rfl rfl ?_
                  refine g_iinc X16 hx 38 (8 : Int32) #[.val (.ref b), .val (.int (8 : Int32)), .val (.ref t), .val (.int (8 : Int32)), .val (.int (10 : Int32)), .val (.int (7 : Int32)), .val (.int c7)] (hb hby d6_35) rfl (by decide) rfl rfl ?_
                  refine g_iinc X16 hx 41 (8 : Int32) #[.val (.ref b), .val (.int (8 : Int32)), .val (.ref t), .val (.int (8 : Int32)), .val (.int (10 : Int32)), .val (.int (8 : Int32)), .val (.int c7)] (hb hby d6_38) rfl (by decide) rfl rfl ?_
                  refine g_goto X16 hx 3 (hb hby d6_41) (by decide) (by decide) ?_
                  refine g_iload X16 hx 5 (hb hby d6_3) rfl rfl ?_
                  refine g_iload X16 hx 7 (hb hby d6_5) rfl rfl ?_
                  refine g_icF X16 hx 10 (hb hby d6_7) (by decide) rfl ?_
                  refine g_aloadN X16 hx 11 (hb hby d6_10) rfl rfl rfl ?_
                  refine g_iloadN X16 hx 12 (hb hby d6_11) rfl rfl ?_
                  refine g_caload X16 hx 13 hZ e16 V_b ⟨by decide, by decide⟩ (show _ = (.int c8) from rfl) (hb hby d6_12) rfl ?_
                  refine g_istore X16 hx 15 #[.val (.ref b), .val (.int (8 : Int32)), .val (.ref t), .val (.int (8 : Int32)), .val (.int (10 : Int32)), .val (.int (8 : Int32)), .val (.int c8)] (hb hby d6_13) rfl rfl ?_
                  refine g_iload X16 hx 17 (hb hby d6_15) rfl rfl ?_
                  refine g_sipush X16 hx 20 (255 : Int32) (hb hby d6_17) (by decide) rfl ?_
                  by_cases hc17 : (255 : Int32) < c8
                  · refine g_icF X16 hx 23 (hb hby d6_20) (tlt hc17).2.2.2 rfl ?_
                    refine g_iload X16 hx 25 (hb hby d6_23) rfl rfl ?_
                    have hF : own_fst10 c0 c1 c2 c3 c4 c5 c6 c7 c8 c9 = (8 : Int32) := by unfold own_fst10; rw [if_neg hc1, if_neg hc3, if_neg hc5, if_neg hc7, if_neg hc9, if_neg hc11, if_neg hc13, if_neg hc15, if_pos hc17]
                    exact g_retI X16 hx hret hlk (hb hby d6_25) (by decide) (by decide) (by rw [e16, hF]; exact ⟨rfl, N16, K16, fun q => absurd q (by decide)⟩)
                  · refine g_icT X16 hx 26 (hb hby d6_20) (flt hc17).2.2.2 (by decide) (by decide) ?_
                    refine g_aloadN X16 hx 27 (hb hby d6_26) rfl rfl rfl ?_
                    refine g_iloadN X16 hx 28 (hb hby d6_27) rfl rfl ?_
                    refine g_iload X16 hx 30 (hb hby d6_28) rfl rfl ?_
                    refine g_i2b X16 hx 31 (c8.toInt8.toInt32) (hb hby d6_30) rfl rfl ?_
                    refine g_bastore X16 hx 32 hZ e16 V_t 8 (by decide) ⟨by decide, by decide⟩ (Nat.le_of_ble_eq_true rfl) (hb hby d6_31) rfl (fun T18 h18 X18 e18 W18 V18 => ?_)
                    have V_b := V_b.other W18 (Ne.symm ne_t_b)
                    have V_t : Arv Z h18 t kT .byte (10 : Int32) [(.int (nar .byte (c0.toInt8.toInt32))), (.int (nar .byte (c1.toInt8.toInt32))), (.int (nar .byte (c2.toInt8.toInt32))), (.int (nar .byte (c3.toInt8.toInt32))), (.int (nar .byte (c4.toInt8.toInt32))), (.int (nar .byte (c5.toInt8.toInt32))), (.int (nar .byte (c6.toInt8.toInt32))), (.int (nar .byte (c7.toInt8.toInt32))), (.int (nar .byte (c8.toInt8.toInt32))), (.int (0 : Int32))] (.int (0 : Int32)) := V18
                    have N18 := Fr.snoc X18 N16 g_t
                    have Z18 : n0 ≤ h18.size := by rw [W18.size]; exact Z16
                    have K18 := K16.wr W18 (Or.inl (List.mem_of_getElem? (i := 0) rfl))
                    refine g_iinc X18 hx 35 (9 : Int32) #[.val (.ref b), .val (.int (9 : Int32)), .val (.ref t), .val (.int (8 : Int32)), .val (.int (10 : Int32)), .val (.int (8 : Int32)), .val (.int c8)] (hb hby d6_32) rfl (by decide) rfl rfl ?_
                    refine g_iinc X18 hx 38 (9 : Int32) #[.val (.ref b), .val (.int (9 : Int32)), .val (.ref t), .val (.int (9 : Int32)), .val (.int (10 : Int32)), .val (.int (8 : Int32)), .val (.int c8)] (hb hby d6_35) rfl (by decide) rfl rfl ?_
                    refine g_iinc X18 hx 41 (9 : Int32) #[.val (.ref b), .val (.int (9 : Int32)), .val (.ref t), .val (.int (9 : Int32)), .val (.int (10 : Int32)), .val (.int (9 : Int32)), .val (.int c8)] (hb hby d6_38) rfl (by decide) rfl rfl ?_
                    refine g_goto X18 hx 3 (hb hby d6_41) (by decide) (by decide) ?_
                    refine g_iload X18 hx 5 (hb hby d6_3) rfl rfl ?_
                    refine g_iload X18 hx 7 (hb hby d6_5) rfl rfl ?_
                    refine g_icF X18 hx 10 (hb hby d6_7) (by decide) rfl ?_
                    refine g_aloadN X18 hx 11 (hb hby d6_10) rfl rfl rfl ?_
                    refine g_iloadN X18 hx 12 (hb hby d6_11) rfl rfl ?_
                    refine g_caload X18 hx 13 hZ e18 V_b ⟨by decide, by decide⟩ (show _ = (.int c9) from rfl) (hb hby d6_12) rfl ?_
                    refine g_istore X18 hx 15 #[.val (.ref b), .val (.int (9 : Int32)), .val (.ref t), .val (.int (9 : Int32)), .val (.int (10 : Int32)), .val (.int (9 : Int32)), .val (.int c9)] (hb hby d6_13) rfl rfl ?_
                    refine g_iload X18 hx 17 (hb hby d6_15) rfl rfl ?_
                    refine g_sipush X18 hx 20 (255 : Int32) (hb hby d6_17) (by decide) rfl ?_
                    by_cases hc19 : (255 : Int32) < c9
                    · refine g_icF X18 hx 23 (hb hby d6_20) (tlt hc19).2.2.2 rfl ?_
                      refine g_iload X18 hx 25 (hb hby d6_23) rfl rfl ?_
                      have hF : own_fst10 c0 c1 c2 c3 c4 c5 c6 c7 c8 c9 = (9 : Int32) := by unfold own_fst10; rw [if_neg hc1, if_neg hc3, if_neg hc5, if_neg hc7, if_neg hc9, if_neg hc11, if_neg hc13, if_neg hc15, if_neg hc17, if_pos hc19]
                      exact g_retI X18 hx hret hlk (hb hby d6_25) (by decide) (by decide) (by rw [e18, hF]; exact ⟨rfl, N18, K18, fun q => absurd q (by decide)⟩)
                    · refine g_icT X18 hx 26 (hb hby d6_20) (flt hc19).2.2.2 (by decide) (by decide) ?_
                      refine g_aloadN X18 hx 27 (hb hby d6_26) rfl rfl rfl ?_
                      refine g_iloadN X18 hx 28 (hb hby d6_27) rfl rfl ?_
                      refine g_iload X18 hx 30 (hb hby d6_28) rfl rfl ?_
                      refine g_i2b X18 hx 31 (c9.toInt8.toInt32) (hb hby d6_30) rfl rfl ?_
                      refine g_bastore X18 hx 32 hZ e18 V_t 9 (by decide) ⟨by decide, by decide⟩ (Nat.le_of_ble_eq_true rfl) (hb hby d6_31) rfl (fun T20 h20 X20 e20 W20 V20 => ?_)
                      have V_b := V_b.other W20 (Ne.symm ne_t_b)
                      have V_t : Arv Z h20 t kT .byte (10 : Int32) [(.int (nar .byte (c0.toInt8.toInt32))), (.int (nar .byte (c1.toInt8.toInt32))), (.int (nar .byte (c2.toInt8.toInt32))), (.int (nar .byte (c3.toInt8.toInt32))), (.int (nar .byte (c4.toInt8.toInt32))), (.int (nar .byte (c5.toInt8.toInt32))), (.int (nar .byte (c6.toInt8.toInt32))), (.int (nar .byte (c7.toInt8.toInt32))), (.int (nar .byte (c8.toInt8.toInt32))), (.int (nar .byte (c9.toInt8.toInt32)))] (.int (0 : Int32)) := V20
                      have N20 := Fr.snoc X20 N18 g_t
                      have Z20 : n0 ≤ h20.size := by rw [W20.size]; exact Z18
                      have K20 := K18.wr W20 (Or.inl (List.mem_of_getElem? (i := 0) rfl))
                      refine g_iinc X20 hx 35 (10 : Int32) #[.val (.ref b), .val (.int (10 : Int32)), .val (.ref t), .val (.int (9 : Int32)), .val (.int (10 : Int32)), .val (.int (9 : Int32)), .val (.int c9)] (hb hby d6_32) rfl (by decide) rfl rfl ?_
                      refine g_iinc X20 hx 38 (10 : Int32) #[.val (.ref b), .val (.int (10 : Int32)), .val (.ref t), .val (.int (10 : Int32)), .val (.int (10 : Int32)), .val (.int (9 : Int32)), .val (.int c9)] (hb hby d6_35) rfl (by decide) rfl rfl ?_
                      refine g_iinc X20 hx 41 (10 : Int32) #[.val (.ref b), .val (.int (10 : Int32)), .val (.ref t), .val (.int (10 : Int32)), .val (.int (10 : Int32)), .val (.int (10 : Int32)), .val (.int c9)] (hb hby d6_38) rfl (by decide) rfl rfl ?_
                      refine g_goto X20 hx 3 (hb hby d6_41) (by decide) (by decide) ?_
                      refine g_iload X20 hx 5 (hb hby d6_3) rfl rfl ?_
                      refine g_iload X20 hx 7 (hb hby d6_5) rfl rfl ?_
                      refine g_icT X20 hx 44 (hb hby d6_7) (by decide) (by decide) (by decide) ?_
                      refine g_iload X20 hx 46 (hb hby d6_44) rfl rfl ?_
                      have hF : own_fst10 c0 c1 c2 c3 c4 c5 c6 c7 c8 c9 = (10 : Int32) := by unfold own_fst10; rw [if_neg hc1, if_neg hc3, if_neg hc5, if_neg hc7, if_neg hc9, if_neg hc11, if_neg hc13, if_neg hc15, if_neg hc17, if_neg hc19]
                      exact g_retI X20 hx hret hlk (hb hby d6_46) (by decide) (by decide) (by rw [e20, hF]; exact ⟨rfl, N20, K20, fun _ => V_t⟩)
theorem d5_0 : decode jdk_52_method_16_code 0 = .ok (.iload_n 2, 1) := by decide +kernel
theorem d5_1 : decode jdk_52_method_16_code 1 = .ok (.newarray .byte, 2) := by decide +kernel
theorem d5_3 : decode jdk_52_method_16_code 3 = .ok (.astore_n 3, 1) := by decide +kernel
theorem d5_4 : decode jdk_52_method_16_code 4 = .ok (.aload_n 0, 1) := by decide +kernel
theorem d5_5 : decode jdk_52_method_16_code 5 = .ok (.iload_n 1, 1) := by decide +kernel
theorem d5_6 : decode jdk_52_method_16_code 6 = .ok (.aload_n 3, 1) := by decide +kernel
theorem d5_7 : decode jdk_52_method_16_code 7 = .ok (.iconst 0, 1) := by decide +kernel
theorem d5_8 : decode jdk_52_method_16_code 8 = .ok (.iload_n 2, 1) := by decide +kernel
theorem d5_9 : decode jdk_52_method_16_code 9 = .ok (.invokestatic 115, 3) := by decide +kernel
theorem own_pd0 : parseMethodDescriptor "([CI[BII)I" = some ⟨[(.array .char), .int, (.array .byte), .int, .int], some .int⟩ := by decide +kernel
theorem d5_12 : decode jdk_52_method_16_code 12 = .ok (.istore 4, 2) := by decide +kernel
theorem d5_14 : decode jdk_52_method_16_code 14 = .ok (.iload 4, 2) := by decide +kernel
theorem d5_16 : decode jdk_52_method_16_code 16 = .ok (.iload_n 2, 1) := by decide +kernel
theorem d5_17 : decode jdk_52_method_16_code 17 = .ok (.if_icmp .eq 40, 3) := by decide +kernel
theorem d5_57 : decode jdk_52_method_16_code 57 = .ok (.aload_n 3, 1) := by decide +kernel
theorem d5_58 : decode jdk_52_method_16_code 58 = .ok (.areturn, 1) := by decide +kernel
set_option maxRecDepth 65536 in
set_option maxHeartbeats 40000000 in
theorem rs10_outer (l : Launch) (Z : State) (a0 : Array Value) (hw : ∀ d ∈ tables_1, d.before a0 Z = true) (b : Addr) (c0 c1 c2 c3 c4 c5 c6 c7 c8 c9 : Int32) (kB : ClassId) (h0 : Heap) (n0 : Nat) (Z0 : n0 ≤ h0.size) (V_b : Arv Z h0 b kB .char (10 : Int32) [(.int c0), (.int c1), (.int c2), (.int c3), (.int c4), (.int c5), (.int c6), (.int c7), (.int c8), (.int c9)] (.int (0 : Int32))) (hc0 : ¬ 255 < c0) (hc1 : ¬ 255 < c1) (hc2 : ¬ 255 < c2) (hc3 : ¬ 255 < c3) (hc4 : ¬ 255 < c4) (hc5 : ¬ 255 < c5) (hc6 : ¬ 255 < c6) (hc7 : ¬ 255 < c7) (hc8 : ¬ 255 < c8) (hc9 : ¬ 255 < c9) :
    OwnMet l Z (⟨"java/lang/StringUTF16", "compress", "([CII)[B"⟩ : MethodName) jdk_52_method_16_code 6 (some (.array .byte)) [] ({ frames := 1, cells := 1, slots := 10, locals := 20 } : Room) [(.ref b), (.int (0 : Int32)), (.int (10 : Int32))] h0 (fun v h L => ∃ (t : Addr) (kT : ClassId), v = some (.ref t) ∧ Fr n0 L ∧ Keep h0 h [] ∧ h0.size ≤ t ∧ Arv Z h t kT .byte (10 : Int32) [(.int (nar .byte (c0.toInt8.toInt32))), (.int (nar .byte (c1.toInt8.toInt32))), (.int (nar .byte (c2.toInt8.toInt32))), (.int (nar .byte (c3.toInt8.toInt32))), (.int (nar .byte (c4.toInt8.toInt32))), (.int (nar .byte (c5.toInt8.toInt32))), (.int (nar .byte (c6.toInt8.toInt32))), (.int (nar .byte (c7.toInt8.toInt32))), (.int (nar .byte (c8.toInt8.toInt32))), (.int (nar .byte (c9.toInt8.toInt32)))] (.int (0 : Int32))) := by
  refine own_body (Ls := #[.val (.ref b), .val (.int (0 : Int32)), .val (.int (10 : Int32)), .unset, .unset, .unset]) (plainFor_of_name own_pn0) (fun m => by first | (simp [entryFrame, mkF, argsToLocals, Value.category]; done) | rfl) (fun p e s m below meth cO T0 hx hby hml hown hnm hret hlk hZ X0 e0 => ?_)
  have hown : s.vm.findClass "java/lang/StringUTF16" = some m.cls := hown
  have N0 := Fr.nil n0
  have K0 := Keep.refl h0 []
  refine g_iloadN X0 hx 1 (hb hby d5_0) rfl rfl ?_
  refine g_newP X0 hx 3 hZ (own_w hw 23 rfl) e0 (hb hby d5_1) (by decide) 10 (by decide) (by decide) (by decide) (by decide) rfl (fun T1 h1 b1 kl1 g1 X1 e1 E1 A1 => ?_)
  have ne_b_b1 : b ≠ b1 := Nat.ne_of_lt (Nat.lt_of_lt_of_le V_b.lt (Nat.le_of_eq g1.symm))
  have V_b := V_b.ext E1
  have G_b1 : n0 ≤ b1 := Nat.le_trans Z0 (Nat.le_of_eq g1.symm)
  have Z1 : n0 ≤ h1.size := Nat.le_trans Z0 E1.1
  have SZ_b1 : h0.size ≤ b1 := Nat.le_trans K0.1 (Nat.le_of_eq g1.symm)
  have K1 := K0.ext E1
  have V_b1 : Arv Z h1 b1 kl1 .byte (10 : Int32) [(.int (0 : Int32)), (.int (0 : Int32)), (.int (0 : Int32)), (.int (0 : Int32)), (.int (0 : Int32)), (.int (0 : Int32)), (.int (0 : Int32)), (.int (0 : Int32)), (.int (0 : Int32)), (.int (0 : Int32))] (.int (0 : Int32)) := A1.pad (pad_rep [] (.int (0 : Int32)) 10)
  refine g_astoreN X1 hx 4 #[.val (.ref b), .val (.int (0 : Int32)), .val (.int (10 : Int32)), .val (.ref b1), .unset, .unset] (hb hby d5_3) rfl rfl rfl ?_
  refine g_aloadN X1 hx 5 (hb hby d5_4) rfl rfl rfl ?_
  refine g_iloadN X1 hx 6 (hb hby d5_5) rfl rfl ?_
  refine g_aloadN X1 hx 7 (hb hby d5_6) rfl rfl rfl ?_
  refine g_iconst X1 hx 8 (0 : Int32) (hb hby d5_7) (by decide) rfl ?_
  refine g_iloadN X1 hx 9 (hb hby d5_8) rfl rfl ?_
  refine g_callS X1 hx 12 hZ hown (own_w hw 24 rfl) (own_w hw 25 rfl) (own_w hw 21 rfl) (own_w hw 26 rfl) (by decide) [(.ref b), (.int (0 : Int32)), (.ref b1), (.int (0 : Int32)), (.int (10 : Int32))] [] (ru10_inner l Z a0 hw b b1 c0 c1 c2 c3 c4 c5 c6 c7 c8 c9 kB kl1 h1 n0 Z1 G_b1 V_b V_b1 (Ne.symm ne_b_b1)) e1 0 (by decide) (by decide) (by decide) (by decide) (by rw [hml]; rfl) (lenOf own_pd0 rfl) (hb hby d5_9) rfl (Nat.le_of_eq rfl) rfl (fun v2 T2 L2 X2 hQ2 => ?_)
  obtain ⟨rfl, N2q, K2, V_b1⟩ := hQ2
  have N2 := Fr.app N0 N2q
  have hF : (own_fst10 c0 c1 c2 c3 c4 c5 c6 c7 c8 c9) = (10 : Int32) := own_fst10_n hc0 hc1 hc2 hc3 hc4 hc5 hc6 hc7 hc8 hc9
  have V_b1 := V_b1 hF
  have KK2 : Keep h0 T2.heap [] := K1.trans K2 (allS (Or.inr SZ_b1) all0)
  refine g_istore X2 hx 14 #[.val (.ref b), .val (.int (0 : Int32)), .val (.int (10 : Int32)), .val (.ref b1), .val (.int (own_fst10 c0 c1 c2 c3 c4 c5 c6 c7 c8 c9)), .unset] (hb hby d5_12) rfl rfl ?_
  refine g_iload X2 hx 16 (hb hby d5_14) rfl rfl ?_
  refine g_iloadN X2 hx 17 (hb hby d5_16) rfl rfl ?_
  have hk3 : (own_fst10 c0 c1 c2 c3 c4 c5 c6 c7 c8 c9) = (10 : Int32) := hF
  refine g_icT X2 hx 57 (hb hby d5_17) (teq hk3).1 (by decide) (by decide) ?_
  refine g_aloadN X2 hx 58 (hb hby d5_57) rfl rfl rfl ?_
  exact g_retA X2 hx hret hlk rfl rfl rfl (hb hby d5_58) (by decide) (by decide) ⟨b1, kl1, rfl, N2, KK2, SZ_b1, V_b1⟩
theorem d7_0 : decode jdk_52_method_15_code 0 = .ok (.iload_n 1, 1) := by decide +kernel
theorem d7_1 : decode jdk_52_method_15_code 1 = .ok (.aload_n 0, 1) := by decide +kernel
theorem d7_2 : decode jdk_52_method_15_code 2 = .ok (.arraylength, 1) := by decide +kernel
theorem d7_3 : decode jdk_52_method_15_code 3 = .ok (.isub, 1) := by decide +kernel
theorem d7_4 : decode jdk_52_method_15_code 4 = .ok (.bipush 31, 2) := by decide +kernel
theorem d7_6 : decode jdk_52_method_15_code 6 = .ok (.iushr, 1) := by decide +kernel
theorem d7_7 : decode jdk_52_method_15_code 7 = .ok (.i2b, 1) := by decide +kernel
theorem d7_8 : decode jdk_52_method_15_code 8 = .ok (.ireturn, 1) := by decide +kernel
set_option maxRecDepth 65536 in
set_option maxHeartbeats 40000000 in
theorem rs10_coder (l : Launch) (Z : State) (a0 : Array Value) (hw : ∀ d ∈ tables_1, d.before a0 Z = true) (t : Addr) (kT : ClassId) (vs : List Value) (h0 : Heap) (n0 : Nat) (Z0 : n0 ≤ h0.size) (V_t : Arv Z h0 t kT .byte (10 : Int32) vs (.int (0 : Int32))) :
    OwnMet l Z (⟨"java/lang/StringUTF16", "coderFromArrayLen", "([BI)B"⟩ : MethodName) jdk_52_method_15_code 2 (some .byte) [] ({ frames := 0, cells := 0, slots := 0, locals := 0 } : Room) [(.ref t), (.int (10 : Int32))] h0 (fun v h L => v = some (.int 0) ∧ Fr n0 L ∧ h = h0) := by
  refine own_body (Ls := #[.val (.ref t), .val (.int (10 : Int32))]) (plainFor_of_name own_pn0) (fun m => by first | (simp [entryFrame, mkF, argsToLocals, Value.category]; done) | rfl) (fun p e s m below meth cO T0 hx hby hml hown hnm hret hlk hZ X0 e0 => ?_)
  have hown : s.vm.findClass "java/lang/StringUTF16" = some m.cls := hown
  have N0 := Fr.nil n0
  refine g_iloadN X0 hx 1 (hb hby d7_0) rfl rfl ?_
  refine g_aloadN X0 hx 2 (hb hby d7_1) rfl rfl rfl ?_
  refine g_arraylength X0 hx 3 hZ e0 V_t (hb hby d7_2) rfl ?_
  refine g_isub X0 hx 4 (0 : Int32) (hb hby d7_3) (by decide) rfl ?_
  refine g_bipush X0 hx 6 (31 : Int32) (hb hby d7_4) (by decide) rfl ?_
  refine g_iushr X0 hx 7 (0 : Int32) (hb hby d7_6) (by decide) rfl ?_
  refine g_i2b X0 hx 8 (0 : Int32) (hb hby d7_7) (by decide) rfl ?_
  exact g_retB X0 hx hret hlk rfl (hb hby d7_8) (by decide) (by decide) ⟨rfl, N0, e0⟩
theorem own_pn1 : plainName "java/lang/String" = true := by first | (simp [plainName, overriddenIn]; done) | decide +kernel
theorem d3_0 : decode jdk_42_method_149_code 0 = .ok (.aload_n 0, 1) := by decide +kernel
theorem d3_1 : decode jdk_42_method_149_code 1 = .ok (.invokespecial 1, 3) := by decide +kernel
theorem d3_4 : decode jdk_42_method_149_code 4 = .ok (.iload_n 3, 1) := by decide +kernel
theorem d3_5 : decode jdk_42_method_149_code 5 = .ok (.ifCond .ne 22, 3) := by decide +kernel
theorem d3_27 : decode jdk_42_method_149_code 27 = .ok (.getstatic 38, 3) := by decide +kernel
theorem d3_30 : decode jdk_42_method_149_code 30 = .ok (.ifCond .eq 28, 3) := by decide +kernel
theorem d3_33 : decode jdk_42_method_149_code 33 = .ok (.aload_n 1, 1) := by decide +kernel
theorem d3_34 : decode jdk_42_method_149_code 34 = .ok (.iload_n 2, 1) := by decide +kernel
theorem d3_35 : decode jdk_42_method_149_code 35 = .ok (.iload_n 3, 1) := by decide +kernel
theorem d3_36 : decode jdk_42_method_149_code 36 = .ok (.invokestatic 177, 3) := by decide +kernel
theorem own_pd1 : parseMethodDescriptor "([CII)[B" = some ⟨[(.array .char), .int, .int], some (.array .byte)⟩ := by decide +kernel
theorem d3_39 : decode jdk_42_method_149_code 39 = .ok (.astore 5, 2) := by decide +kernel
theorem d3_41 : decode jdk_42_method_149_code 41 = .ok (.aload_n 0, 1) := by decide +kernel
theorem d3_42 : decode jdk_42_method_149_code 42 = .ok (.aload 5, 2) := by decide +kernel
theorem d3_44 : decode jdk_42_method_149_code 44 = .ok (.iload_n 3, 1) := by decide +kernel
theorem d3_45 : decode jdk_42_method_149_code 45 = .ok (.invokestatic 47, 3) := by decide +kernel
theorem own_pd2 : parseMethodDescriptor "([BI)B" = some ⟨[(.array .byte), .int], some .byte⟩ := by decide +kernel
theorem d3_48 : decode jdk_42_method_149_code 48 = .ok (.putfield 15, 3) := by decide +kernel
theorem d3_51 : decode jdk_42_method_149_code 51 = .ok (.aload_n 0, 1) := by decide +kernel
theorem d3_52 : decode jdk_42_method_149_code 52 = .ok (.aload 5, 2) := by decide +kernel
theorem d3_54 : decode jdk_42_method_149_code 54 = .ok (.putfield 9, 3) := by decide +kernel
theorem d3_57 : decode jdk_42_method_149_code 57 = .ok (.return_, 1) := by decide +kernel
set_option maxRecDepth 65536 in
set_option maxHeartbeats 40000000 in
theorem rs10_init2 (l : Launch) (Z : State) (a0 : Array Value) (hw : ∀ d ∈ tables_1, d.before a0 Z = true) (a b : Addr) (cs : Int32) (c0 c1 c2 c3 c4 c5 c6 c7 c8 c9 : Int32) (kB : ClassId) (u1 u2 : Value) (h0 : Heap) (n0 : Nat) (Z0 : n0 ≤ h0.size) (g_a : n0 ≤ a) (S_cs : Sta Z h0 "java/lang/String" "COMPACT_STRINGS" "Z" (.int cs)) (hcs : ¬ cs = 0) (E_a : Exa Z h0 a "java/lang/String") (F_v : Fld Z h0 a "java/lang/String" "value" "[B" u1) (F_c : Fld Z h0 a "java/lang/String" "coder" "B" u2) (V_b : Arv Z h0 b kB .char (10 : Int32) [(.int c0), (.int c1), (.int c2), (.int c3), (.int c4), (.int c5), (.int c6), (.int c7), (.int c8), (.int c9)] (.int (0 : Int32))) (hc0 : ¬ 255 < c0) (hc1 : ¬ 255 < c1) (hc2 : ¬ 255 < c2) (hc3 : ¬ 255 < c3) (hc4 : ¬ 255 < c4) (hc5 : ¬ 255 < c5) (hc6 : ¬ 255 < c6) (hc7 : ¬ 255 < c7) (hc8 : ¬ 255 < c8) (hc9 : ¬ 255 < c9) :
    OwnMet l Z (⟨"java/lang/String", "<init>", "([CIILjava/lang/Void;)V"⟩ : MethodName) jdk_42_method_149_code 6 none [] ({ frames := 2, cells := 1, slots := 10, locals := 40 } : Room) [(.ref a), (.ref b), (.int (0 : Int32)), (.int (10 : Int32)), .null] h0 (fun v h L => v = none ∧ Fr n0 L ∧ Keep h0 h [a] ∧ ∃ (t : Addr) (kT : ClassId), h0.size ≤ t ∧ Exa Z h a "java/lang/String" ∧ Fld Z h a "java/lang/String" "value" "[B" (.ref t) ∧ Fld Z h a "java/lang/String" "coder" "B" (.int 0) ∧ Arv Z h t kT .byte (10 : Int32) [(.int (nar .byte (c0.toInt8.toInt32))), (.int (nar .byte (c1.toInt8.toInt32))), (.int (nar .byte (c2.toInt8.toInt32))), (.int (nar .byte (c3.toInt8.toInt32))), (.int (nar .byte (c4.toInt8.toInt32))), (.int (nar .byte (c5.toInt8.toInt32))), (.int (nar .byte (c6.toInt8.toInt32))), (.int (nar .byte (c7.toInt8.toInt32))), (.int (nar .byte (c8.toInt8.toInt32))), (.int (nar .byte (c9.toInt8.toInt32)))] (.int (0 : Int32))) := by
  refine own_body (Ls := #[.val (.ref a), .val (.ref b), .val (.int (0 : Int32)), .val (.int (10 : Int32)), .val .null, .unset]) (plainFor_of_name own_pn1) (fun m => by first | (simp [entryFrame, mkF, argsToLocals, Value.category]; done) | rfl) (fun p e s m below meth cO T0 hx hby hml hown hnm hret hlk hZ X0 e0 => ?_)
  have hown : s.vm.findClass "java/lang/String" = some m.cls := hown
  have N0 := Fr.nil n0
  have K0 := Keep.refl h0 [a]
  refine g_aloadN X0 hx 1 (hb hby d3_0) rfl rfl rfl ?_
  refine g_initO X0 hx 4 hZ hown (own_w hw 15 rfl) (own_w hw 16 rfl) (own_w hw 17 rfl) e0 (by rw [hml]; rfl) (hb hby d3_1) (by decide) 0 (Nat.le_of_eq rfl) (by decide) rfl (fun T1 X1 e1 => ?_)
  refine g_iloadN X1 hx 5 (hb hby d3_4) rfl rfl ?_
  refine g_ifT X1 hx 27 (hb hby d3_5) (by decide) (by decide) (by decide) ?_
  refine g_getS X1 hx 30 hZ hown (host := "") (Or.inl (own_w hw 18 rfl)) Via.refl e1 S_cs (hb hby d3_27) rfl (fun T2 X2 e2 => ?_)
  have hk3 : ¬ (cs = (0 : Int32)) := hcs
  refine g_ifF X2 hx 33 (hb hby d3_30) ((if0 _ _).trans (feq hk3).1) rfl ?_
  refine g_aloadN X2 hx 34 (hb hby d3_33) rfl rfl rfl ?_
  refine g_iloadN X2 hx 35 (hb hby d3_34) rfl rfl ?_
  refine g_iloadN X2 hx 36 (hb hby d3_35) rfl rfl ?_
  refine g_callS X2 hx 39 hZ hown (own_w hw 19 rfl) (own_w hw 20 rfl) (own_w hw 21 rfl) (own_w hw 22 rfl) (by decide) [(.ref b), (.int (0 : Int32)), (.int (10 : Int32))] [] (rs10_outer l Z a0 hw b c0 c1 c2 c3 c4 c5 c6 c7 c8 c9 kB h0 n0 Z0 V_b hc0 hc1 hc2 hc3 hc4 hc5 hc6 hc7 hc8 hc9) e2 0 (by decide) (by decide) (by decide) (by decide) (by rw [hml]; rfl) (lenOf own_pd1 rfl) (hb hby d3_36) rfl (Nat.le_of_eq rfl) rfl (fun v4 T4 L4 X4 hQ4 => ?_)
  obtain ⟨t, kT, rfl, N4q, K4, hst, V_t⟩ := hQ4
  have N4 := Fr.app N0 N4q
  have E_a := E_a.keep K4
  have F_v := F_v.keep K4 nin0
  have F_c := F_c.keep K4 nin0
  have V_b := V_b.keep K4 nin0
  have KK4 := K0.trans K4 all0
  have Z4 := Nat.le_trans Z0 K4.1
  have ne_t_a : t ≠ a := Ne.symm (Exa.neArv E_a V_t (own_w hw 6 rfl))
  have ne_b_a : b ≠ a := Ne.symm (Exa.neArv E_a V_b (own_w hw 6 rfl))
  refine g_astore X4 hx 41 #[.val (.ref a), .val (.ref b), .val (.int (0 : Int32)), .val (.int (10 : Int32)), .val .null, .val (.ref t)] (hb hby d3_39) rfl rfl rfl ?_
  refine g_aloadN X4 hx 42 (hb hby d3_41) rfl rfl rfl ?_
  refine g_aload X4 hx 44 (hb hby d3_42) rfl rfl rfl ?_
  refine g_iloadN X4 hx 45 (hb hby d3_44) rfl rfl ?_
  refine g_callS X4 hx 48 hZ hown (own_w hw 27 rfl) (own_w hw 28 rfl) (own_w hw 21 rfl) (own_w hw 29 rfl) (by decide) [(.ref t), (.int (10 : Int32))] [(.ref a)] (rs10_coder l Z a0 hw t kT _ T4.heap n0 Z4 V_t) rfl 1 (by decide) (by decide) (by decide) (by decide) (by rw [hml]; rfl) (lenOf own_pd2 rfl) (hb hby d3_45) rfl (Nat.le_of_eq rfl) rfl (fun v5 T5 L5 X5 hQ5 => ?_)
  obtain ⟨rfl, N5q, e5⟩ := hQ5
  have N5 := Fr.app N4 N5q
  refine g_putF X5 hx 51 hZ hown (host := "") (Or.inl (own_w hw 30 rfl)) Via.refl e5 F_c E_a (Or.inr ⟨(own_w hw 31 rfl), rfl, hnm⟩) (own_w hw 6 rfl) (ty := .byte) (by decide) rfl rfl (hb hby d3_48) rfl (fun T6 h6 X6 e6 W6 => ?_)
  have E_a := E_a.wr W6
  have F_v := F_v.other W6 (Or.inr (slot_ne (Or.inr (own_w hw 33 rfl)) (Or.inr (own_w hw 31 rfl)) (by decide) (t := (.array .byte)) (t' := .byte) (by decide) (by decide)))
  have F_c := F_c.same W6
  have V_b := V_b.other W6 ne_b_a
  have V_t := V_t.other W6 ne_t_a
  have N6 := Fr.snoc X6 N5 g_a
  have Z6 : n0 ≤ h6.size := by rw [W6.size]; exact Z4
  have K6 := KK4.wr W6 (Or.inl (List.mem_of_getElem? (i := 0) rfl))
  refine g_aloadN X6 hx 52 (hb hby d3_51) rfl rfl rfl ?_
  refine g_aload X6 hx 54 (hb hby d3_52) rfl rfl rfl ?_
  refine g_putF X6 hx 57 hZ hown (host := "") (Or.inl (own_w hw 32 rfl)) Via.refl e6 F_v E_a (Or.inr ⟨(own_w hw 33 rfl), rfl, hnm⟩) (own_w hw 6 rfl) (ty := (.array .byte)) (by decide) rfl rfl (hb hby d3_54) rfl (fun T7 h7 X7 e7 W7 => ?_)
  have E_a := E_a.wr W7
  have F_v := F_v.same W7
  have F_c := F_c.other W7 (Or.inr (slot_ne (Or.inr (own_w hw 31 rfl)) (Or.inr (own_w hw 33 rfl)) (by decide) (t := .byte) (t' := (.array .byte)) (by decide) (by decide)))
  have V_b := V_b.other W7 ne_b_a
  have V_t := V_t.other W7 ne_t_a
  have N7 := Fr.snoc X7 N6 g_a
  have Z7 : n0 ≤ h7.size := by rw [W7.size]; exact Z6
  have K7 := K6.wr W7 (Or.inl (List.mem_of_getElem? (i := 0) rfl))
  exact g_retV X7 hx hret hlk (hb hby d3_57) (by decide) (by decide) (by rw [e7]; exact ⟨rfl, N7, K7, t, kT, hst, E_a, F_v, F_c, V_t⟩)
theorem d2_0 : decode jdk_42_method_3_code 0 = .ok (.aload_n 0, 1) := by decide +kernel
theorem d2_1 : decode jdk_42_method_3_code 1 = .ok (.aload_n 1, 1) := by decide +kernel
theorem d2_2 : decode jdk_42_method_3_code 2 = .ok (.iconst 0, 1) := by decide +kernel
theorem d2_3 : decode jdk_42_method_3_code 3 = .ok (.aload_n 1, 1) := by decide +kernel
theorem d2_4 : decode jdk_42_method_3_code 4 = .ok (.arraylength, 1) := by decide +kernel
theorem d2_5 : decode jdk_42_method_3_code 5 = .ok (.aconst_null, 1) := by decide +kernel
theorem d2_6 : decode jdk_42_method_3_code 6 = .ok (.invokespecial 27, 3) := by decide +kernel
theorem own_pd3 : parseMethodDescriptor "([CIILjava/lang/Void;)V" = some ⟨[(.array .char), .int, .int, (.object "java/lang/Void")], none⟩ := by decide +kernel
theorem d2_9 : decode jdk_42_method_3_code 9 = .ok (.return_, 1) := by decide +kernel
set_option maxRecDepth 65536 in
set_option maxHeartbeats 40000000 in
theorem rs10_init1 (l : Launch) (Z : State) (a0 : Array Value) (hw : ∀ d ∈ tables_1, d.before a0 Z = true) (a b : Addr) (cs : Int32) (c0 c1 c2 c3 c4 c5 c6 c7 c8 c9 : Int32) (kB : ClassId) (u1 u2 : Value) (h0 : Heap) (n0 : Nat) (Z0 : n0 ≤ h0.size) (g_a : n0 ≤ a) (S_cs : Sta Z h0 "java/lang/String" "COMPACT_STRINGS" "Z" (.int cs)) (hcs : ¬ cs = 0) (E_a : Exa Z h0 a "java/lang/String") (F_v : Fld Z h0 a "java/lang/String" "value" "[B" u1) (F_c : Fld Z h0 a "java/lang/String" "coder" "B" u2) (V_b : Arv Z h0 b kB .char (10 : Int32) [(.int c0), (.int c1), (.int c2), (.int c3), (.int c4), (.int c5), (.int c6), (.int c7), (.int c8), (.int c9)] (.int (0 : Int32))) (hc0 : ¬ 255 < c0) (hc1 : ¬ 255 < c1) (hc2 : ¬ 255 < c2) (hc3 : ¬ 255 < c3) (hc4 : ¬ 255 < c4) (hc5 : ¬ 255 < c5) (hc6 : ¬ 255 < c6) (hc7 : ¬ 255 < c7) (hc8 : ¬ 255 < c8) (hc9 : ¬ 255 < c9) :
    OwnMet l Z (⟨"java/lang/String", "<init>", "([C)V"⟩ : MethodName) jdk_42_method_3_code 2 none [] ({ frames := 3, cells := 1, slots := 10, locals := 60 } : Room) [(.ref a), (.ref b)] h0 (fun v h L => v = none ∧ Fr n0 L ∧ Keep h0 h [a] ∧ ∃ (t : Addr) (kT : ClassId), h0.size ≤ t ∧ Exa Z h a "java/lang/String" ∧ Fld Z h a "java/lang/String" "value" "[B" (.ref t) ∧ Fld Z h a "java/lang/String" "coder" "B" (.int 0) ∧ Arv Z h t kT .byte (10 : Int32) [(.int (nar .byte (c0.toInt8.toInt32))), (.int (nar .byte (c1.toInt8.toInt32))), (.int (nar .byte (c2.toInt8.toInt32))), (.int (nar .byte (c3.toInt8.toInt32))), (.int (nar .byte (c4.toInt8.toInt32))), (.int (nar .byte (c5.toInt8.toInt32))), (.int (nar .byte (c6.toInt8.toInt32))), (.int (nar .byte (c7.toInt8.toInt32))), (.int (nar .byte (c8.toInt8.toInt32))), (.int (nar .byte (c9.toInt8.toInt32)))] (.int (0 : Int32))) := by
  refine own_body (Ls := #[.val (.ref a), .val (.ref b)]) (plainFor_of_name own_pn1) (fun m => by first | (simp [entryFrame, mkF, argsToLocals, Value.category]; done) | rfl) (fun p e s m below meth cO T0 hx hby hml hown hnm hret hlk hZ X0 e0 => ?_)
  have hown : s.vm.findClass "java/lang/String" = some m.cls := hown
  have N0 := Fr.nil n0
  refine g_aloadN X0 hx 1 (hb hby d2_0) rfl rfl rfl ?_
  refine g_aloadN X0 hx 2 (hb hby d2_1) rfl rfl rfl ?_
  refine g_iconst X0 hx 3 (0 : Int32) (hb hby d2_2) (by decide) rfl ?_
  refine g_aloadN X0 hx 4 (hb hby d2_3) rfl rfl rfl ?_
  refine g_arraylength X0 hx 5 hZ e0 V_b (hb hby d2_4) rfl ?_
  refine g_aconst_null X0 hx 6 (hb hby d2_5) rfl ?_
  refine g_callI X0 hx 9 hZ rfl hown (own_w hw 11 rfl) (own_w hw 12 rfl) (own_w hw 7 rfl) (own_w hw 14 rfl) (by decide) a [(.ref b), (.int (0 : Int32)), (.int (10 : Int32)), .null] [] (rs10_init2 l Z a0 hw a b cs c0 c1 c2 c3 c4 c5 c6 c7 c8 c9 kB u1 u2 h0 n0 Z0 g_a S_cs hcs E_a F_v F_c V_b hc0 hc1 hc2 hc3 hc4 hc5 hc6 hc7 hc8 hc9) e0 0 (by decide) (by decide) (by decide) (by decide) (by rw [hml]; rfl) (lenOf own_pd3 rfl) (hb hby d2_6) rfl (Nat.le_of_eq rfl) rfl (fun v1 T1 L1 X1 hQ1 => ?_)
  obtain ⟨rfl, N1q, hR1⟩ := hQ1
  have N1 := Fr.app N0 N1q
  exact g_retV X1 hx hret hlk (hb hby d2_9) (by decide) (by decide) ⟨rfl, N1, hR1⟩
def own_fst11 (c0 c1 c2 c3 c4 c5 c6 c7 c8 c9 c10 : Int32) : Int32 := if 255 < c0 then 0 else if 255 < c1 then 1 else if 255 < c2 then 2 else if 255 < c3 then 3 else if 255 < c4 then 4 else if 255 < c5 then 5 else if 255 < c6 then 6 else if 255 < c7 then 7 else if 255 < c8 then 8 else if 255 < c9 then 9 else if 255 < c10 then 10 else 11
theorem own_fst11_n {c0 c1 c2 c3 c4 c5 c6 c7 c8 c9 c10 : Int32} (hc0 : ¬ 255 < c0) (hc1 : ¬ 255 < c1) (hc2 : ¬ 255 < c2) (hc3 : ¬ 255 < c3) (hc4 : ¬ 255 < c4) (hc5 : ¬ 255 < c5) (hc6 : ¬ 255 < c6) (hc7 : ¬ 255 < c7) (hc8 : ¬ 255 < c8) (hc9 : ¬ 255 < c9) (hc10 : ¬ 255 < c10) : own_fst11 c0 c1 c2 c3 c4 c5 c6 c7 c8 c9 c10 = (11 : Int32) := by unfold own_fst11; rw [if_neg hc0, if_neg hc1, if_neg hc2, if_neg hc3, if_neg hc4, if_neg hc5, if_neg hc6, if_neg hc7, if_neg hc8, if_neg hc9, if_neg hc10]
set_option maxRecDepth 65536 in
set_option maxHeartbeats 40000000 in
theorem ru11_inner (l : Launch) (Z : State) (a0 : Array Value) (hw : ∀ d ∈ tables_1, d.before a0 Z = true) (b t : Addr) (c0 c1 c2 c3 c4 c5 c6 c7 c8 c9 c10 : Int32) (kB kT : ClassId) (h0 : Heap) (n0 : Nat) (Z0 : n0 ≤ h0.size) (g_t : n0 ≤ t) (V_b : Arv Z h0 b kB .char (11 : Int32) [(.int c0), (.int c1), (.int c2), (.int c3), (.int c4), (.int c5), (.int c6), (.int c7), (.int c8), (.int c9), (.int c10)] (.int (0 : Int32))) (V_t : Arv Z h0 t kT .byte (11 : Int32) [(.int (0 : Int32)), (.int (0 : Int32)), (.int (0 : Int32)), (.int (0 : Int32)), (.int (0 : Int32)), (.int (0 : Int32)), (.int (0 : Int32)), (.int (0 : Int32)), (.int (0 : Int32)), (.int (0 : Int32)), (.int (0 : Int32))] (.int (0 : Int32))) (ne_t_b : t ≠ b) :
    OwnMet l Z (⟨"java/lang/StringUTF16", "compress", "([CI[BII)I"⟩ : MethodName) jdk_52_method_21_code 7 (some .int) [] ({ frames := 0, cells := 0, slots := 0, locals := 0 } : Room) [(.ref b), (.int (0 : Int32)), (.ref t), (.int (0 : Int32)), (.int (11 : Int32))] h0 (fun v h L => v = some (.int (own_fst11 c0 c1 c2 c3 c4 c5 c6 c7 c8 c9 c10)) ∧ Fr n0 L ∧ Keep h0 h [t] ∧ (own_fst11 c0 c1 c2 c3 c4 c5 c6 c7 c8 c9 c10 = (11 : Int32) → Arv Z h t kT .byte (11 : Int32) [(.int (own_bt c0)), (.int (own_bt c1)), (.int (own_bt c2)), (.int (own_bt c3)), (.int (own_bt c4)), (.int (own_bt c5)), (.int (own_bt c6)), (.int (own_bt c7)), (.int (own_bt c8)), (.int (own_bt c9)), (.int (own_bt c10))] (.int (0 : Int32)))) := by
  refine own_body (Ls := #[.val (.ref b), .val (.int (0 : Int32)), .val (.ref t), .val (.int (0 : Int32)), .val (.int (11 : Int32)), .unset, .unset]) (plainFor_of_name own_pn0) (fun m => by first | (simp [entryFrame, mkF, argsToLocals, Value.category]; done) | rfl) (fun p e s m below meth cO T0 hx hby hml hown hnm hret hlk hZ X0 e0 => ?_)
  have hown : s.vm.findClass "java/lang/StringUTF16" = some m.cls := hown
  have N0 := Fr.nil n0
  have K0 := Keep.refl h0 [t]
  refine g_iconst X0 hx 1 (0 : Int32) (hb hby d6_0) (by decide) rfl ?_
  refine g_istore X0 hx 3 #[.val (.ref b), .val (.int (0 : Int32)), .val (.ref t), .val (.int (0 : Int32)), .val (.int (11 : Int32)), .val (.int (0 : Int32)), .unset] (hb hby d6_1) rfl rfl ?_
  refine g_iload X0 hx 5 (hb hby d6_3) rfl rfl ?_
  refine g_iload X0 hx 7 (hb hby d6_5) rfl rfl ?_
  refine g_icF X0 hx 10 (hb hby d6_7) (by decide) rfl ?_
  refine g_aloadN X0 hx 11 (hb hby d6_10) rfl rfl rfl ?_
  refine g_iloadN X0 hx 12 (hb hby d6_11) rfl rfl ?_
  refine g_caload X0 hx 13 hZ e0 V_b ⟨by decide, by decide⟩ (show _ = (.int c0) from rfl) (hb hby d6_12) rfl ?_
  refine g_istore X0 hx 15 #[.val (.ref b), .val (.int (0 : Int32)), .val (.ref t), .val (.int (0 : Int32)), .val (.int (11 : Int32)), .val (.int (0 : Int32)), .val (.int c0)] (hb hby d6_13) rfl rfl ?_
  refine g_iload X0 hx 17 (hb hby d6_15) rfl rfl ?_
  refine g_sipush X0 hx 20 (255 : Int32) (hb hby d6_17) (by decide) rfl ?_
  by_cases hc1 : (255 : Int32) < c0
  · refine g_icF X0 hx 23 (hb hby d6_20) (tlt hc1).2.2.2 rfl ?_
    refine g_iload X0 hx 25 (hb hby d6_23) rfl rfl ?_
    have hF : own_fst11 c0 c1 c2 c3 c4 c5 c6 c7 c8 c9 c10 = (0 : Int32) := by unfold own_fst11; rw [if_pos hc1]
    exact g_retI X0 hx hret hlk (hb hby d6_25) (by decide) (by decide) (by rw [e0, hF]; exact ⟨rfl, N0, K0, fun q => absurd q (by decide)⟩)
  · refine g_icT X0 hx 26 (hb hby d6_20) (flt hc1).2.2.2 (by decide) (by decide) ?_
    refine g_aloadN X0 hx 27 (hb hby d6_26) rfl rfl rfl ?_
    refine g_iloadN X0 hx 28 (hb hby d6_27) rfl rfl ?_
    refine g_iload X0 hx 30 (hb hby d6_28) rfl rfl ?_
    refine g_i2b X0 hx 31 (c0.toInt8.toInt32) (hb hby d6_30) rfl rfl ?_
    refine g_bastore X0 hx 32 hZ e0 V_t 0 (by decide) ⟨by decide, by decide⟩ (Nat.le_of_ble_eq_true rfl) (hb hby d6_31) rfl (fun T2 h2 X2 e2 W2 V2 => ?_)
    have V_b := V_b.other W2 (Ne.symm ne_t_b)
    have V_t : Arv Z h2 t kT .byte (11 : Int32) [(.int (nar .byte (c0.toInt8.toInt32))), (.int (0 : Int32)), (.int (0 : Int32)), (.int (0 : Int32)), (.int (0 : Int32)), (.int (0 : Int32)), (.int (0 : Int32)), (.int (0 : Int32)), (.int (0 : Int32)), (.int (0 : Int32)), (.int (0 : Int32))] (.int (0 : Int32)) := V2
    have N2 := Fr.snoc X2 N0 g_t
    have Z2 : n0 ≤ h2.size := by rw [W2.size]; exact Z0
    have K2 := K0.wr W2 (Or.inl (List.mem_of_getElem? (i := 0) rfl))
    refine g_iinc X2 hx 35 (1 : Int32) #[.val (.ref b), .val (.int (1 : Int32)), .val (.ref t), .val (.int (0 : Int32)), .val (.int (11 : Int32)), .val (.int (0 : Int32)), .val (.int c0)] (hb hby d6_32) rfl (by decide) rfl rfl ?_
    refine g_iinc X2 hx 38 (1 : Int32) #[.val (.ref b), .val (.int (1 : Int32)), .val (.ref t), .val (.int (1 : Int32)), .val (.int (11 : Int32)), .val (.int (0 : Int32)), .val (.int c0)] (hb hby d6_35) rfl (by decide) rfl rfl ?_
    refine g_iinc X2 hx 41 (1 : Int32) #[.val (.ref b), .val (.int (1 : Int32)), .val (.ref t), .val (.int (1 : Int32)), .val (.int (11 : Int32)), .val (.int (1 : Int32)), .val (.int c0)] (hb hby d6_38) rfl (by decide) rfl rfl ?_
    refine g_goto X2 hx 3 (hb hby d6_41) (by decide) (by decide) ?_
    refine g_iload X2 hx 5 (hb hby d6_3) rfl rfl ?_
    refine g_iload X2 hx 7 (hb hby d6_5) rfl rfl ?_
    refine g_icF X2 hx 10 (hb hby d6_7) (by decide) rfl ?_
    refine g_aloadN X2 hx 11 (hb hby d6_10) rfl rfl rfl ?_
    refine g_iloadN X2 hx 12 (hb hby d6_11) rfl rfl ?_
    refine g_caload X2 hx 13 hZ e2 V_b ⟨by decide, by decide⟩ (show _ = (.int c1) from rfl) (hb hby d6_12) rfl ?_
    refine g_istore X2 hx 15 #[.val (.ref b), .val (.int (1 : Int32)), .val (.ref t), .val (.int (1 : Int32)), .val (.int (11 : Int32)), .val (.int (1 : Int32)), .val (.int c1)] (hb hby d6_13) rfl rfl ?_
    refine g_iload X2 hx 17 (hb hby d6_15) rfl rfl ?_
    refine g_sipush X2 hx 20 (255 : Int32) (hb hby d6_17) (by decide) rfl ?_
    by_cases hc3 : (255 : Int32) < c1
    · refine g_icF X2 hx 23 (hb hby d6_20) (tlt hc3).2.2.2 rfl ?_
      refine g_iload X2 hx 25 (hb hby d6_23) rfl rfl ?_
      have hF : own_fst11 c0 c1 c2 c3 c4 c5 c6 c7 c8 c9 c10 = (1 : Int32) := by unfold own_fst11; rw [if_neg hc1, if_pos hc3]
      exact g_retI X2 hx hret hlk (hb hby d6_25) (by decide) (by decide) (by rw [e2, hF]; exact ⟨rfl, N2, K2, fun q => absurd q (by decide)⟩)
    · refine g_icT X2 hx 26 (hb hby d6_20) (flt hc3).2.2.2 (by decide) (by decide) ?_
      refine g_aloadN X2 hx 27 (hb hby d6_26) rfl rfl rfl ?_
      refine g_iloadN X2 hx 28 (hb hby d6_27) rfl rfl ?_
      refine g_iload X2 hx 30 (hb hby d6_28) rfl rfl ?_
      refine g_i2b X2 hx 31 (c1.toInt8.toInt32) (hb hby d6_30) rfl rfl ?_
      refine g_bastore X2 hx 32 hZ e2 V_t 1 (by decide) ⟨by decide, by decide⟩ (Nat.le_of_ble_eq_true rfl) (hb hby d6_31) rfl (fun T4 h4 X4 e4 W4 V4 => ?_)
      have V_b := V_b.other W4 (Ne.symm ne_t_b)
      have V_t : Arv Z h4 t kT .byte (11 : Int32) [(.int (nar .byte (c0.toInt8.toInt32))), (.int (nar .byte (c1.toInt8.toInt32))), (.int (0 : Int32)), (.int (0 : Int32)), (.int (0 : Int32)), (.int (0 : Int32)), (.int (0 : Int32)), (.int (0 : Int32)), (.int (0 : Int32)), (.int (0 : Int32)), (.int (0 : Int32))] (.int (0 : Int32)) := V4
      have N4 := Fr.snoc X4 N2 g_t
      have Z4 : n0 ≤ h4.size := by rw [W4.size]; exact Z2
      have K4 := K2.wr W4 (Or.inl (List.mem_of_getElem? (i := 0) rfl))
      refine g_iinc X4 hx 35 (2 : Int32) #[.val (.ref b), .val (.int (2 : Int32)), .val (.ref t), .val (.int (1 : Int32)), .val (.int (11 : Int32)), .val (.int (1 : Int32)), .val (.int c1)] (hb hby d6_32) rfl (by decide) rfl rfl ?_
      refine g_iinc X4 hx 38 (2 : Int32) #[.val (.ref b), .val (.int (2 : Int32)), .val (.ref t), .val (.int (2 : Int32)), .val (.int (11 : Int32)), .val (.int (1 : Int32)), .val (.int c1)] (hb hby d6_35) rfl (by decide) rfl rfl ?_
      refine g_iinc X4 hx 41 (2 : Int32) #[.val (.ref b), .val (.int (2 : Int32)), .val (.ref t), .val (.int (2 : Int32)), .val (.int (11 : Int32)), .val (.int (2 : Int32)), .val (.int c1)] (hb hby d6_38) rfl (by decide) rfl rfl ?_
      refine g_goto X4 hx 3 (hb hby d6_41) (by decide) (by decide) ?_
      refine g_iload X4 hx 5 (hb hby d6_3) rfl rfl ?_
      refine g_iload X4 hx 7 (hb hby d6_5) rfl rfl ?_
      refine g_icF X4 hx 10 (hb hby d6_7) (by decide) rfl ?_
      refine g_aloadN X4 hx 11 (hb hby d6_10) rfl rfl rfl ?_
      refine g_iloadN X4 hx 12 (hb hby d6_11) rfl rfl ?_
      refine g_caload X4 hx 13 hZ e4 V_b ⟨by decide, by decide⟩ (show _ = (.int c2) from rfl) (hb hby d6_12) rfl ?_
      refine g_istore X4 hx 15 #[.val (.ref b), .val (.int (2 : Int32)), .val (.ref t), .val (.int (2 : Int32)), .val (.int (11 : Int32)), .val (.int (2 : Int32)), .val (.int c2)] (hb hby d6_13) rfl rfl ?_
      refine g_iload X4 hx 17 (hb hby d6_15) rfl rfl ?_
      refine g_sipush X4 hx 20 (255 : Int32) (hb hby d6_17) (by decide) rfl ?_
      by_cases hc5 : (255 : Int32) < c2
      · refine g_icF X4 hx 23 (hb hby d6_20) (tlt hc5).2.2.2 rfl ?_
        refine g_iload X4 hx 25 (hb hby d6_23) rfl rfl ?_
        have hF : own_fst11 c0 c1 c2 c3 c4 c5 c6 c7 c8 c9 c10 = (2 : Int32) := by unfold own_fst11; rw [if_neg hc1, if_neg hc3, if_pos hc5]
        exact g_retI X4 hx hret hlk (hb hby d6_25) (by decide) (by decide) (by rw [e4, hF]; exact ⟨rfl, N4, K4, fun q => absurd q (by decide)⟩)
      · refine g_icT X4 hx 26 (hb hby d6_20) (flt hc5).2.2.2 (by decide) (by decide) ?_
        refine g_aloadN X4 hx 27 (hb hby d6_26) rfl rfl rfl ?_
        refine g_iloadN X4 hx 28 (hb hby d6_27) rfl rfl ?_
        refine g_iload X4 hx 30 (hb hby d6_28) rfl rfl ?_
        refine g_i2b X4 hx 31 (c2.toInt8.toInt32) (hb hby d6_30) rfl rfl ?_
        refine g_bastore X4 hx 32 hZ e4 V_t 2 (by decide) ⟨by decide, by decide⟩ (Nat.le_of_ble_eq_true rfl) (hb hby d6_31) rfl (fun T6 h6 X6 e6 W6 V6 => ?_)
        have V_b := V_b.other W6 (Ne.symm ne_t_b)
        have V_t : Arv Z h6 t kT .byte (11 : Int32) [(.int (nar .byte (c0.toInt8.toInt32))), (.int (nar .byte (c1.toInt8.toInt32))), (.int (nar .byte (c2.toInt8.toInt32))), (.int (0 : Int32)), (.int (0 : Int32)), (.int (0 : Int32)), (.int (0 : Int32)), (.int (0 : Int32)), (.int (0 : Int32)), (.int (0 : Int32)), (.int (0 : Int32))] (.int (0 : Int32)) := V6
        have N6 := Fr.snoc X6 N4 g_t
        have Z6 : n0 ≤ h6.size := by rw [W6.size]; exact Z4
        have K6 := K4.wr W6 (Or.inl (List.mem_of_getElem? (i := 0) rfl))
        refine g_iinc X6 hx 35 (3 : Int32) #[.val (.ref b), .val (.int (3 : Int32)), .val (.ref t), .val (.int (2 : Int32)), .val (.int (11 : Int32)), .val (.int (2 : Int32)), .val (.int c2)] (hb hby d6_32) rfl (by decide) rfl rfl ?_
        refine g_iinc X6 hx 38 (3 : Int32) #[.val (.ref b), .val (.int (3 : Int32)), .val (.ref t), .val (.int (3 : Int32)), .val (.int (11 : Int32)), .val (.int (2 : Int32)), .val (.int c2)] (hb hby d6_35) rfl (by decide) rfl rfl ?_
        refine g_iinc X6 hx 41 (3 : Int32) #[.val (.ref b), .val (.int (3 : Int32)), .val (.ref t), .val (.int (3 : Int32)), .val (.int (11 : Int32)), .val (.int (3 : Int32)), .val (.int c2)] (hb hby d6_38) rfl (by decide) rfl rfl ?_
        refine g_goto X6 hx 3 (hb hby d6_41) (by decide) (by decide) ?_
        refine g_iload X6 hx 5 (hb hby d6_3) rfl rfl ?_
        refine g_iload X6 hx 7 (hb hby d6_5) rfl rfl ?_
        refine g_icF X6 hx 10 (hb hby d6_7) (by decide) rfl ?_
        refine g_aloadN X6 hx 11 (hb hby d6_10) rfl rfl rfl ?_
        refine g_iloadN X6 hx 12 (hb hby d6_11) rfl rfl ?_
        refine g_caload X6 hx 13 hZ e6 V_b ⟨by decide, by decide⟩ (show _ = (.int c3) from rfl) (hb hby d6_12) rfl ?_
        refine g_istore X6 hx 15 #[.val (.ref b), .val (.int (3 : Int32)), .val (.ref t), .val (.int (3 : Int32)), .val (.int (11 : Int32)), .val (.int (3 : Int32)), .val (.int c3)] (hb hby d6_13) rfl rfl ?_
        refine g_iload X6 hx 17 (hb hby d6_15) rfl rfl ?_
        refine g_sipush X6 hx 20 (255 : Int32) (hb hby d6_17) (by decide) rfl ?_
        by_cases hc7 : (255 : Int32) < c3
        · refine g_icF X6 hx 23 (hb hby d6_20) (tlt hc7).2.2.2 rfl ?_
          refine g_iload X6 hx 25 (hb hby d6_23) rfl rfl ?_
          have hF : own_fst11 c0 c1 c2 c3 c4 c5 c6 c7 c8 c9 c10 = (3 : Int32) := by unfold own_fst11; rw [if_neg hc1, if_neg hc3, if_neg hc5, if_pos hc7]
          exact g_retI X6 hx hret hlk (hb hby d6_25) (by decide) (by decide) (by rw [e6, hF]; exact ⟨rfl, N6, K6, fun q => absurd q (by decide)⟩)
        · refine g_icT X6 hx 26 (hb hby d6_20) (flt hc7).2.2.2 (by decide) (by decide) ?_
          refine g_aloadN X6 hx 27 (hb hby d6_26) rfl rfl rfl ?_
          refine g_iloadN X6 hx 28 (hb hby d6_27) rfl rfl ?_
          refine g_iload X6 hx 30 (hb hby d6_28) rfl rfl ?_
          refine g_i2b X6 hx 31 (c3.toInt8.toInt32) (hb hby d6_30) rfl rfl ?_
          refine g_bastore X6 hx 32 hZ e6 V_t 3 (by decide) ⟨by decide, by decide⟩ (Nat.le_of_ble_eq_true rfl) (hb hby d6_31) rfl (fun T8 h8 X8 e8 W8 V8 => ?_)
          have V_b := V_b.other W8 (Ne.symm ne_t_b)
          have V_t : Arv Z h8 t kT .byte (11 : Int32) [(.int (nar .byte (c0.toInt8.toInt32))), (.int (nar .byte (c1.toInt8.toInt32))), (.int (nar .byte (c2.toInt8.toInt32))), (.int (nar .byte (c3.toInt8.toInt32))), (.int (0 : Int32)), (.int (0 : Int32)), (.int (0 : Int32)), (.int (0 : Int32)), (.int (0 : Int32)), (.int (0 : Int32)), (.int (0 : Int32))] (.int (0 : Int32)) := V8
          have N8 := Fr.snoc X8 N6 g_t
          have Z8 : n0 ≤ h8.size := by rw [W8.size]; exact Z6
          have K8 := K6.wr W8 (Or.inl (List.mem_of_getElem? (i := 0) rfl))
          refine g_iinc X8 hx 35 (4 : Int32) #[.val (.ref b), .val (.int (4 : Int32)), .val (.ref t), .val (.int (3 : Int32)), .val (.int (11 : Int32)), .val (.int (3 : Int32)), .val (.int c3)] (hb hby d6_32) rfl (by decide) rfl rfl ?_
          refine g_iinc X8 hx 38 (4 : Int32) #[.val (.ref b), .val (.int (4 : Int32)), .val (.ref t), .val (.int (4 : Int32)), .val (.int (11 : Int32)), .val (.int (3 : Int32)), .val (.int c3)] (hb hby d6_35) rfl (by decide) rfl rfl ?_
          refine g_iinc X8 hx 41 (4 : Int32) #[.val (.ref b), .val (.int (4 : Int32)), .val (.ref t), .val (.int (4 : Int32)), .val (.int (11 : Int32)), .val (.int (4 : Int32)), .val (.int c3)] (hb hby d6_38) rfl (by decide) rfl rfl ?_
          refine g_goto X8 hx 3 (hb hby d6_41) (by decide) (by decide) ?_
          refine g_iload X8 hx 5 (hb hby d6_3) rfl rfl ?_
          refine g_iload X8 hx 7 (hb hby d6_5) rfl rfl ?_
          refine g_icF X8 hx 10 (hb hby d6_7) (by decide) rfl ?_
          refine g_aloadN X8 hx 11 (hb hby d6_10) rfl rfl rfl ?_
          refine g_iloadN X8 hx 12 (hb hby d6_11) rfl rfl ?_
          refine g_caload X8 hx 13 hZ e8 V_b ⟨by decide, by decide⟩ (show _ = (.int c4) from rfl) (hb hby d6_12) rfl ?_
          refine g_istore X8 hx 15 #[.val (.ref b), .val (.int (4 : Int32)), .val (.ref t), .val (.int (4 : Int32)), .val (.int (11 : Int32)), .val (.int (4 : Int32)), .val (.int c4)] (hb hby d6_13) rfl rfl ?_
          refine g_iload X8 hx 17 (hb hby d6_15) rfl rfl ?_
          refine g_sipush X8 hx 20 (255 : Int32) (hb hby d6_17) (by decide) rfl ?_
          by_cases hc9 : (255 : Int32) < c4
          · refine g_icF X8 hx 23 (hb hby d6_20) (tlt hc9).2.2.2 rfl ?_
            refine g_iload X8 hx 25 (hb hby d6_23) rfl rfl ?_
            have hF : own_fst11 c0 c1 c2 c3 c4 c5 c6 c7 c8 c9 c10 = (4 : Int32) := by unfold own_fst11; rw [if_neg hc1, if_neg hc3, if_neg hc5, if_neg hc7, if_pos hc9]
            exact g_retI X8 hx hret hlk (hb hby d6_25) (by decide) (by decide) (by rw [e8, hF]; exact ⟨rfl, N8, K8, fun q => absurd q (by decide)⟩)
          · refine g_icT X8 hx 26 (hb hby d6_20) (flt hc9).2.2.2 (by decide) (by decide) ?_
            refine g_aloadN X8 hx 27 (hb hby d6_26) rfl rfl rfl ?_
            refine g_iloadN X8 hx 28 (hb hby d6_27) rfl rfl ?_
            refine g_iload X8 hx 30 (hb hby d6_28) rfl rfl ?_
            refine g_i2b X8 hx 31 (c4.toInt8.toInt32) (hb hby d6_30) rfl rfl ?_
            refine g_bastore X8 hx 32 hZ e8 V_t 4 (by decide) ⟨by decide, by decide⟩ (Nat.le_of_ble_eq_true rfl) (hb hby d6_31) rfl (fun T10 h10 X10 e10 W10 V10 => ?_)
            have V_b := V_b.other W10 (Ne.symm ne_t_b)
            have V_t : Arv Z h10 t kT .byte (11 : Int32) [(.int (nar .byte (c0.toInt8.toInt32))), (.int (nar .byte (c1.toInt8.toInt32))), (.int (nar .byte (c2.toInt8.toInt32))), (.int (nar .byte (c3.toInt8.toInt32))), (.int (nar .byte (c4.toInt8.toInt32))), (.int (0 : Int32)), (.int (0 : Int32)), (.int (0 : Int32)), (.int (0 : Int32)), (.int (0 : Int32)), (.int (0 : Int32))] (.int (0 : Int32)) := V10
            have N10 := Fr.snoc X10 N8 g_t
            have Z10 : n0 ≤ h10.size := by rw [W10.size]; exact Z8
            have K10 := K8.wr W10 (Or.inl (List.mem_of_getElem? (i := 0) rfl))
            refine g_iinc X10 hx 35 (5 : Int32) #[.val (.ref b), .val (.int (5 : Int32)), .val (.ref t), .val (.int (4 : Int32)), .val (.int (11 : Int32)), .val (.int (4 : Int32)), .val (.int c4)] (hb hby d6_32) rfl (by decide) rfl rfl ?_
            refine g_iinc X10 hx 38 (5 : Int32) #[.val (.ref b), .val (.int (5 : Int32)), .val (.ref t), .val (.int (5 : Int32)), .val (.int (11 : Int32)), .val (.int (4 : Int32)), .val (.int c4)] (hb hby d6_35) rfl (by decide) rfl rfl ?_
            refine g_iinc X10 hx 41 (5 : Int32) #[.val (.ref b), .val (.int (5 : Int32)), .val (.ref t), .val (.int (5 : Int32)), .val (.int (11 : Int32)), .val (.int (5 : Int32)), .val (.int c4)] (hb hby d6_38) rfl (by decide) rfl rfl ?_
            refine g_goto X10 hx 3 (hb hby d6_41) (by decide) (by decide) ?_
            refine g_iload X10 hx 5 (hb hby d6_3) rfl rfl ?_
            refine g_iload X10 hx 7 (hb hby d6_5) rfl rfl ?_
            refine g_icF X10 hx 10 (hb hby d6_7) (by decide) rfl ?_
            refine g_aloadN X10 hx 11 (hb hby d6_10) rfl rfl rfl ?_
            refine g_iloadN X10 hx 12 (hb hby d6_11) rfl rfl ?_
            refine g_caload X10 hx 13 hZ e10 V_b ⟨by decide, by decide⟩ (show _ = (.int c5) from rfl) (hb hby d6_12) rfl ?_
            refine g_istore X10 hx 15 #[.val (.ref b), .val (.int (5 : Int32)), .val (.ref t), .val (.int (5 : Int32)), .val (.int (11 : Int32)), .val (.int (5 : Int32)), .val (.int c5)] (hb hby d6_13) rfl rfl ?_
            refine g_iload X10 hx 17 (hb hby d6_15) rfl rfl ?_
            refine g_sipush X10 hx 20 (255 : Int32) (hb hby d6_17) (by decide) rfl ?_
            by_cases hc11 : (255 : Int32) < c5
            · refine g_icF X10 hx 23 (hb hby d6_20) (tlt hc11).2.2.2 rfl ?_
              refine g_iload X10 hx 25 (hb hby d6_23) rfl rfl ?_
              have hF : own_fst11 c0 c1 c2 c3 c4 c5 c6 c7 c8 c9 c10 = (5 : Int32) := by unfold own_fst11; rw [if_neg hc1, if_neg hc3, if_neg hc5, if_neg hc7, if_neg hc9, if_pos hc11]
              exact g_retI X10 hx hret hlk (hb hby d6_25) (by decide) (by decide) (by rw [e10, hF]; exact ⟨rfl, N10, K10, fun q => absurd q (by decide)⟩)
            · refine g_icT X10 hx 26 (hb hby d6_20) (flt hc11).2.2.2 (by decide) (by decide) ?_
              refine g_aloadN X10 hx 27 (hb hby d6_26) rfl rfl rfl ?_
              refine g_iloadN X10 hx 28 (hb hby d6_27) rfl rfl ?_
              refine g_iload X10 hx 30 (hb hby d6_28) rfl rfl ?_
              refine g_i2b X10 hx 31 (c5.toInt8.toInt32) (hb hby d6_30) rfl rfl ?_
              refine g_bastore X10 hx 32 hZ e10 V_t 5 (by decide) ⟨by decide, by decide⟩ (Nat.le_of_ble_eq_true rfl) (hb hby d6_31) rfl (fun T12 h12 X12 e12 W12 V12 => ?_)
              have V_b := V_b.other W12 (Ne.symm ne_t_b)
              have V_t : Arv Z h12 t kT .byte (11 : Int32) [(.int (nar .byte (c0.toInt8.toInt32))), (.int (nar .byte (c1.toInt8.toInt32))), (.int (nar .byte (c2.toInt8.toInt32))), (.int (nar .byte (c3.toInt8.toInt32))), (.int (nar .byte (c4.toInt8.toInt32))), (.int (nar .byte (c5.toInt8.toInt32))), (.int (0 : Int32)), (.int (0 : Int32)), (.int (0 : Int32)), (.int (0 : Int32)), (.int (0 : Int32))] (.int (0 : Int32)) := V12
              have N12 := Fr.snoc X12 N10 g_t
              have Z12 : n0 ≤ h12.size := by rw [W12.size]; exact Z10
              have K12 := K10.wr W12 (Or.inl (List.mem_of_getElem? (i := 0) rfl))
              refine g_iinc X12 hx 35 (6 : Int32) #[.val (.ref b), .val (.int (6 : Int32)), .val (.ref t), .val (.int (5 : Int32)), .val (.int (11 : Int32)), .val (.int (5 : Int32)), .val (.int c5)] (hb hby d6_32) rfl (by decide) rfl rfl ?_
              refine g_iinc X12 hx 38 (6 : Int32) #[.val (.ref b), .val (.int (6 : Int32)), .val (.ref t), .val (.int (6 : Int32)), .val (.int (11 : Int32)), .val (.int (5 : Int32)), .val (.int c5)] (hb hby d6_35) rfl (by decide) rfl rfl ?_
              refine g_iinc X12 hx 41 (6 : Int32) #[.val (.ref b), .val (.int (6 : Int32)), .val (.ref t), .val (.int (6 : Int32)), .val (.int (11 : Int32)), .val (.int (6 : Int32)), .val (.int c5)] (hb hby d6_38) rfl (by decide) rfl rfl ?_
              refine g_goto X12 hx 3 (hb hby d6_41) (by decide) (by decide) ?_
              refine g_iload X12 hx 5 (hb hby d6_3) rfl rfl ?_
              refine g_iload X12 hx 7 (hb hby d6_5) rfl rfl ?_
              refine g_icF X12 hx 10 (hb hby d6_7) (by decide) rfl ?_
              refine g_aloadN X12 hx 11 (hb hby d6_10) rfl rfl rfl ?_
              refine g_iloadN X12 hx 12 (hb hby d6_11) rfl rfl ?_
              refine g_caload X12 hx 13 hZ e12 V_b ⟨by decide, by decide⟩ (show _ = (.int c6) from rfl) (hb hby d6_12) rfl ?_
              refine g_istore X12 hx 15 #[.val (.ref b), .val (.int (6 : Int32)), .val (.ref t), .val (.int (6 : Int32)), .val (.int (11 : Int32)), .val (.int (6 : Int32)), .val (.int c6)] (hb hby d6_13) rfl rfl ?_
              refine g_iload X12 hx 17 (hb hby d6_15) rfl rfl ?_
              refine g_sipush X12 hx 20 (255 : Int32) (hb hby d6_17) (by decide) rfl ?_
              by_cases hc13 : (255 : Int32) < c6
              · refine g_icF X12 hx 23 (hb hby d6_20) (tlt hc13).2.2.2 rfl ?_
                refine g_iload X12 hx 25 (hb hby d6_23) rfl rfl ?_
                have hF : own_fst11 c0 c1 c2 c3 c4 c5 c6 c7 c8 c9 c10 = (6 : Int32) := by unfold own_fst11; rw [if_neg hc1, if_neg hc3, if_neg hc5, if_neg hc7, if_neg hc9, if_neg hc11, if_pos hc13]
                exact g_retI X12 hx hret hlk (hb hby d6_25) (by decide) (by decide) (by rw [e12, hF]; exact ⟨rfl, N12, K12, fun q => absurd q (by decide)⟩)
              · refine g_icT X12 hx 26 (hb hby d6_20) (flt hc13).2.2.2 (by decide) (by decide) ?_
                refine g_aloadN X12 hx 27 (hb hby d6_26) rfl rfl rfl ?_
                refine g_iloadN X12 hx 28 (hb hby d6_27) rfl rfl ?_
                refine g_iload X12 hx 30 (hb hby d6_28) rfl rfl ?_
                refine g_i2b X12 hx 31 (c6.toInt8.toInt32) (hb hby d6_30) rfl rfl ?_
                refine g_bastore X12 hx 32 hZ e12 V_t 6 (by decide) ⟨by decide, by decide⟩ (Nat.le_of_ble_eq_true rfl) (hb hby d6_31) rfl (fun T14 h14 X14 e14 W14 V14 => ?_)
                have V_b := V_b.other W14 (Ne.symm ne_t_b)
                have V_t : Arv Z h14 t kT .byte (11 : Int32) [(.int (nar .byte (c0.toInt8.toInt32))), (.int (nar .byte (c1.toInt8.toInt32))), (.int (nar .byte (c2.toInt8.toInt32))), (.int (nar .byte (c3.toInt8.toInt32))), (.int (nar .byte (c4.toInt8.toInt32))), (.int (nar .byte (c5.toInt8.toInt32))), (.int (nar .byte (c6.toInt8.toInt32))), (.int (0 : Int32)), (.int (0 : Int32)), (.int (0 : Int32)), (.int (0 : Int32))] (.int (0 : Int32)) := V14
                have N14 := Fr.snoc X14 N12 g_t
                have Z14 : n0 ≤ h14.size := by rw [W14.size]; exact Z12
                have K14 := K12.wr W14 (Or.inl (List.mem_of_getElem? (i := 0) rfl))
                refine g_iinc X14 hx 35 (7 : Int32) #[.val (.ref b), .val (.int (7 : Int32)), .val (.ref t), .val (.int (6 : Int32)), .val (.int (11 : Int32)), .val (.int (6 : Int32)), .val (.int c6)] (hb hby d6_32) rfl (by decide) rfl rfl ?_
                refine g_iinc X14 hx 38 (7 : Int32) #[.val (.ref b), .val (.int (7 : Int32)), .val (.ref t), .val (.int (7 : Int32)), .val (.int (11 : Int32)), .val (.int (6 : Int32)), .val (.int c6)] (hb hby d6_35) rfl (by decide) rfl rfl ?_
                refine g_iinc X14 hx 41 (7 : Int32) #[.val (.ref b), .val (.int (7 : Int32)), .val (.ref t), .val (.int (7 : Int32)), .val (.int (11 : Int32)), .val (.int (7 : Int32)), .val (.int c6)] (hb hby d6_38) rfl (by decide) rfl rfl ?_
                refine g_goto X14 hx 3 (hb hby d6_41) (by decide) (by decide) ?_
                refine g_iload X14 hx 5 (hb hby d6_3) rfl rfl ?_
                refine g_iload X14 hx 7 (hb hby d6_5) rfl rfl ?_
                refine g_icF X14 hx 10 (hb hby d6_7) (by decide) rfl ?_
                refine g_aloadN X14 hx 11 (hb hby d6_10) rfl rfl rfl ?_
                refine g_iloadN X14 hx 12 (hb hby d6_11) rfl rfl ?_
                refine g_caload X14 hx 13 hZ e14 V_b ⟨by decide, by decide⟩ (show _ = (.int c7) from rfl) (hb hby d6_12) rfl ?_
                refine g_istore X14 hx 15 #[.val (.ref b), .val (.int (7 : Int32)), .val (.ref t), .val (.int (7 : Int32)), .val (.int (11 : Int32)), .val (.int (7 : Int32)), .val (.int c7)] (hb hby d6_13) rfl rfl ?_
                refine g_iload X14 hx 17 (hb hby d6_15) rfl rfl ?_
                refine g_sipush X14 hx 20 (255 : Int32) (hb hby d6_17) (by decide) rfl ?_
                by_cases hc15 : (255 : Int32) < c7
                · refine g_icF X14 hx 23 (hb hby d6_20) (tlt hc15).2.2.2 rfl ?_
                  refine g_iload X14 hx 25 (hb hby d6_23) rfl rfl ?_
                  have hF : own_fst11 c0 c1 c2 c3 c4 c5 c6 c7 c8 c9 c10 = (7 : Int32) := by unfold own_fst11; rw [if_neg hc1, if_neg hc3, if_neg hc5, if_neg hc7, if_neg hc9, if_neg hc11, if_neg hc13, if_pos hc15]
                  exact g_retI X14 hx hret hlk (hb hby d6_25) (by decide) (by decide) (by rw [e14, hF]; exact ⟨rfl, N14, K14, fun q => absurd q (by decide)⟩)
                · refine g_icT X14 hx 26 (hb hby d6_20) (flt hc15).2.2.2 (by decide) (by decide) ?_
                  refine g_aloadN X14 hx 27 (hb hby d6_26) rfl rfl rfl ?_
                  refine g_iloadN X14 hx 28 (hb hby d6_27) rfl rfl ?_
                  refine g_iload X14 hx 30 (hb hby d6_28) rfl rfl ?_
                  refine g_i2b X14 hx 31 (c7.toInt8.toInt32) (hb hby d6_30) rfl rfl ?_
                  refine g_bastore X14 hx 32 hZ e14 V_t 7 (by decide) ⟨by decide, by decide⟩ (Nat.le_of_ble_eq_true rfl) (hb hby d6_31) rfl (fun T16 h16 X16 e16 W16 V16 => ?_)
                  have V_b := V_b.other W16 (Ne.symm ne_t_b)
                  have V_t : Arv Z h16 t kT .byte (11 : Int32) [(.int (nar .byte (c0.toInt8.toInt32))), (.int (nar .byte (c1.toInt8.toInt32))), (.int (nar .byte (c2.toInt8.toInt32))), (.int (nar .byte (c3.toInt8.toInt32))), (.int (nar .byte (c4.toInt8.toInt32))), (.int (nar .byte (c5.toInt8.toInt32))), (.int (nar .byte (c6.toInt8.toInt32))), (.int (nar .byte (c7.toInt8.toInt32))), (.int (0 : Int32)), (.int (0 : Int32)), (.int (0 : Int32))] (.int (0 : Int32)) := V16
                  have N16 := Fr.snoc X16 N14 g_t
                  have Z16 : n0 ≤ h16.size := by rw [W16.size]; exact Z14
                  have K16 := K14.wr W16 (Or.inl (List.mem_of_getElem? (i := 0) rfl))
                  refine g_iinc X16 hx 35 (8 : Int32) #[.val (.ref b), .val (.int (8 : Int32)), .val (.ref t), .val (.int (7 : Int32)), .val (.int (11 : Int32)), .val (.int (7 : Int32)), .val (.int c7)] (hb hby d6_32) rfl (by decide) rfl rfl ?_
                  refine g_iinc X16 hx 38 (8 : Int32) #[.val (.ref b), .val (.int (8 : Int32)), .val (.ref t), .val (.int (8 : Int32)), .val (.int (11 : Int32)), .val (.int (7 : Int32)), .val (.int c7)] (hb hby d6_35) rfl (by decide) rfl rfl ?_
                  refine g_iinc X16 hx 41 (8 : Int32) #[.val (.ref b), .val (.int (8 : Int32)), .val (.ref t), .val (.int (8 : Int32)), .val (.int (11 : Int32)), .val (.int (8 : Int32)), .val (.int c7)] (hb hby d6_38) rfl (by decide) rfl rfl ?_
                  refine g_goto X16 hx 3 (hb hby d6_41) (by decide) (by decide) ?_
                  refine g_iload X16 hx 5 (hb hby d6_3) rfl rfl ?_
                  refine g_iload X16 hx 7 (hb hby d6_5) rfl rfl ?_
                  refine g_icF X16 hx 10 (hb hby d6_7) (by decide) rfl ?_
                  refine g_aloadN X16 hx 11 (hb hby d6_10) rfl rfl rfl ?_
                  refine g_iloadN X16 hx 12 (hb hby d6_11) rfl rfl ?_
                  refine g_caload X16 hx 13 hZ e16 V_b ⟨by decide, by decide⟩ (show _ = (.int c8) from rfl) (hb hby d6_12) rfl ?_
                  refine g_istore X16 hx 15 #[.val (.ref b), .val (.int (8 : Int32)), .val (.ref t), .val (.int (8 : Int32)), .val (.int (11 : Int32)), .val (.int (8 : Int32)), .val (.int c8)] (hb hby d6_13) rfl rfl ?_
                  refine g_iload X16 hx 17 (hb hby d6_15) rfl rfl ?_
                  refine g_sipush X16 hx 20 (255 : Int32) (hb hby d6_17) (by decide) rfl ?_
                  by_cases hc17 : (255 : Int32) < c8
                  · refine g_icF X16 hx 23 (hb hby d6_20) (tlt hc17).2.2.2 rfl ?_
                    refine g_iload X16 hx 25 (hb hby d6_23) rfl rfl ?_
                    have hF : own_fst11 c0 c1 c2 c3 c4 c5 c6 c7 c8 c9 c10 = (8 : Int32) := by unfold own_fst11; rw [if_neg hc1, if_neg hc3, if_neg hc5, if_neg hc7, if_neg hc9, if_neg hc11, if_neg hc13, if_neg hc15, if_pos hc17]
                    exact g_retI X16 hx hret hlk (hb hby d6_25) (by decide) (by decide) (by rw [e16, hF]; exact ⟨rfl, N16, K16, fun q => absurd q (by decide)⟩)
                  · refine g_icT X16 hx 26 (hb hby d6_20) (flt hc17).2.2.2 (by decide) (by decide) ?_
                    refine g_aloadN X16 hx 27 (hb hby d6_26) rfl rfl rfl ?_
                    refine g_iloadN X16 hx 28 (hb hby d6_27) rfl rfl ?_
                    refine g_iload X16 hx 30 (hb hby d6_28) rfl rfl ?_
                    refine g_i2b X16 hx 31 (c8.toInt8.toInt32) (hb hby d6_30) rfl rfl ?_
                    refine g_bastore X16 hx 32 hZ e16 V_t 8 (by decide) ⟨by decide, by decide⟩ (Nat.le_of_ble_eq_true rfl) (hb hby d6_31) rfl (fun T18 h18 X18 e18 W18 V18 => ?_)
                    have V_b := V_b.other W18 (Ne.symm ne_t_b)
                    have V_t : Arv Z h18 t kT .byte (11 : Int32) [(.int (nar .byte (c0.toInt8.toInt32))), (.int (nar .byte (c1.toInt8.toInt32))), (.int (nar .byte (c2.toInt8.toInt32))), (.int (nar .byte (c3.toInt8.toInt32))), (.int (nar .byte (c4.toInt8.toInt32))), (.int (nar .byte (c5.toInt8.toInt32))), (.int (nar .byte (c6.toInt8.toInt32))), (.int (nar .byte (c7.toInt8.toInt32))), (.int (nar .byte (c8.toInt8.toInt32))), (.int (0 : Int32)), (.int (0 : Int32))] (.int (0 : Int32)) := V18
                    have N18 := Fr.snoc X18 N16 g_t
                    have Z18 : n0 ≤ h18.size := by rw [W18.size]; exact Z16
                    have K18 := K16.wr W18 (Or.inl (List.mem_of_getElem? (i := 0) rfl))
                    refine g_iinc X18 hx 35 (9 : Int32) #[.val (.ref b), .val (.int (9 : Int32)), .val (.ref t), .val (.int (8 : Int32)), .val (.int (11 : Int32)), .val (.int (8 : Int32)), .val (.int c8)] (hb hby d6_32) rfl (by decide) rfl rfl ?_
                    refine g_iinc X18 hx 38 (9 : Int32) #[.val (.ref b), .val (.int (9 : Int32)), .val (.ref t), .val (.int (9 : Int32)), .val (.int (11 : Int32)), .val (.int (8 : Int32)), .val (.int c8)] (hb hby d6_35) rfl (by decide) rfl rfl ?_
                    refine g_iinc X18 hx 41 (9 : Int32) #[.val (.ref b), .val (.int (9 : Int32)), .val (.ref t), .val (.int (9 : Int32)), .val (.int (11 : Int32)), .val (.int (9 : Int32)), .val (.int c8)] (hb hby d6_38) rfl (by decide) rfl rfl ?_
                    refine g_goto X18 hx 3 (hb hby d6_41) (by decide) (by decide) ?_
                    refine g_iload X18 hx 5 (hb hby d6_3) rfl rfl ?_
                    refine g_iload X18 hx 7 (hb hby d6_5) rfl rfl ?_
                    refine g_icF X18 hx 10 (hb hby d6_7) (by decide) rfl ?_
                    refine g_aloadN X18 hx 11 (hb hby d6_10) rfl rfl rfl ?_
                    refine g_iloadN X18 hx 12 (hb hby d6_11) rfl rfl ?_
                    refine g_caload X18 hx 13 hZ e18 V_b ⟨by decide, by decide⟩ (show _ = (.int c9) from rfl) (hb hby d6_12) rfl ?_
                    refine g_istore X18 hx 15 #[.val (.ref b), .val (.int (9 : Int32)), .val (.ref t), .val (.int (9 : Int32)), .val (.int (11 : Int32)), .val (.int (9 : Int32)), .val (.int c9)] (hb hby d6_13) rfl rfl ?_
                    refine g_iload X18 hx 17 (hb hby d6_15) rfl rfl ?_
                    refine g_sipush X18 hx 20 (255 : Int32) (hb hby d6_17) (by decide) rfl ?_
                    by_cases hc19 : (255 : Int32) < c9
                    · refine g_icF X18 hx 23 (hb hby d6_20) (tlt hc19).2.2.2 rfl ?_
                      refine g_iload X18 hx 25 (hb hby d6_23) rfl rfl ?_
                      have hF : own_fst11 c0 c1 c2 c3 c4 c5 c6 c7 c8 c9 c10 = (9 : Int32) := by unfold own_fst11; rw [if_neg hc1, if_neg hc3, if_neg hc5, if_neg hc7, if_neg hc9, if_neg hc11, if_neg hc13, if_neg hc15, if_neg hc17, if_pos hc19]
                      exact g_retI X18 hx hret hlk (hb hby d6_25) (by decide) (by decide) (by rw [e18, hF]; exact ⟨rfl, N18, K18, fun q => absurd q (by decide)⟩)
                    · refine g_icT X18 hx 26 (hb hby d6_20) (flt hc19).2.2.2 (by decide) (by decide) ?_
                      refine g_aloadN X18 hx 27 (hb hby d6_26) rfl rfl rfl ?_
                      refine g_iloadN X18 hx 28 (hb hby d6_27) rfl rfl ?_
                      refine g_iload X18 hx 30 (hb hby d6_28) rfl rfl ?_
                      refine g_i2b X18 hx 31 (c9.toInt8.toInt32) (hb hby d6_30) rfl rfl ?_
                      refine g_bastore X18 hx 32 hZ e18 V_t 9 (by decide) ⟨by decide, by decide⟩ (Nat.le_of_ble_eq_true rfl) (hb hby d6_31) rfl (fun T20 h20 X20 e20 W20 V20 => ?_)
                      have V_b := V_b.other W20 (Ne.symm ne_t_b)
                      have V_t : Arv Z h20 t kT .byte (11 : Int32) [(.int (nar .byte (c0.toInt8.toInt32))), (.int (nar .byte (c1.toInt8.toInt32))), (.int (nar .byte (c2.toInt8.toInt32))), (.int (nar .byte (c3.toInt8.toInt32))), (.int (nar .byte (c4.toInt8.toInt32))), (.int (nar .byte (c5.toInt8.toInt32))), (.int (nar .byte (c6.toInt8.toInt32))), (.int (nar .byte (c7.toInt8.toInt32))), (.int (nar .byte (c8.toInt8.toInt32))), (.int (nar .byte (c9.toInt8.toInt32))), (.int (0 : Int32))] (.int (0 : Int32)) := V20
                      have N20 := Fr.snoc X20 N18 g_t
                      have Z20 : n0 ≤ h20.size := by rw [W20.size]; exact Z18
                      have K20 := K18.wr W20 (Or.inl (List.mem_of_getElem? (i := 0) rfl))
                      refine g_iinc X20 hx 35 (10 : Int32) #[.val (.ref b), .val (.int (10 : Int32)), .val (.ref t), .val (.int (9 : Int32)), .val (.int (11 : Int32)), .val (.int (9 : Int32)), .val (.int c9)] (hb hby d6_32) rfl (by decide) rfl rfl ?_
                      refine g_iinc X20 hx 38 (10 : Int32) #[.val (.ref b), .val (.int (10 : Int32)), .val (.ref t), .val (.int (10 : Int32)), .val (.int (11 : Int32)), .val (.int (9 : Int32)), .val (.int c9)] (hb hby d6_35) rfl (by decide) rfl rfl ?_
                      refine g_iinc X20 hx 41 (10 : Int32) #[.val (.ref b), .val (.int (10 : Int32)), .val (.ref t), .val (.int (10 : Int32)), .val (.int (11 : Int32)), .val (.int (10 : Int32)), .val (.int c9)] (hb hby d6_38) rfl (by decide) rfl rfl ?_
                      refine g_goto X20 hx 3 (hb hby d6_41) (by decide) (by decide) ?_
                      refine g_iload X20 hx 5 (hb hby d6_3) rfl rfl ?_
                      refine g_iload X20 hx 7 (hb hby d6_5) rfl rfl ?_
                      refine g_icF X20 hx 10 (hb hby d6_7) (by decide) rfl ?_
                      refine g_aloadN X20 hx 11 (hb hby d6_10) rfl rfl rfl ?_
                      refine g_iloadN X20 hx 12 (hb hby d6_11) rfl rfl ?_
                      refine g_caload X20 hx 13 hZ e20 V_b ⟨by decide, by decide⟩ (show _ = (.int c10) from rfl) (hb hby d6_12) rfl ?_
                      refine g_istore X20 hx 15 #[.val (.ref b), .val (.int (10 : Int32)), .val (.ref t), .val (.int (10 : Int32)), .val (.int (11 : Int32)), .val (.int (10 : Int32)), .val (.int c10)] (hb hby d6_13) rfl rfl ?_
                      refine g_iload X20 hx 17 (hb hby d6_15) rfl rfl ?_
                      refine g_sipush X20 hx 20 (255 : Int32) (hb hby d6_17) (by decide) rfl ?_
                      by_cases hc21 : (255 : Int32) < c10
                      · refine g_icF X20 hx 23 (hb hby d6_20) (tlt hc21).2.2.2 rfl ?_
                        refine g_iload X20 hx 25 (hb hby d6_23) rfl rfl ?_
                        have hF : own_fst11 c0 c1 c2 c3 c4 c5 c6 c7 c8 c9 c10 = (10 : Int32) := by unfold own_fst11; rw [if_neg hc1, if_neg hc3, if_neg hc5, if_neg hc7, if_neg hc9, if_neg hc11, if_neg hc13, if_neg hc15, if_neg hc17, if_neg hc19, if_pos hc21]
                        exact g_retI X20 hx hret hlk (hb hby d6_25) (by decide) (by decide) (by rw [e20, hF]; exact ⟨rfl, N20, K20, fun q => absurd q (by decide)⟩)
                      · refine g_icT X20 hx 26 (hb hby d6_20) (flt hc21).2.2.2 (by decide) (by decide) ?_
                        refine g_aloadN X20 hx 27 (hb hby d6_26) rfl rfl rfl ?_
                        refine g_iloadN X20 hx 28 (hb hby d6_27) rfl rfl ?_
                        refine g_iload X20 hx 30 (hb hby d6_28) rfl rfl ?_
                        refine g_i2b X20 hx 31 (c10.toInt8.toInt32) (hb hby d6_30) rfl rfl ?_
                        refine g_bastore X20 hx 32 hZ e20 V_t 10 (by decide) ⟨by decide, by decide⟩ (Nat.le_of_ble_eq_true rfl) (hb hby d6_31) rfl (fun T22 h22 X22 e22 W22 V22 => ?_)
                        have V_b := V_b.other W22 (Ne.symm ne_t_b)
                        have V_t : Arv Z h22 t kT .byte (11 : Int32) [(.int (nar .byte (c0.toInt8.toInt32))), (.int (nar .byte (c1.toInt8.toInt32))), (.int (nar .byte (c2.toInt8.toInt32))), (.int (nar .byte (c3.toInt8.toInt32))), (.int (nar .byte (c4.toInt8.toInt32))), (.int (nar .byte (c5.toInt8.toInt32))), (.int (nar .byte (c6.toInt8.toInt32))), (.int (nar .byte (c7.toInt8.toInt32))), (.int (nar .byte (c8.toInt8.toInt32))), (.int (nar .byte (c9.toInt8.toInt32))), (.int (nar .byte (c10.toInt8.toInt32)))] (.int (0 : Int32)) := V22
                        have N22 := Fr.snoc X22 N20 g_t
                        have Z22 : n0 ≤ h22.size := by rw [W22.size]; exact Z20
                        have K22 := K20.wr W22 (Or.inl (List.mem_of_getElem? (i := 0) rfl))
                        refine g_iinc X22 hx 35 (11 : Int32) #[.val (.ref b), .val (.int (11 : Int32)), .val (.ref t), .val (.int (10 : Int32)), .val (.int (11 : Int32)), .val (.int (10 : Int32)), .val (.int c10)] (hb hby d6_32) rfl (by decide) rfl rfl ?_
                        refine g_iinc X22 hx 38 (11 : Int32) #[.val (.ref b), .val (.int (11 : Int32)), .val (.ref t), .val (.int (11 : Int32)), .val (.int (11 : Int32)), .val (.int (10 : Int32)), .val (.int c10)] (hb hby d6_35) rfl (by decide) rfl rfl ?_
                        refine g_iinc X22 hx 41 (11 : Int32) #[.val (.ref b), .val (.int (11 : Int32)), .val (.ref t), .val (.int (11 : Int32)), .val (.int (11 : Int32)), .val (.int (11 : Int32)), .val (.int c10)] (hb hby d6_38) rfl (by decide) rfl rfl ?_
                        refine g_goto X22 hx 3 (hb hby d6_41) (by decide) (by decide) ?_
                        refine g_iload X22 hx 5 (hb hby d6_3) rfl rfl ?_
                        refine g_iload X22 hx 7 (hb hby d6_5) rfl rfl ?_
                        refine g_icT X22 hx 44 (hb hby d6_7) (by decide) (by decide) (by decide) ?_
                        refine g_iload X22 hx 46 (hb hby d6_44) rfl rfl ?_
                        have hF : own_fst11 c0 c1 c2 c3 c4 c5 c6 c7 c8 c9 c10 = (11 : Int32) := by unfold own_fst11; rw [if_neg hc1, if_neg hc3, if_neg hc5, if_neg hc7, if_neg hc9, if_neg hc11, if_neg hc13, if_neg hc15, if_neg hc17, if_neg hc19, if_neg hc21]
                        exact g_retI X22 hx hret hlk (hb hby d6_46) (by decide) (by decide) (by rw [e22, hF]; exact ⟨rfl, N22, K22, fun _ => V_t⟩)
set_option maxRecDepth 65536 in
set_option maxHeartbeats 40000000 in
theorem rs11_outer (l : Launch) (Z : State) (a0 : Array Value) (hw : ∀ d ∈ tables_1, d.before a0 Z = true) (b : Addr) (c0 c1 c2 c3 c4 c5 c6 c7 c8 c9 c10 : Int32) (kB : ClassId) (h0 : Heap) (n0 : Nat) (Z0 : n0 ≤ h0.size) (V_b : Arv Z h0 b kB .char (11 : Int32) [(.int c0), (.int c1), (.int c2), (.int c3), (.int c4), (.int c5), (.int c6), (.int c7), (.int c8), (.int c9), (.int c10)] (.int (0 : Int32))) (hc0 : ¬ 255 < c0) (hc1 : ¬ 255 < c1) (hc2 : ¬ 255 < c2) (hc3 : ¬ 255 < c3) (hc4 : ¬ 255 < c4) (hc5 : ¬ 255 < c5) (hc6 : ¬ 255 < c6) (hc7 : ¬ 255 < c7) (hc8 : ¬ 255 < c8) (hc9 : ¬ 255 < c9) (hc10 : ¬ 255 < c10) :
    OwnMet l Z (⟨"java/lang/StringUTF16", "compress", "([CII)[B"⟩ : MethodName) jdk_52_method_16_code 6 (some (.array .byte)) [] ({ frames := 1, cells := 1, slots := 11, locals := 20 } : Room) [(.ref b), (.int (0 : Int32)), (.int (11 : Int32))] h0 (fun v h L => ∃ (t : Addr) (kT : ClassId), v = some (.ref t) ∧ Fr n0 L ∧ Keep h0 h [] ∧ h0.size ≤ t ∧ Arv Z h t kT .byte (11 : Int32) [(.int (nar .byte (c0.toInt8.toInt32))), (.int (nar .byte (c1.toInt8.toInt32))), (.int (nar .byte (c2.toInt8.toInt32))), (.int (nar .byte (c3.toInt8.toInt32))), (.int (nar .byte (c4.toInt8.toInt32))), (.int (nar .byte (c5.toInt8.toInt32))), (.int (nar .byte (c6.toInt8.toInt32))), (.int (nar .byte (c7.toInt8.toInt32))), (.int (nar .byte (c8.toInt8.toInt32))), (.int (nar .byte (c9.toInt8.toInt32))), (.int (nar .byte (c10.toInt8.toInt32)))] (.int (0 : Int32))) := by
  refine own_body (Ls := #[.val (.ref b), .val (.int (0 : Int32)), .val (.int (11 : Int32)), .unset, .unset, .unset]) (plainFor_of_name own_pn0) (fun m => by first | (simp [entryFrame, mkF, argsToLocals, Value.category]; done) | rfl) (fun p e s m below meth cO T0 hx hby hml hown hnm hret hlk hZ X0 e0 => ?_)
  have hown : s.vm.findClass "java/lang/StringUTF16" = some m.cls := hown
  have N0 := Fr.nil n0
  have K0 := Keep.refl h0 []
  refine g_iloadN X0 hx 1 (hb hby d5_0) rfl rfl ?_
  refine g_newP X0 hx 3 hZ (own_w hw 23 rfl) e0 (hb hby d5_1) (by decide) 11 (by decide) (by decide) (by decide) (by decide) rfl (fun T1 h1 b1 kl1 g1 X1 e1 E1 A1 => ?_)
  have ne_b_b1 : b ≠ b1 := Nat.ne_of_lt (Nat.lt_of_lt_of_le V_b.lt (Nat.le_of_eq g1.symm))
  have V_b := V_b.ext E1
  have G_b1 : n0 ≤ b1 := Nat.le_trans Z0 (Nat.le_of_eq g1.symm)
  have Z1 : n0 ≤ h1.size := Nat.le_trans Z0 E1.1
  have SZ_b1 : h0.size ≤ b1 := Nat.le_trans K0.1 (Nat.le_of_eq g1.symm)
  have K1 := K0.ext E1
  have V_b1 : Arv Z h1 b1 kl1 .byte (11 : Int32) [(.int (0 : Int32)), (.int (0 : Int32)), (.int (0 : Int32)), (.int (0 : Int32)), (.int (0 : Int32)), (.int (0 : Int32)), (.int (0 : Int32)), (.int (0 : Int32)), (.int (0 : Int32)), (.int (0 : Int32)), (.int (0 : Int32))] (.int (0 : Int32)) := A1.pad (pad_rep [] (.int (0 : Int32)) 11)
  refine g_astoreN X1 hx 4 #[.val (.ref b), .val (.int (0 : Int32)), .val (.int (11 : Int32)), .val (.ref b1), .unset, .unset] (hb hby d5_3) rfl rfl rfl ?_
  refine g_aloadN X1 hx 5 (hb hby d5_4) rfl rfl rfl ?_
  refine g_iloadN X1 hx 6 (hb hby d5_5) rfl rfl ?_
  refine g_aloadN X1 hx 7 (hb hby d5_6) rfl rfl rfl ?_
  refine g_iconst X1 hx 8 (0 : Int32) (hb hby d5_7) (by decide) rfl ?_
  refine g_iloadN X1 hx 9 (hb hby d5_8) rfl rfl ?_
  refine g_callS X1 hx 12 hZ hown (own_w hw 24 rfl) (own_w hw 25 rfl) (own_w hw 21 rfl) (own_w hw 26 rfl) (by decide) [(.ref b), (.int (0 : Int32)), (.ref b1), (.int (0 : Int32)), (.int (11 : Int32))] [] (ru11_inner l Z a0 hw b b1 c0 c1 c2 c3 c4 c5 c6 c7 c8 c9 c10 kB kl1 h1 n0 Z1 G_b1 V_b V_b1 (Ne.symm ne_b_b1)) e1 0 (by decide) (by decide) (by decide) (by decide) (by rw [hml]; rfl) (lenOf own_pd0 rfl) (hb hby d5_9) rfl (Nat.le_of_eq rfl) rfl (fun v2 T2 L2 X2 hQ2 => ?_)
  obtain ⟨rfl, N2q, K2, V_b1⟩ := hQ2
  have N2 := Fr.app N0 N2q
  have hF : (own_fst11 c0 c1 c2 c3 c4 c5 c6 c7 c8 c9 c10) = (11 : Int32) := own_fst11_n hc0 hc1 hc2 hc3 hc4 hc5 hc6 hc7 hc8 hc9 hc10
  have V_b1 := V_b1 hF
  have KK2 : Keep h0 T2.heap [] := K1.trans K2 (allS (Or.inr SZ_b1) all0)
  refine g_istore X2 hx 14 #[.val (.ref b), .val (.int (0 : Int32)), .val (.int (11 : Int32)), .val (.ref b1), .val (.int (own_fst11 c0 c1 c2 c3 c4 c5 c6 c7 c8 c9 c10)), .unset] (hb hby d5_12) rfl rfl ?_
  refine g_iload X2 hx 16 (hb hby d5_14) rfl rfl ?_
  refine g_iloadN X2 hx 17 (hb hby d5_16) rfl rfl ?_
  have hk3 : (own_fst11 c0 c1 c2 c3 c4 c5 c6 c7 c8 c9 c10) = (11 : Int32) := hF
  refine g_icT X2 hx 57 (hb hby d5_17) (teq hk3).1 (by decide) (by decide) ?_
  refine g_aloadN X2 hx 58 (hb hby d5_57) rfl rfl rfl ?_
  exact g_retA X2 hx hret hlk rfl rfl rfl (hb hby d5_58) (by decide) (by decide) ⟨b1, kl1, rfl, N2, KK2, SZ_b1, V_b1⟩
set_option maxRecDepth 65536 in
set_option maxHeartbeats 40000000 in
theorem rs11_coder (l : Launch) (Z : State) (a0 : Array Value) (hw : ∀ d ∈ tables_1, d.before a0 Z = true) (t : Addr) (kT : ClassId) (vs : List Value) (h0 : Heap) (n0 : Nat) (Z0 : n0 ≤ h0.size) (V_t : Arv Z h0 t kT .byte (11 : Int32) vs (.int (0 : Int32))) :
    OwnMet l Z (⟨"java/lang/StringUTF16", "coderFromArrayLen", "([BI)B"⟩ : MethodName) jdk_52_method_15_code 2 (some .byte) [] ({ frames := 0, cells := 0, slots := 0, locals := 0 } : Room) [(.ref t), (.int (11 : Int32))] h0 (fun v h L => v = some (.int 0) ∧ Fr n0 L ∧ h = h0) := by
  refine own_body (Ls := #[.val (.ref t), .val (.int (11 : Int32))]) (plainFor_of_name own_pn0) (fun m => by first | (simp [entryFrame, mkF, argsToLocals, Value.category]; done) | rfl) (fun p e s m below meth cO T0 hx hby hml hown hnm hret hlk hZ X0 e0 => ?_)
  have hown : s.vm.findClass "java/lang/StringUTF16" = some m.cls := hown
  have N0 := Fr.nil n0
  refine g_iloadN X0 hx 1 (hb hby d7_0) rfl rfl ?_
  refine g_aloadN X0 hx 2 (hb hby d7_1) rfl rfl rfl ?_
  refine g_arraylength X0 hx 3 hZ e0 V_t (hb hby d7_2) rfl ?_
  refine g_isub X0 hx 4 (0 : Int32) (hb hby d7_3) (by decide) rfl ?_
  refine g_bipush X0 hx 6 (31 : Int32) (hb hby d7_4) (by decide) rfl ?_
  refine g_iushr X0 hx 7 (0 : Int32) (hb hby d7_6) (by decide) rfl ?_
  refine g_i2b X0 hx 8 (0 : Int32) (hb hby d7_7) (by decide) rfl ?_
  exact g_retB X0 hx hret hlk rfl (hb hby d7_8) (by decide) (by decide) ⟨rfl, N0, e0⟩
set_option maxRecDepth 65536 in
set_option maxHeartbeats 40000000 in
theorem rs11_init2 (l : Launch) (Z : State) (a0 : Array Value) (hw : ∀ d ∈ tables_1, d.before a0 Z = true) (a b : Addr) (cs : Int32) (c0 c1 c2 c3 c4 c5 c6 c7 c8 c9 c10 : Int32) (kB : ClassId) (u1 u2 : Value) (h0 : Heap) (n0 : Nat) (Z0 : n0 ≤ h0.size) (g_a : n0 ≤ a) (S_cs : Sta Z h0 "java/lang/String" "COMPACT_STRINGS" "Z" (.int cs)) (hcs : ¬ cs = 0) (E_a : Exa Z h0 a "java/lang/String") (F_v : Fld Z h0 a "java/lang/String" "value" "[B" u1) (F_c : Fld Z h0 a "java/lang/String" "coder" "B" u2) (V_b : Arv Z h0 b kB .char (11 : Int32) [(.int c0), (.int c1), (.int c2), (.int c3), (.int c4), (.int c5), (.int c6), (.int c7), (.int c8), (.int c9), (.int c10)] (.int (0 : Int32))) (hc0 : ¬ 255 < c0) (hc1 : ¬ 255 < c1) (hc2 : ¬ 255 < c2) (hc3 : ¬ 255 < c3) (hc4 : ¬ 255 < c4) (hc5 : ¬ 255 < c5) (hc6 : ¬ 255 < c6) (hc7 : ¬ 255 < c7) (hc8 : ¬ 255 < c8) (hc9 : ¬ 255 < c9) (hc10 : ¬ 255 < c10) :
    OwnMet l Z (⟨"java/lang/String", "<init>", "([CIILjava/lang/Void;)V"⟩ : MethodName) jdk_42_method_149_code 6 none [] ({ frames := 2, cells := 1, slots := 11, locals := 40 } : Room) [(.ref a), (.ref b), (.int (0 : Int32)), (.int (11 : Int32)), .null] h0 (fun v h L => v = none ∧ Fr n0 L ∧ Keep h0 h [a] ∧ ∃ (t : Addr) (kT : ClassId), h0.size ≤ t ∧ Exa Z h a "java/lang/String" ∧ Fld Z h a "java/lang/String" "value" "[B" (.ref t) ∧ Fld Z h a "java/lang/String" "coder" "B" (.int 0) ∧ Arv Z h t kT .byte (11 : Int32) [(.int (nar .byte (c0.toInt8.toInt32))), (.int (nar .byte (c1.toInt8.toInt32))), (.int (nar .byte (c2.toInt8.toInt32))), (.int (nar .byte (c3.toInt8.toInt32))), (.int (nar .byte (c4.toInt8.toInt32))), (.int (nar .byte (c5.toInt8.toInt32))), (.int (nar .byte (c6.toInt8.toInt32))), (.int (nar .byte (c7.toInt8.toInt32))), (.int (nar .byte (c8.toInt8.toInt32))), (.int (nar .byte (c9.toInt8.toInt32))), (.int (nar .byte (c10.toInt8.toInt32)))] (.int (0 : Int32))) := by
  refine own_body (Ls := #[.val (.ref a), .val (.ref b), .val (.int (0 : Int32)), .val (.int (11 : Int32)), .val .null, .unset]) (plainFor_of_name own_pn1) (fun m => by first | (simp [entryFrame, mkF, argsToLocals, Value.category]; done) | rfl) (fun p e s m below meth cO T0 hx hby hml hown hnm hret hlk hZ X0 e0 => ?_)
  have hown : s.vm.findClass "java/lang/String" = some m.cls := hown
  have N0 := Fr.nil n0
  have K0 := Keep.refl h0 [a]
  refine g_aloadN X0 hx 1 (hb hby d3_0) rfl rfl rfl ?_
  refine g_initO X0 hx 4 hZ hown (own_w hw 15 rfl) (own_w hw 16 rfl) (own_w hw 17 rfl) e0 (by rw [hml]; rfl) (hb hby d3_1) (by decide) 0 (Nat.le_of_eq rfl) (by decide) rfl (fun T1 X1 e1 => ?_)
  refine g_iloadN X1 hx 5 (hb hby d3_4) rfl rfl ?_
  refine g_ifT X1 hx 27 (hb hby d3_5) (by decide) (by decide) (by decide) ?_
  refine g_getS X1 hx 30 hZ hown (host := "") (Or.inl (own_w hw 18 rfl)) Via.refl e1 S_cs (hb hby d3_27) rfl (fun T2 X2 e2 => ?_)
  have hk3 : ¬ (cs = (0 : Int32)) := hcs
  refine g_ifF X2 hx 33 (hb hby d3_30) ((if0 _ _).trans (feq hk3).1) rfl ?_
  refine g_aloadN X2 hx 34 (hb hby d3_33) rfl rfl rfl ?_
  refine g_iloadN X2 hx 35 (hb hby d3_34) rfl rfl ?_
  refine g_iloadN X2 hx 36 (hb hby d3_35) rfl rfl ?_
  refine g_callS X2 hx 39 hZ hown (own_w hw 19 rfl) (own_w hw 20 rfl) (own_w hw 21 rfl) (own_w hw 22 rfl) (by decide) [(.ref b), (.int (0 : Int32)), (.int (11 : Int32))] [] (rs11_outer l Z a0 hw b c0 c1 c2 c3 c4 c5 c6 c7 c8 c9 c10 kB h0 n0 Z0 V_b hc0 hc1 hc2 hc3 hc4 hc5 hc6 hc7 hc8 hc9 hc10) e2 0 (by decide) (by decide) (by decide) (by decide) (by rw [hml]; rfl) (lenOf own_pd1 rfl) (hb hby d3_36) rfl (Nat.le_of_eq rfl) rfl (fun v4 T4 L4 X4 hQ4 => ?_)
  obtain ⟨t, kT, rfl, N4q, K4, hst, V_t⟩ := hQ4
  have N4 := Fr.app N0 N4q
  have E_a := E_a.keep K4
  have F_v := F_v.keep K4 nin0
  have F_c := F_c.keep K4 nin0
  have V_b := V_b.keep K4 nin0
  have KK4 := K0.trans K4 all0
  have Z4 := Nat.le_trans Z0 K4.1
  have ne_t_a : t ≠ a := Ne.symm (Exa.neArv E_a V_t (own_w hw 6 rfl))
  have ne_b_a : b ≠ a := Ne.symm (Exa.neArv E_a V_b (own_w hw 6 rfl))
  refine g_astore X4 hx 41 #[.val (.ref a), .val (.ref b), .val (.int (0 : Int32)), .val (.int (11 : Int32)), .val .null, .val (.ref t)] (hb hby d3_39) rfl rfl rfl ?_
  refine g_aloadN X4 hx 42 (hb hby d3_41) rfl rfl rfl ?_
  refine g_aload X4 hx 44 (hb hby d3_42) rfl rfl rfl ?_
  refine g_iloadN X4 hx 45 (hb hby d3_44) rfl rfl ?_
  refine g_callS X4 hx 48 hZ hown (own_w hw 27 rfl) (own_w hw 28 rfl) (own_w hw 21 rfl) (own_w hw 29 rfl) (by decide) [(.ref t), (.int (11 : Int32))] [(.ref a)] (rs11_coder l Z a0 hw t kT _ T4.heap n0 Z4 V_t) rfl 1 (by decide) (by decide) (by decide) (by decide) (by rw [hml]; rfl) (lenOf own_pd2 rfl) (hb hby d3_45) rfl (Nat.le_of_eq rfl) rfl (fun v5 T5 L5 X5 hQ5 => ?_)
  obtain ⟨rfl, N5q, e5⟩ := hQ5
  have N5 := Fr.app N4 N5q
  refine g_putF X5 hx 51 hZ hown (host := "") (Or.inl (own_w hw 30 rfl)) Via.refl e5 F_c E_a (Or.inr ⟨(own_w hw 31 rfl), rfl, hnm⟩) (own_w hw 6 rfl) (ty := .byte) (by decide) rfl rfl (hb hby d3_48) rfl (fun T6 h6 X6 e6 W6 => ?_)
  have E_a := E_a.wr W6
  have F_v := F_v.other W6 (Or.inr (slot_ne (Or.inr (own_w hw 33 rfl)) (Or.inr (own_w hw 31 rfl)) (by decide) (t := (.array .byte)) (t' := .byte) (by decide) (by decide)))
  have F_c := F_c.same W6
  have V_b := V_b.other W6 ne_b_a
  have V_t := V_t.other W6 ne_t_a
  have N6 := Fr.snoc X6 N5 g_a
  have Z6 : n0 ≤ h6.size := by rw [W6.size]; exact Z4
  have K6 := KK4.wr W6 (Or.inl (List.mem_of_getElem? (i := 0) rfl))
  refine g_aloadN X6 hx 52 (hb hby d3_51) rfl rfl rfl ?_
  refine g_aload X6 hx 54 (hb hby d3_52) rfl rfl rfl ?_
  refine g_putF X6 hx 57 hZ hown (host := "") (Or.inl (own_w hw 32 rfl)) Via.refl e6 F_v E_a (Or.inr ⟨(own_w hw 33 rfl), rfl, hnm⟩) (own_w hw 6 rfl) (ty := (.array .byte)) (by decide) rfl rfl (hb hby d3_54) rfl (fun T7 h7 X7 e7 W7 => ?_)
  have E_a := E_a.wr W7
  have F_v := F_v.same W7
  have F_c := F_c.other W7 (Or.inr (slot_ne (Or.inr (own_w hw 31 rfl)) (Or.inr (own_w hw 33 rfl)) (by decide) (t := .byte) (t' := (.array .byte)) (by decide) (by decide)))
  have V_b := V_b.other W7 ne_b_a
  have V_t := V_t.other W7 ne_t_a
  have N7 := Fr.snoc X7 N6 g_a
  have Z7 : n0 ≤ h7.size := by rw [W7.size]; exact Z6
  have K7 := K6.wr W7 (Or.inl (List.mem_of_getElem? (i := 0) rfl))
  exact g_retV X7 hx hret hlk (hb hby d3_57) (by decide) (by decide) (by rw [e7]; exact ⟨rfl, N7, K7, t, kT, hst, E_a, F_v, F_c, V_t⟩)
set_option maxRecDepth 65536 in
set_option maxHeartbeats 40000000 in
theorem rs11_init1 (l : Launch) (Z : State) (a0 : Array Value) (hw : ∀ d ∈ tables_1, d.before a0 Z = true) (a b : Addr) (cs : Int32) (c0 c1 c2 c3 c4 c5 c6 c7 c8 c9 c10 : Int32) (kB : ClassId) (u1 u2 : Value) (h0 : Heap) (n0 : Nat) (Z0 : n0 ≤ h0.size) (g_a : n0 ≤ a) (S_cs : Sta Z h0 "java/lang/String" "COMPACT_STRINGS" "Z" (.int cs)) (hcs : ¬ cs = 0) (E_a : Exa Z h0 a "java/lang/String") (F_v : Fld Z h0 a "java/lang/String" "value" "[B" u1) (F_c : Fld Z h0 a "java/lang/String" "coder" "B" u2) (V_b : Arv Z h0 b kB .char (11 : Int32) [(.int c0), (.int c1), (.int c2), (.int c3), (.int c4), (.int c5), (.int c6), (.int c7), (.int c8), (.int c9), (.int c10)] (.int (0 : Int32))) (hc0 : ¬ 255 < c0) (hc1 : ¬ 255 < c1) (hc2 : ¬ 255 < c2) (hc3 : ¬ 255 < c3) (hc4 : ¬ 255 < c4) (hc5 : ¬ 255 < c5) (hc6 : ¬ 255 < c6) (hc7 : ¬ 255 < c7) (hc8 : ¬ 255 < c8) (hc9 : ¬ 255 < c9) (hc10 : ¬ 255 < c10) :
    OwnMet l Z (⟨"java/lang/String", "<init>", "([C)V"⟩ : MethodName) jdk_42_method_3_code 2 none [] ({ frames := 3, cells := 1, slots := 11, locals := 60 } : Room) [(.ref a), (.ref b)] h0 (fun v h L => v = none ∧ Fr n0 L ∧ Keep h0 h [a] ∧ ∃ (t : Addr) (kT : ClassId), h0.size ≤ t ∧ Exa Z h a "java/lang/String" ∧ Fld Z h a "java/lang/String" "value" "[B" (.ref t) ∧ Fld Z h a "java/lang/String" "coder" "B" (.int 0) ∧ Arv Z h t kT .byte (11 : Int32) [(.int (nar .byte (c0.toInt8.toInt32))), (.int (nar .byte (c1.toInt8.toInt32))), (.int (nar .byte (c2.toInt8.toInt32))), (.int (nar .byte (c3.toInt8.toInt32))), (.int (nar .byte (c4.toInt8.toInt32))), (.int (nar .byte (c5.toInt8.toInt32))), (.int (nar .byte (c6.toInt8.toInt32))), (.int (nar .byte (c7.toInt8.toInt32))), (.int (nar .byte (c8.toInt8.toInt32))), (.int (nar .byte (c9.toInt8.toInt32))), (.int (nar .byte (c10.toInt8.toInt32)))] (.int (0 : Int32))) := by
  refine own_body (Ls := #[.val (.ref a), .val (.ref b)]) (plainFor_of_name own_pn1) (fun m => by first | (simp [entryFrame, mkF, argsToLocals, Value.category]; done) | rfl) (fun p e s m below meth cO T0 hx hby hml hown hnm hret hlk hZ X0 e0 => ?_)
  have hown : s.vm.findClass "java/lang/String" = some m.cls := hown
  have N0 := Fr.nil n0
  refine g_aloadN X0 hx 1 (hb hby d2_0) rfl rfl rfl ?_
  refine g_aloadN X0 hx 2 (hb hby d2_1) rfl rfl rfl ?_
  refine g_iconst X0 hx 3 (0 : Int32) (hb hby d2_2) (by decide) rfl ?_
  refine g_aloadN X0 hx 4 (hb hby d2_3) rfl rfl rfl ?_
  refine g_arraylength X0 hx 5 hZ e0 V_b (hb hby d2_4) rfl ?_
  refine g_aconst_null X0 hx 6 (hb hby d2_5) rfl ?_
  refine g_callI X0 hx 9 hZ rfl hown (own_w hw 11 rfl) (own_w hw 12 rfl) (own_w hw 7 rfl) (own_w hw 14 rfl) (by decide) a [(.ref b), (.int (0 : Int32)), (.int (11 : Int32)), .null] [] (rs11_init2 l Z a0 hw a b cs c0 c1 c2 c3 c4 c5 c6 c7 c8 c9 c10 kB u1 u2 h0 n0 Z0 g_a S_cs hcs E_a F_v F_c V_b hc0 hc1 hc2 hc3 hc4 hc5 hc6 hc7 hc8 hc9 hc10) e0 0 (by decide) (by decide) (by decide) (by decide) (by rw [hml]; rfl) (lenOf own_pd3 rfl) (hb hby d2_6) rfl (Nat.le_of_eq rfl) rfl (fun v1 T1 L1 X1 hQ1 => ?_)
  obtain ⟨rfl, N1q, hR1⟩ := hQ1
  have N1 := Fr.app N0 N1q
  exact g_retV X1 hx hret hlk (hb hby d2_9) (by decide) (by decide) ⟨rfl, N1, hR1⟩
def own_fst12 (c0 c1 c2 c3 c4 c5 c6 c7 c8 c9 c10 c11 : Int32) : Int32 := if 255 < c0 then 0 else if 255 < c1 then 1 else if 255 < c2 then 2 else if 255 < c3 then 3 else if 255 < c4 then 4 else if 255 < c5 then 5 else if 255 < c6 then 6 else if 255 < c7 then 7 else if 255 < c8 then 8 else if 255 < c9 then 9 else if 255 < c10 then 10 else if 255 < c11 then 11 else 12
theorem own_fst12_n {c0 c1 c2 c3 c4 c5 c6 c7 c8 c9 c10 c11 : Int32} (hc0 : ¬ 255 < c0) (hc1 : ¬ 255 < c1) (hc2 : ¬ 255 < c2) (hc3 : ¬ 255 < c3) (hc4 : ¬ 255 < c4) (hc5 : ¬ 255 < c5) (hc6 : ¬ 255 < c6) (hc7 : ¬ 255 < c7) (hc8 : ¬ 255 < c8) (hc9 : ¬ 255 < c9) (hc10 : ¬ 255 < c10) (hc11 : ¬ 255 < c11) : own_fst12 c0 c1 c2 c3 c4 c5 c6 c7 c8 c9 c10 c11 = (12 : Int32) := by unfold own_fst12; rw [if_neg hc0, if_neg hc1, if_neg hc2, if_neg hc3, if_neg hc4, if_neg hc5, if_neg hc6, if_neg hc7, if_neg hc8, if_neg hc9, if_neg hc10, if_neg hc11]
set_option maxRecDepth 65536 in
set_option maxHeartbeats 40000000 in
theorem ru12_inner (l : Launch) (Z : State) (a0 : Array Value) (hw : ∀ d ∈ tables_1, d.before a0 Z = true) (b t : Addr) (c0 c1 c2 c3 c4 c5 c6 c7 c8 c9 c10 c11 : Int32) (kB kT : ClassId) (h0 : Heap) (n0 : Nat) (Z0 : n0 ≤ h0.size) (g_t : n0 ≤ t) (V_b : Arv Z h0 b kB .char (12 : Int32) [(.int c0), (.int c1), (.int c2), (.int c3), (.int c4), (.int c5), (.int c6), (.int c7), (.int c8), (.int c9), (.int c10), (.int c11)] (.int (0 : Int32))) (V_t : Arv Z h0 t kT .byte (12 : Int32) [(.int (0 : Int32)), (.int (0 : Int32)), (.int (0 : Int32)), (.int (0 : Int32)), (.int (0 : Int32)), (.int (0 : Int32)), (.int (0 : Int32)), (.int (0 : Int32)), (.int (0 : Int32)), (.int (0 : Int32)), (.int (0 : Int32)), (.int (0 : Int32))] (.int (0 : Int32))) (ne_t_b : t ≠ b) :
    OwnMet l Z (⟨"java/lang/StringUTF16", "compress", "([CI[BII)I"⟩ : MethodName) jdk_52_method_21_code 7 (some .int) [] ({ frames := 0, cells := 0, slots := 0, locals := 0 } : Room) [(.ref b), (.int (0 : Int32)), (.ref t), (.int (0 : Int32)), (.int (12 : Int32))] h0 (fun v h L => v = some (.int (own_fst12 c0 c1 c2 c3 c4 c5 c6 c7 c8 c9 c10 c11)) ∧ Fr n0 L ∧ Keep h0 h [t] ∧ (own_fst12 c0 c1 c2 c3 c4 c5 c6 c7 c8 c9 c10 c11 = (12 : Int32) → Arv Z h t kT .byte (12 : Int32) [(.int (own_bt c0)), (.int (own_bt c1)), (.int (own_bt c2)), (.int (own_bt c3)), (.int (own_bt c4)), (.int (own_bt c5)), (.int (own_bt c6)), (.int (own_bt c7)), (.int (own_bt c8)), (.int (own_bt c9)), (.int (own_bt c10)), (.int (own_bt c11))] (.int (0 : Int32)))) := by
  refine own_body (Ls := #[.val (.ref b), .val (.int (0 : Int32)), .val (.ref t), .val (.int (0 : Int32)), .val (.int (12 : Int32)), .unset, .unset]) (plainFor_of_name own_pn0) (fun m => by first | (simp [entryFrame, mkF, argsToLocals, Value.category]; done) | rfl) (fun p e s m below meth cO T0 hx hby hml hown hnm hret hlk hZ X0 e0 => ?_)
  have hown : s.vm.findClass "java/lang/StringUTF16" = some m.cls := hown
  have N0 := Fr.nil n0
  have K0 := Keep.refl h0 [t]
  refine g_iconst X0 hx 1 (0 : Int32) (hb hby d6_0) (by decide) rfl ?_
  refine g_istore X0 hx 3 #[.val (.ref b), .val (.int (0 : Int32)), .val (.ref t), .val (.int (0 : Int32)), .val (.int (12 : Int32)), .val (.int (0 : Int32)), .unset] (hb hby d6_1) rfl rfl ?_
  refine g_iload X0 hx 5 (hb hby d6_3) rfl rfl ?_
  refine g_iload X0 hx 7 (hb hby d6_5) rfl rfl ?_
  refine g_icF X0 hx 10 (hb hby d6_7) (by decide) rfl ?_
  refine g_aloadN X0 hx 11 (hb hby d6_10) rfl rfl rfl ?_
  refine g_iloadN X0 hx 12 (hb hby d6_11) rfl rfl ?_
  refine g_caload X0 hx 13 hZ e0 V_b ⟨by decide, by decide⟩ (show _ = (.int c0) from rfl) (hb hby d6_12) rfl ?_
  refine g_istore X0 hx 15 #[.val (.ref b), .val (.int (0 : Int32)), .val (.ref t), .val (.int (0 : Int32)), .val (.int (12 : Int32)), .val (.int (0 : Int32)), .val (.int c0)] (hb hby d6_13) rfl rfl ?_
  refine g_iload X0 hx 17 (hb hby d6_15) rfl rfl ?_
  refine g_sipush X0 hx 20 (255 : Int32) (hb hby d6_17) (by decide) rfl ?_
  by_cases hc1 : (255 : Int32) < c0
  · refine g_icF X0 hx 23 (hb hby d6_20) (tlt hc1).2.2.2 rfl ?_
    refine g_iload X0 hx 25 (hb hby d6_23) rfl rfl ?_
    have hF : own_fst12 c0 c1 c2 c3 c4 c5 c6 c7 c8 c9 c10 c11 = (0 : Int32) := by unfold own_fst12; rw [if_pos hc1]
    exact g_retI X0 hx hret hlk (hb hby d6_25) (by decide) (by decide) (by rw [e0, hF]; exact ⟨rfl, N0, K0, fun q => absurd q (by decide)⟩)
  · refine g_icT X0 hx 26 (hb hby d6_20) (flt hc1).2.2.2 (by decide) (by decide) ?_
    refine g_aloadN X0 hx 27 (hb hby d6_26) rfl rfl rfl ?_
    refine g_iloadN X0 hx 28 (hb hby d6_27) rfl rfl ?_
    refine g_iload X0 hx 30 (hb hby d6_28) rfl rfl ?_
    refine g_i2b X0 hx 31 (c0.toInt8.toInt32) (hb hby d6_30) rfl rfl ?_
    refine g_bastore X0 hx 32 hZ e0 V_t 0 (by decide) ⟨by decide, by decide⟩ (Nat.le_of_ble_eq_true rfl) (hb hby d6_31) rfl (fun T2 h2 X2 e2 W2 V2 => ?_)
    have V_b := V_b.other W2 (Ne.symm ne_t_b)
    have V_t : Arv Z h2 t kT .byte (12 : Int32) [(.int (nar .byte (c0.toInt8.toInt32))), (.int (0 : Int32)), (.int (0 : Int32)), (.int (0 : Int32)), (.int (0 : Int32)), (.int (0 : Int32)), (.int (0 : Int32)), (.int (0 : Int32)), (.int (0 : Int32)), (.int (0 : Int32)), (.int (0 : Int32)), (.int (0 : Int32))] (.int (0 : Int32)) := V2
    have N2 := Fr.snoc X2 N0 g_t
    have Z2 : n0 ≤ h2.size := by rw [W2.size]; exact Z0
    have K2 := K0.wr W2 (Or.inl (List.mem_of_getElem? (i := 0) rfl))
    refine g_iinc X2 hx 35 (1 : Int32) #[.val (.ref b), .val (.int (1 : Int32)), .val (.ref t), .val (.int (0 : Int32)), .val (.int (12 : Int32)), .val (.int (0 : Int32)), .val (.int c0)] (hb hby d6_32) rfl (by decide) rfl rfl ?_
    refine g_iinc X2 hx 38 (1 : Int32) #[.val (.ref b), .val (.int (1 : Int32)), .val (.ref t), .val (.int (1 : Int32)), .val (.int (12 : Int32)), .val (.int (0 : Int32)), .val (.int c0)] (hb hby d6_35) rfl (by decide) rfl rfl ?_
    refine g_iinc X2 hx 41 (1 : Int32) #[.val (.ref b), .val (.int (1 : Int32)), .val (.ref t), .val (.int (1 : Int32)), .val (.int (12 : Int32)), .val (.int (1 : Int32)), .val (.int c0)] (hb hby d6_38) rfl (by decide) rfl rfl ?_
    refine g_goto X2 hx 3 (hb hby d6_41) (by decide) (by decide) ?_
    refine g_iload X2 hx 5 (hb hby d6_3) rfl rfl ?_
    refine g_iload X2 hx 7 (hb hby d6_5) rfl rfl ?_
    refine g_icF X2 hx 10 (hb hby d6_7) (by decide) rfl ?_
    refine g_aloadN X2 hx 11 (hb hby d6_10) rfl rfl rfl ?_
    refine g_iloadN X2 hx 12 (hb hby d6_11) rfl rfl ?_
    refine g_caload X2 hx 13 hZ e2 V_b ⟨by decide, by decide⟩ (show _ = (.int c1) from rfl) (hb hby d6_12) rfl ?_
    refine g_istore X2 hx 15 #[.val (.ref b), .val (.int (1 : Int32)), .val (.ref t), .val (.int (1 : Int32)), .val (.int (12 : Int32)), .val (.int (1 : Int32)), .val (.int c1)] (hb hby d6_13) rfl rfl ?_
    refine g_iload X2 hx 17 (hb hby d6_15) rfl rfl ?_
    refine g_sipush X2 hx 20 (255 : Int32) (hb hby d6_17) (by decide) rfl ?_
    by_cases hc3 : (255 : Int32) < c1
    · refine g_icF X2 hx 23 (hb hby d6_20) (tlt hc3).2.2.2 rfl ?_
      refine g_iload X2 hx 25 (hb hby d6_23) rfl rfl ?_
      have hF : own_fst12 c0 c1 c2 c3 c4 c5 c6 c7 c8 c9 c10 c11 = (1 : Int32) := by unfold own_fst12; rw [if_neg hc1, if_pos hc3]
      exact g_retI X2 hx hret hlk (hb hby d6_25) (by decide) (by decide) (by rw [e2, hF]; exact ⟨rfl, N2, K2, fun q => absurd q (by decide)⟩)
    · refine g_icT X2 hx 26 (hb hby d6_20) (flt hc3).2.2.2 (by decide) (by decide) ?_
      refine g_aloadN X2 hx 27 (hb hby d6_26) rfl rfl rfl ?_
      refine g_iloadN X2 hx 28 (hb hby d6_27) rfl rfl ?_
      refine g_iload X2 hx 30 (hb hby d6_28) rfl rfl ?_
      refine g_i2b X2 hx 31 (c1.toInt8.toInt32) (hb hby d6_30) rfl rfl ?_
      refine g_bastore X2 hx 32 hZ e2 V_t 1 (by decide) ⟨by decide, by decide⟩ (Nat.le_of_ble_eq_true rfl) (hb hby d6_31) rfl (fun T4 h4 X4 e4 W4 V4 => ?_)
      have V_b := V_b.other W4 (Ne.symm ne_t_b)
      have V_t : Arv Z h4 t kT .byte (12 : Int32) [(.int (nar .byte (c0.toInt8.toInt32))), (.int (nar .byte (c1.toInt8.toInt32))), (.int (0 : Int32)), (.int (0 : Int32)), (.int (0 : Int32)), (.int (0 : Int32)), (.int (0 : Int32)), (.int (0 : Int32)), (.int (0 : Int32)), (.int (0 : Int32)), (.int (0 : Int32)), (.int (0 : Int32))] (.int (0 : Int32)) := V4
      have N4 := Fr.snoc X4 N2 g_t
      have Z4 : n0 ≤ h4.size := by rw [W4.size]; exact Z2
      have K4 := K2.wr W4 (Or.inl (List.mem_of_getElem? (i := 0) rfl))
      refine g_iinc X4 hx 35 (2 : Int32) #[.val (.ref b), .val (.int (2 : Int32)), .val (.ref t), .val (.int (1 : Int32)), .val (.int (12 : Int32)), .val (.int (1 : Int32)), .val (.int c1)] (hb hby d6_32) rfl (by decide) rfl rfl ?_
      refine g_iinc X4 hx 38 (2 : Int32) #[.val (.ref b), .val (.int (2 : Int32)), .val (.ref t), .val (.int (2 : Int32)), .val (.int (12 : Int32)), .val (.int (1 : Int32)), .val (.int c1)] (hb hby d6_35) rfl (by decide) rfl rfl ?_
      refine g_iinc X4 hx 41 (2 : Int32) #[.val (.ref b), .val (.int (2 : Int32)), .val (.ref t), .val (.int (2 : Int32)), .val (.int (12 : Int32)), .val (.int (2 : Int32)), .val (.int c1)] (hb hby d6_38) rfl (by decide) rfl rfl ?_
      refine g_goto X4 hx 3 (hb hby d6_41) (by decide) (by decide) ?_
      refine g_iload X4 hx 5 (hb hby d6_3) rfl rfl ?_
      refine g_iload X4 hx 7 (hb hby d6_5) rfl rfl ?_
      refine g_icF X4 hx 10 (hb hby d6_7) (by decide) rfl ?_
      refine g_aloadN X4 hx 11 (hb hby d6_10) rfl rfl rfl ?_
      refine g_iloadN X4 hx 12 (hb hby d6_11) rfl rfl ?_
      refine g_caload X4 hx 13 hZ e4 V_b ⟨by decide, by decide⟩ (show _ = (.int c2) from rfl) (hb hby d6_12) rfl ?_
      refine g_istore X4 hx 15 #[.val (.ref b), .val (.int (2 : Int32)), .val (.ref t), .val (.int (2 : Int32)), .val (.int (12 : Int32)), .val (.int (2 : Int32)), .val (.int c2)] (hb hby d6_13) rfl rfl ?_
      refine g_iload X4 hx 17 (hb hby d6_15) rfl rfl ?_
      refine g_sipush X4 hx 20 (255 : Int32) (hb hby d6_17) (by decide) rfl ?_
      by_cases hc5 : (255 : Int32) < c2
      · refine g_icF X4 hx 23 (hb hby d6_20) (tlt hc5).2.2.2 rfl ?_
        refine g_iload X4 hx 25 (hb hby d6_23) rfl rfl ?_
        have hF : own_fst12 c0 c1 c2 c3 c4 c5 c6 c7 c8 c9 c10 c11 = (2 : Int32) := by unfold own_fst12; rw [if_neg hc1, if_neg hc3, if_pos hc5]
        exact g_retI X4 hx hret hlk (hb hby d6_25) (by decide) (by decide) (by rw [e4, hF]; exact ⟨rfl, N4, K4, fun q => absurd q (by decide)⟩)
      · refine g_icT X4 hx 26 (hb hby d6_20) (flt hc5).2.2.2 (by decide) (by decide) ?_
        refine g_aloadN X4 hx 27 (hb hby d6_26) rfl rfl rfl ?_
        refine g_iloadN X4 hx 28 (hb hby d6_27) rfl rfl ?_
        refine g_iload X4 hx 30 (hb hby d6_28) rfl rfl ?_
        refine g_i2b X4 hx 31 (c2.toInt8.toInt32) (hb hby d6_30) rfl rfl ?_
        refine g_bastore X4 hx 32 hZ e4 V_t 2 (by decide) ⟨by decide, by decide⟩ (Nat.le_of_ble_eq_true rfl) (hb hby d6_31) rfl (fun T6 h6 X6 e6 W6 V6 => ?_)
        have V_b := V_b.other W6 (Ne.symm ne_t_b)
        have V_t : Arv Z h6 t kT .byte (12 : Int32) [(.int (nar .byte (c0.toInt8.toInt32))), (.int (nar .byte (c1.toInt8.toInt32))), (.int (nar .byte (c2.toInt8.toInt32))), (.int (0 : Int32)), (.int (0 : Int32)), (.int (0 : Int32)), (.int (0 : Int32)), (.int (0 : Int32)), (.int (0 : Int32)), (.int (0 : Int32)), (.int (0 : Int32)), (.int (0 : Int32))] (.int (0 : Int32)) := V6
        have N6 := Fr.snoc X6 N4 g_t
        have Z6 : n0 ≤ h6.size := by rw [W6.size]; exact Z4
        have K6 := K4.wr W6 (Or.inl (List.mem_of_getElem? (i := 0) rfl))
        refine g_iinc X6 hx 35 (3 : Int32) #[.val (.ref b), .val (.int (3 : Int32)), .val (.ref t), .val (.int (2 : Int32)), .val (.int (12 : Int32)), .val (.int (2 : Int32)), .val (.int c2)] (hb hby d6_32) rfl (by decide) rfl rfl ?_
        refine g_iinc X6 hx 38 (3 : Int32) #[.val (.ref b), .val (.int (3 : Int32)), .val (.ref t), .val (.int (3 : Int32)), .val (.int (12 : Int32)), .val (.int (2 : Int32)), .val (.int c2)] (hb hby d6_35) rfl (by decide) rfl rfl ?_
        refine g_iinc X6 hx 41 (3 : Int32) #[.val (.ref b), .val (.int (3 : Int32)), .val (.ref t), .val (.int (3 : Int32)), .val (.int (12 : Int32)), .val (.int (3 : Int32)), .val (.int c2)] (hb hby d6_38) rfl (by decide) rfl rfl ?_
        refine g_goto X6 hx 3 (hb hby d6_41) (by decide) (by decide) ?_
        refine g_iload X6 hx 5 (hb hby d6_3) rfl rfl ?_
        refine g_iload X6 hx 7 (hb hby d6_5) rfl rfl ?_
        refine g_icF X6 hx 10 (hb hby d6_7) (by decide) rfl ?_
        refine g_aloadN X6 hx 11 (hb hby d6_10) rfl rfl rfl ?_
        refine g_iloadN X6 hx 12 (hb hby d6_11) rfl rfl ?_
        refine g_caload X6 hx 13 hZ e6 V_b ⟨by decide, by decide⟩ (show _ = (.int c3) from rfl) (hb hby d6_12) rfl ?_
        refine g_istore X6 hx 15 #[.val (.ref b), .val (.int (3 : Int32)), .val (.ref t), .val (.int (3 : Int32)), .val (.int (12 : Int32)), .val (.int (3 : Int32)), .val (.int c3)] (hb hby d6_13) rfl rfl ?_
        refine g_iload X6 hx 17 (hb hby d6_15) rfl rfl ?_
        refine g_sipush X6 hx 20 (255 : Int32) (hb hby d6_17) (by decide) rfl ?_
        by_cases hc7 : (255 : Int32) < c3
        · refine g_icF X6 hx 23 (hb hby d6_20) (tlt hc7).2.2.2 rfl ?_
          refine g_iload X6 hx 25 (hb hby d6_23) rfl rfl ?_
          have hF : own_fst12 c0 c1 c2 c3 c4 c5 c6 c7 c8 c9 c10 c11 = (3 : Int32) := by unfold own_fst12; rw [if_neg hc1, if_neg hc3, if_neg hc5, if_pos hc7]
          exact g_retI X6 hx hret hlk (hb hby d6_25) (by decide) (by decide) (by rw [e6, hF]; exact ⟨rfl, N6, K6, fun q => absurd q (by decide)⟩)
        · refine g_icT X6 hx 26 (hb hby d6_20) (flt hc7).2.2.2 (by decide) (by decide) ?_
          refine g_aloadN X6 hx 27 (hb hby d6_26) rfl rfl rfl ?_
          refine g_iloadN X6 hx 28 (hb hby d6_27) rfl rfl ?_
          refine g_iload X6 hx 30 (hb hby d6_28) rfl rfl ?_
          refine g_i2b X6 hx 31 (c3.toInt8.toInt32) (hb hby d6_30) rfl rfl ?_
          refine g_bastore X6 hx 32 hZ e6 V_t 3 (by decide) ⟨by decide, by decide⟩ (Nat.le_of_ble_eq_true rfl) (hb hby d6_31) rfl (fun T8 h8 X8 e8 W8 V8 => ?_)
          have V_b := V_b.other W8 (Ne.symm ne_t_b)
          have V_t : Arv Z h8 t kT .byte (12 : Int32) [(.int (nar .byte (c0.toInt8.toInt32))), (.int (nar .byte (c1.toInt8.toInt32))), (.int (nar .byte (c2.toInt8.toInt32))), (.int (nar .byte (c3.toInt8.toInt32))), (.int (0 : Int32)), (.int (0 : Int32)), (.int (0 : Int32)), (.int (0 : Int32)), (.int (0 : Int32)), (.int (0 : Int32)), (.int (0 : Int32)), (.int (0 : Int32))] (.int (0 : Int32)) := V8
          have N8 := Fr.snoc X8 N6 g_t
          have Z8 : n0 ≤ h8.size := by rw [W8.size]; exact Z6
          have K8 := K6.wr W8 (Or.inl (List.mem_of_getElem? (i := 0) rfl))
          refine g_iinc X8 hx 35 (4 : Int32) #[.val (.ref b), .val (.int (4 : Int32)), .val (.ref t), .val (.int (3 : Int32)), .val (.int (12 : Int32)), .val (.int (3 : Int32)), .val (.int c3)] (hb hby d6_32) rfl (by decide) rfl rfl ?_
          refine g_iinc X8 hx 38 (4 : Int32) #[.val (.ref b), .val (.int (4 : Int32)), .val (.ref t), .val (.int (4 : Int32)), .val (.int (12 : Int32)), .val (.int (3 : Int32)), .val (.int c3)] (hb hby d6_35) rfl (by decide) rfl rfl ?_
          refine g_iinc X8 hx 41 (4 : Int32) #[.val (.ref b), .val (.int (4 : Int32)), .val (.ref t), .val (.int (4 : Int32)), .val (.int (12 : Int32)), .val (.int (4 : Int32)), .val (.int c3)] (hb hby d6_38) rfl (by decide) rfl rfl ?_
          refine g_goto X8 hx 3 (hb hby d6_41) (by decide) (by decide) ?_
          refine g_iload X8 hx 5 (hb hby d6_3) rfl rfl ?_
          refine g_iload X8 hx 7 (hb hby d6_5) rfl rfl ?_
          refine g_icF X8 hx 10 (hb hby d6_7) (by decide) rfl ?_
          refine g_aloadN X8 hx 11 (hb hby d6_10) rfl rfl rfl ?_
          refine g_iloadN X8 hx 12 (hb hby d6_11) rfl rfl ?_
          refine g_caload X8 hx 13 hZ e8 V_b ⟨by decide, by decide⟩ (show _ = (.int c4) from rfl) (hb hby d6_12) rfl ?_
          refine g_istore X8 hx 15 #[.val (.ref b), .val (.int (4 : Int32)), .val (.ref t), .val (.int (4 : Int32)), .val (.int (12 : Int32)), .val (.int (4 : Int32)), .val (.int c4)] (hb hby d6_13) rfl rfl ?_
          refine g_iload X8 hx 17 (hb hby d6_15) rfl rfl ?_
          refine g_sipush X8 hx 20 (255 : Int32) (hb hby d6_17) (by decide) rfl ?_
          by_cases hc9 : (255 : Int32) < c4
          · refine g_icF X8 hx 23 (hb hby d6_20) (tlt hc9).2.2.2 rfl ?_
            refine g_iload X8 hx 25 (hb hby d6_23) rfl rfl ?_
            have hF : own_fst12 c0 c1 c2 c3 c4 c5 c6 c7 c8 c9 c10 c11 = (4 : Int32) := by unfold own_fst12; rw [if_neg hc1, if_neg hc3, if_neg hc5, if_neg hc7, if_pos hc9]
            exact g_retI X8 hx hret hlk (hb hby d6_25) (by decide) (by decide) (by rw [e8, hF]; exact ⟨rfl, N8, K8, fun q => absurd q (by decide)⟩)
          · refine g_icT X8 hx 26 (hb hby d6_20) (flt hc9).2.2.2 (by decide) (by decide) ?_
            refine g_aloadN X8 hx 27 (hb hby d6_26) rfl rfl rfl ?_
            refine g_iloadN X8 hx 28 (hb hby d6_27) rfl rfl ?_
            refine g_iload X8 hx 30 (hb hby d6_28) rfl rfl ?_
            refine g_i2b X8 hx 31 (c4.toInt8.toInt32) (hb hby d6_30) rfl rfl ?_
            refine g_bastore X8 hx 32 hZ e8 V_t 4 (by decide) ⟨by decide, by decide⟩ (Nat.le_of_ble_eq_true rfl) (hb hby d6_31) rfl (fun T10 h10 X10 e10 W10 V10 => ?_)
            have V_b := V_b.other W10 (Ne.symm ne_t_b)
            have V_t : Arv Z h10 t kT .byte (12 : Int32) [(.int (nar .byte (c0.toInt8.toInt32))), (.int (nar .byte (c1.toInt8.toInt32))), (.int (nar .byte (c2.toInt8.toInt32))), (.int (nar .byte (c3.toInt8.toInt32))), (.int (nar .byte (c4.toInt8.toInt32))), (.int (0 : Int32)), (.int (0 : Int32)), (.int (0 : Int32)), (.int (0 : Int32)), (.int (0 : Int32)), (.int (0 : Int32)), (.int (0 : Int32))] (.int (0 : Int32)) := V10
            have N10 := Fr.snoc X10 N8 g_t
            have Z10 : n0 ≤ h10.size := by rw [W10.size]; exact Z8
            have K10 := K8.wr W10 (Or.inl (List.mem_of_getElem? (i := 0) rfl))
            refine g_iinc X10 hx 35 (5 : Int32) #[.val (.ref b), .val (.int (5 : Int32)), .val (.ref t), .val (.int (4 : Int32)), .val (.int (12 : Int32)), .val (.int (4 : Int32)), .val (.int c4)] (hb hby d6_32) rfl (by decide) rfl rfl ?_
            refine g_iinc X10 hx 38 (5 : Int32) #[.val (.ref b), .val (.int (5 : Int32)), .val (.ref t), .val (.int (5 : Int32)), .val (.int (12 : Int32)), .val (.int (4 : Int32)), .val (.int c4)] (hb hby d6_35) rfl (by decide) rfl rfl ?_
            refine g_iinc X10 hx 41 (5 : Int32) #[.val (.ref b), .val (.int (5 : Int32)), .val (.ref t), .val (.int (5 : Int32)), .val (.int (12 : Int32)), .val (.int (5 : Int32)), .val (.int c4)] (hb hby d6_38) rfl (by decide) rfl rfl ?_
            refine g_goto X10 hx 3 (hb hby d6_41) (by decide) (by decide) ?_
            refine g_iload X10 hx 5 (hb hby d6_3) rfl rfl ?_
            refine g_iload X10 hx 7 (hb hby d6_5) rfl rfl ?_
            refine g_icF X10 hx 10 (hb hby d6_7) (by decide) rfl ?_
            refine g_aloadN X10 hx 11 (hb hby d6_10) rfl rfl rfl ?_
            refine g_iloadN X10 hx 12 (hb hby d6_11) rfl rfl ?_
            refine g_caload X10 hx 13 hZ e10 V_b ⟨by decide, by decide⟩ (show _ = (.int c5) from rfl) (hb hby d6_12) rfl ?_
            refine g_istore X10 hx 15 #[.val (.ref b), .val (.int (5 : Int32)), .val (.ref t), .val (.int (5 : Int32)), .val (.int (12 : Int32)), .val (.int (5 : Int32)), .val (.int c5)] (hb hby d6_13) rfl rfl ?_
            refine g_iload X10 hx 17 (hb hby d6_15) rfl rfl ?_
            refine g_sipush X10 hx 20 (255 : Int32) (hb hby d6_17) (by decide) rfl ?_
            by_cases hc11 : (255 : Int32) < c5
            · refine g_icF X10 hx 23 (hb hby d6_20) (tlt hc11).2.2.2 rfl ?_
              refine g_iload X10 hx 25 (hb hby d6_23) rfl rfl ?_
              have hF : own_fst12 c0 c1 c2 c3 c4 c5 c6 c7 c8 c9 c10 c11 = (5 : Int32) := by unfold own_fst12; rw [if_neg hc1, if_neg hc3, if_neg hc5, if_neg hc7, if_neg hc9, if_pos hc11]
              exact g_retI X10 hx hret hlk (hb hby d6_25) (by decide) (by decide) (by rw [e10, hF]; exact ⟨rfl, N10, K10, fun q => absurd q (by decide)⟩)
            · refine g_icT X10 hx 26 (hb hby d6_20) (flt hc11).2.2.2 (by decide) (by decide) ?_
              refine g_aloadN X10 hx 27 (hb hby d6_26) rfl rfl rfl ?_
              refine g_iloadN X10 hx 28 (hb hby d6_27) rfl rfl ?_
              refine g_iload X10 hx 30 (hb hby d6_28) rfl rfl ?_
              refine g_i2b X10 hx 31 (c5.toInt8.toInt32) (hb hby d6_30) rfl rfl ?_
              refine g_bastore X10 hx 32 hZ e10 V_t 5 (by decide) ⟨by decide, by decide⟩ (Nat.le_of_ble_eq_true rfl) (hb hby d6_31) rfl (fun T12 h12 X12 e12 W12 V12 => ?_)
              have V_b := V_b.other W12 (Ne.symm ne_t_b)
              have V_t : Arv Z h12 t kT .byte (12 : Int32) [(.int (nar .byte (c0.toInt8.toInt32))), (.int (nar .byte (c1.toInt8.toInt32))), (.int (nar .byte (c2.toInt8.toInt32))), (.int (nar .byte (c3.toInt8.toInt32))), (.int (nar .byte (c4.toInt8.toInt32))), (.int (nar .byte (c5.toInt8.toInt32))), (.int (0 : Int32)), (.int (0 : Int32)), (.int (0 : Int32)), (.int (0 : Int32)), (.int (0 : Int32)), (.int (0 : Int32))] (.int (0 : Int32)) := V12
              have N12 := Fr.snoc X12 N10 g_t
              have Z12 : n0 ≤ h12.size := by rw [W12.size]; exact Z10
              have K12 := K10.wr W12 (Or.inl (List.mem_of_getElem? (i := 0) rfl))
              refine g_iinc X12 hx 35 (6 : Int32) #[.val (.ref b), .val (.int (6 : Int32)), .val (.ref t), .val (.int (5 : Int32)), .val (.int (12 : Int32)), .val (.int (5 : Int32)), .val (.int c5)] (hb hby d6_32) rfl (by decide) rfl rfl ?_
              refine g_iinc X12 hx 38 (6 : Int32) #[.val (.ref b), .val (.int (6 : Int32)), .val (.ref t), .val (.int (6 : Int32)), .val (.int (12 : Int32)), .val (.int (5 : Int32)), .val (.int c5)] (hb hby d6_35) rfl (by decide) rfl rfl ?_
              refine g_iinc X12 hx 41 (6 : Int32) #[.val (.ref b), .val (.int (6 : Int32)), .val (.ref t), .val (.int (6 : Int32)), .val (.int (12 : Int32)), .val (.int (6 : Int32)), .val (.int c5)] (hb hby d6_38) rfl (by decide) rfl rfl ?_
              refine g_goto X12 hx 3 (hb hby d6_41) (by decide) (by decide) ?_
              refine g_iload X12 hx 5 (hb hby d6_3) rfl rfl ?_
              refine g_iload X12 hx 7 (hb hby d6_5) rfl rfl ?_
              refine g_icF X12 hx 10 (hb hby d6_7) (by decide) rfl ?_
              refine g_aloadN X12 hx 11 (hb hby d6_10) rfl rfl rfl ?_
              refine g_iloadN X12 hx 12 (hb hby d6_11) rfl rfl ?_
              refine g_caload X12 hx 13 hZ e12 V_b ⟨by decide, by decide⟩ (show _ = (.int c6) from rfl) (hb hby d6_12) rfl ?_
              refine g_istore X12 hx 15 #[.val (.ref b), .val (.int (6 : Int32)), .val (.ref t), .val (.int (6 : Int32)), .val (.int (12 : Int32)), .val (.int (6 : Int32)), .val (.int c6)] (hb hby d6_13) rfl rfl ?_
              refine g_iload X12 hx 17 (hb hby d6_15) rfl rfl ?_
              refine g_sipush X12 hx 20 (255 : Int32) (hb hby d6_17) (by decide) rfl ?_
              by_cases hc13 : (255 : Int32) < c6
              · refine g_icF X12 hx 23 (hb hby d6_20) (tlt hc13).2.2.2 rfl ?_
                refine g_iload X12 hx 25 (hb hby d6_23) rfl rfl ?_
                have hF : own_fst12 c0 c1 c2 c3 c4 c5 c6 c7 c8 c9 c10 c11 = (6 : Int32) := by unfold own_fst12; rw [if_neg hc1, if_neg hc3, if_neg hc5, if_neg hc7, if_neg hc9, if_neg hc11, if_pos hc13]
                exact g_retI X12 hx hret hlk (hb hby d6_25) (by decide) (by decide) (by rw [e12, hF]; exact ⟨rfl, N12, K12, fun q => absurd q (by decide)⟩)
              · refine g_icT X12 hx 26 (hb hby d6_20) (flt hc13).2.2.2 (by decide) (by decide) ?_
                refine g_aloadN X12 hx 27 (hb hby d6_26) rfl rfl rfl ?_
                refine g_iloadN X12 hx 28 (hb hby d6_27) rfl rfl ?_
                refine g_iload X12 hx 30 (hb hby d6_28) rfl rfl ?_
                refine g_i2b X12 hx 31 (c6.toInt8.toInt32) (hb hby d6_30) rfl rfl ?_
                refine g_bastore X12 hx 32 hZ e12 V_t 6 (by decide) ⟨by decide, by decide⟩ (Nat.le_of_ble_eq_true rfl) (hb hby d6_31) rfl (fun T14 h14 X14 e14 W14 V14 => ?_)
                have V_b := V_b.other W14 (Ne.symm ne_t_b)
                have V_t : Arv Z h14 t kT .byte (12 : Int32) [(.int (nar .byte (c0.toInt8.toInt32))), (.int (nar .byte (c1.toInt8.toInt32))), (.int (nar .byte (c2.toInt8.toInt32))), (.int (nar .byte (c3.toInt8.toInt32))), (.int (nar .byte (c4.toInt8.toInt32))), (.int (nar .byte (c5.toInt8.toInt32))), (.int (nar .byte (c6.toInt8.toInt32))), (.int (0 : Int32)), (.int (0 : Int32)), (.int (0 : Int32)), (.int (0 : Int32)), (.int (0 : Int32))] (.int (0 : Int32)) := V14
                have N14 := Fr.snoc X14 N12 g_t
                have Z14 : n0 ≤ h14.size := by rw [W14.size]; exact Z12
                have K14 := K12.wr W14 (Or.inl (List.mem_of_getElem? (i := 0) rfl))
                refine g_iinc X14 hx 35 (7 : Int32) #[.val (.ref b), .val (.int (7 : Int32)), .val (.ref t), .val (.int (6 : Int32)), .val (.int (12 : Int32)), .val (.int (6 : Int32)), .val (.int c6)] (hb hby d6_32) rfl (by decide) rfl rfl ?_
                refine g_iinc X14 hx 38 (7 : Int32) #[.val (.ref b), .val (.int (7 : Int32)), .val (.ref t), .val (.int (7 : Int32)), .val (.int (12 : Int32)), .val (.int (6 : Int32)), .val (.int c6)] (hb hby d6_35) rfl (by decide) rfl rfl ?_
                refine g_iinc X14 hx 41 (7 : Int32) #[.val (.ref b), .val (.int (7 : Int32)), .val (.ref t), .val (.int (7 : Int32)), .val (.int (12 : Int32)), .val (.int (7 : Int32)), .val (.int c6)] (hb hby d6_38) rfl (by decide) rfl rfl ?_
                refine g_goto X14 hx 3 (hb hby d6_41) (by decide) (by decide) ?_
                refine g_iload X14 hx 5 (hb hby d6_3) rfl rfl ?_
                refine g_iload X14 hx 7 (hb hby d6_5) rfl rfl ?_
                refine g_icF X14 hx 10 (hb hby d6_7) (by decide) rfl ?_
                refine g_aloadN X14 hx 11 (hb hby d6_10) rfl rfl rfl ?_
                refine g_iloadN X14 hx 12 (hb hby d6_11) rfl rfl ?_
                refine g_caload X14 hx 13 hZ e14 V_b ⟨by decide, by decide⟩ (show _ = (.int c7) from rfl) (hb hby d6_12) rfl ?_
                refine g_istore X14 hx 15 #[.val (.ref b), .val (.int (7 : Int32)), .val (.ref t), .val (.int (7 : Int32)), .val (.int (12 : Int32)), .val (.int (7 : Int32)), .val (.int c7)] (hb hby d6_13) rfl rfl ?_
                refine g_iload X14 hx 17 (hb hby d6_15) rfl rfl ?_
                refine g_sipush X14 hx 20 (255 : Int32) (hb hby d6_17) (by decide) rfl ?_
                by_cases hc15 : (255 : Int32) < c7
                · refine g_icF X14 hx 23 (hb hby d6_20) (tlt hc15).2.2.2 rfl ?_
                  refine g_iload X14 hx 25 (hb hby d6_23) rfl rfl ?_
                  have hF : own_fst12 c0 c1 c2 c3 c4 c5 c6 c7 c8 c9 c10 c11 = (7 : Int32) := by unfold own_fst12; rw [if_neg hc1, if_neg hc3, if_neg hc5, if_neg hc7, if_neg hc9, if_neg hc11, if_neg hc13, if_pos hc15]
                  exact g_retI X14 hx hret hlk (hb hby d6_25) (by decide) (by decide) (by rw [e14, hF]; exact ⟨rfl, N14, K14, fun q => absurd q (by decide)⟩)
                · refine g_icT X14 hx 26 (hb hby d6_20) (flt hc15).2.2.2 (by decide) (by decide) ?_
                  refine g_aloadN X14 hx 27 (hb hby d6_26) rfl rfl rfl ?_
                  refine g_iloadN X14 hx 28 (hb hby d6_27) rfl rfl ?_
                  refine g_iload X14 hx 30 (hb hby d6_28) rfl rfl ?_
                  refine g_i2b X14 hx 31 (c7.toInt8.toInt32) (hb hby d6_30) rfl rfl ?_
                  refine g_bastore X14 hx 32 hZ e14 V_t 7 (by decide) ⟨by decide, by decide⟩ (Nat.le_of_ble_eq_true rfl) (hb hby d6_31) rfl (fun T16 h16 X16 e16 W16 V16 => ?_)
                  have V_b := V_b.other W16 (Ne.symm ne_t_b)
                  have V_t : Arv Z h16 t kT .byte (12 : Int32) [(.int (nar .byte (c0.toInt8.toInt32))), (.int (nar .byte (c1.toInt8.toInt32))), (.int (nar .byte (c2.toInt8.toInt32))), (.int (nar .byte (c3.toInt8.toInt32))), (.int (nar .byte (c4.toInt8.toInt32))), (.int (nar .byte (c5.toInt8.toInt32))), (.int (nar .byte (c6.toInt8.toInt32))), (.int (nar .byte (c7.toInt8.toInt32))), (.int (0 : Int32)), (.int (0 : Int32)), (.int (0 : Int32)), (.int (0 : Int32))] (.int (0 : Int32)) := V16
                  have N16 := Fr.snoc X16 N14 g_t
                  have Z16 : n0 ≤ h16.size := by rw [W16.size]; exact Z14
                  have K16 := K14.wr W16 (Or.inl (List.mem_of_getElem? (i := 0) rfl))
                  refine g_iinc X16 hx 35 (8 : Int32) #[.val (.ref b), .val (.int (8 : Int32)), .val (.ref t), .val (.int (7 : Int32)), .val (.int (12 : Int32)), .val (.int (7 : Int32)), .val (.int c7)] (hb hby d6_32) rfl (by decide) rfl rfl ?_
                  refine g_iinc X16 hx 38 (8 : Int32) #[.val (.ref b), .val (.int (8 : Int32)), .val (.ref t), .val (.int (8 : Int32)), .val (.int (12 : Int32)), .val (.int (7 : Int32)), .val (.int c7)] (hb hby d6_35) rfl (by decide) rfl rfl ?_
                  refine g_iinc X16 hx 41 (8 : Int32) #[.val (.ref b), .val (.int (8 : Int32)), .val (.ref t), .val (.int (8 : Int32)), .val (.int (12 : Int32)), .val (.int (8 : Int32)), .val (.int c7)] (hb hby d6_38) rfl (by decide) rfl rfl ?_
                  refine g_goto X16 hx 3 (hb hby d6_41) (by decide) (by decide) ?_
                  refine g_iload X16 hx 5 (hb hby d6_3) rfl rfl ?_
                  refine g_iload X16 hx 7 (hb hby d6_5) rfl rfl ?_
                  refine g_icF X16 hx 10 (hb hby d6_7) (by decide) rfl ?_
                  refine g_aloadN X16 hx 11 (hb hby d6_10) rfl rfl rfl ?_
                  refine g_iloadN X16 hx 12 (hb hby d6_11) rfl rfl ?_
                  refine g_caload X16 hx 13 hZ e16 V_b ⟨by decide, by decide⟩ (show _ = (.int c8) from rfl) (hb hby d6_12) rfl ?_
                  refine g_istore X16 hx 15 #[.val (.ref b), .val (.int (8 : Int32)), .val (.ref t), .val (.int (8 : Int32)), .val (.int (12 : Int32)), .val (.int (8 : Int32)), .val (.int c8)] (hb hby d6_13) rfl rfl ?_
                  refine g_iload X16 hx 17 (hb hby d6_15) rfl rfl ?_
                  refine g_sipush X16 hx 20 (255 : Int32) (hb hby d6_17) (by decide) rfl ?_
                  by_cases hc17 : (255 : Int32) < c8
                  · refine g_icF X16 hx 23 (hb hby d6_20) (tlt hc17).2.2.2 rfl ?_
                    refine g_iload X16 hx 25 (hb hby d6_23) rfl rfl ?_
                    have hF : own_fst12 c0 c1 c2 c3 c4 c5 c6 c7 c8 c9 c10 c11 = (8 : Int32) := by unfold own_fst12; rw [if_neg hc1, if_neg hc3, if_neg hc5, if_neg hc7, if_neg hc9, if_neg hc11, if_neg hc13, if_neg hc15, if_pos hc17]
                    exact g_retI X16 hx hret hlk (hb hby d6_25) (by decide) (by decide) (by rw [e16, hF]; exact ⟨rfl, N16, K16, fun q => absurd q (by decide)⟩)
                  · refine g_icT X16 hx 26 (hb hby d6_20) (flt hc17).2.2.2 (by decide) (by decide) ?_
                    refine g_aloadN X16 hx 27 (hb hby d6_26) rfl rfl rfl ?_
                    refine g_iloadN X16 hx 28 (hb hby d6_27) rfl rfl ?_
                    refine g_iload X16 hx 30 (hb hby d6_28) rfl rfl ?_
                    refine g_i2b X16 hx 31 (c8.toInt8.toInt32) (hb hby d6_30) rfl rfl ?_
                    refine g_bastore X16 hx 32 hZ e16 V_t 8 (by decide) ⟨by decide, by decide⟩ (Nat.le_of_ble_eq_true rfl) (hb hby d6_31) rfl (fun T18 h18 X18 e18 W18 V18 => ?_)
                    have V_b := V_b.other W18 (Ne.symm ne_t_b)
                    have V_t : Arv Z h18 t kT .byte (12 : Int32) [(.int (nar .byte (c0.toInt8.toInt32))), (.int (nar .byte (c1.toInt8.toInt32))), (.int (nar .byte (c2.toInt8.toInt32))), (.int (nar .byte (c3.toInt8.toInt32))), (.int (nar .byte (c4.toInt8.toInt32))), (.int (nar .byte (c5.toInt8.toInt32))), (.int (nar .byte (c6.toInt8.toInt32))), (.int (nar .byte (c7.toInt8.toInt32))), (.int (nar .byte (c8.toInt8.toInt32))), (.int (0 : Int32)), (.int (0 : Int32)), (.int (0 : Int32))] (.int (0 : Int32)) := V18
                    have N18 := Fr.snoc X18 N16 g_t
                    have Z18 : n0 ≤ h18.size := by rw [W18.size]; exact Z16
                    have K18 := K16.wr W18 (Or.inl (List.mem_of_getElem? (i := 0) rfl))
                    refine g_iinc X18 hx 35 (9 : Int32) #[.val (.ref b), .val (.int (9 : Int32)), .val (.ref t), .val (.int (8 : Int32)), .val (.int (12 : Int32)), .val (.int (8 : Int32)), .val (.int c8)] (hb hby d6_32) rfl (by decide) rfl rfl ?_
                    refine g_iinc X18 hx 38 (9 : Int32) #[.val (.ref b), .val (.int (9 : Int32)), .val (.ref t), .val (.int (9 : Int32)), .val (.int (12 : Int32)), .val (.int (8 : Int32)), .val (.int c8)] (hb hby d6_35) rfl (by decide) rfl rfl ?_
                    refine g_iinc X18 hx 41 (9 : Int32) #[.val (.ref b), .val (.int (9 : Int32)), .val (.ref t), .val (.int (9 : Int32)), .val (.int (12 : Int32)), .val (.int (9 : Int32)), .val (.int c8)] (hb hby d6_38) rfl (by decide) rfl rfl ?_
                    refine g_goto X18 hx 3 (hb hby d6_41) (by decide) (by decide) ?_
                    refine g_iload X18 hx 5 (hb hby d6_3) rfl rfl ?_
                    refine g_iload X18 hx 7 (hb hby d6_5) rfl rfl ?_
                    refine g_icF X18 hx 10 (hb hby d6_7) (by decide) rfl ?_
                    refine g_aloadN X18 hx 11 (hb hby d6_10) rfl rfl rfl ?_
                    refine g_iloadN X18 hx 12 (hb hby d6_11) rfl rfl ?_
                    refine g_caload X18 hx 13 hZ e18 V_b ⟨by decide, by decide⟩ (show _ = (.int c9) from rfl) (hb hby d6_12) rfl ?_
                    refine g_istore X18 hx 15 #[.val (.ref b), .val (.int (9 : Int32)), .val (.ref t), .val (.int (9 : Int32)), .val (.int (12 : Int32)), .val (.int (9 : Int32)), .val (.int c9)] (hb hby d6_13) rfl rfl ?_
                    refine g_iload X18 hx 17 (hb hby d6_15) rfl rfl ?_
                    refine g_sipush X18 hx 20 (255 : Int32) (hb hby d6_17) (by decide) rfl ?_
                    by_cases hc19 : (255 : Int32) < c9
                    · refine g_icF X18 hx 23 (hb hby d6_20) (tlt hc19).2.2.2 rfl ?_
                      refine g_iload X18 hx 25 (hb hby d6_23) rfl rfl ?_
                      have hF : own_fst12 c0 c1 c2 c3 c4 c5 c6 c7 c8 c9 c10 c11 = (9 : Int32) := by unfold own_fst12; rw [if_neg hc1, if_neg hc3, if_neg hc5, if_neg hc7, if_neg hc9, if_neg hc11, if_neg hc13, if_neg hc15, if_neg hc17, if_pos hc19]
                      exact g_retI X18 hx hret hlk (hb hby d6_25) (by decide) (by decide) (by rw [e18, hF]; exact ⟨rfl, N18, K18, fun q => absurd q (by decide)⟩)
                    · refine g_icT X18 hx 26 (hb hby d6_20) (flt hc19).2.2.2 (by decide) (by decide) ?_
                      refine g_aloadN X18 hx 27 (hb hby d6_26) rfl rfl rfl ?_
                      refine g_iloadN X18 hx 28 (hb hby d6_27) rfl rfl ?_
                      refine g_iload X18 hx 30 (hb hby d6_28) rfl rfl ?_
                      refine g_i2b X18 hx 31 (c9.toInt8.toInt32) (hb hby d6_30) rfl rfl ?_
                      refine g_bastore X18 hx 32 hZ e18 V_t 9 (by decide) ⟨by decide, by decide⟩ (Nat.le_of_ble_eq_true rfl) (hb hby d6_31) rfl (fun T20 h20 X20 e20 W20 V20 => ?_)
                      have V_b := V_b.other W20 (Ne.symm ne_t_b)
                      have V_t : Arv Z h20 t kT .byte (12 : Int32) [(.int (nar .byte (c0.toInt8.toInt32))), (.int (nar .byte (c1.toInt8.toInt32))), (.int (nar .byte (c2.toInt8.toInt32))), (.int (nar .byte (c3.toInt8.toInt32))), (.int (nar .byte (c4.toInt8.toInt32))), (.int (nar .byte (c5.toInt8.toInt32))), (.int (nar .byte (c6.toInt8.toInt32))), (.int (nar .byte (c7.toInt8.toInt32))), (.int (nar .byte (c8.toInt8.toInt32))), (.int (nar .byte (c9.toInt8.toInt32))), (.int (0 : Int32)), (.int (0 : Int32))] (.int (0 : Int32)) := V20
                      have N20 := Fr.snoc X20 N18 g_t
                      have Z20 : n0 ≤ h20.size := by rw [W20.size]; exact Z18
                      have K20 := K18.wr W20 (Or.inl (List.mem_of_getElem? (i := 0) rfl))
                      refine g_iinc X20 hx 35 (10 : Int32) #[.val (.ref b), .val (.int (10 : Int32)), .val (.ref t), .val (.int (9 : Int32)), .val (.int (12 : Int32)), .val (.int (9 : Int32)), .val (.int c9)] (hb hby d6_32) rfl (by decide) rfl rfl ?_
                      refine g_iinc X20 hx 38 (10 : Int32) #[.val (.ref b), .val (.int (10 : Int32)), .val (.ref t), .val (.int (10 : Int32)), .val (.int (12 : Int32)), .val (.int (9 : Int32)), .val (.int c9)] (hb hby d6_35) rfl (by decide) rfl rfl ?_
                      refine g_iinc X20 hx 41 (10 : Int32) #[.val (.ref b), .val (.int (10 : Int32)), .val (.ref t), .val (.int (10 : Int32)), .val (.int (12 : Int32)), .val (.int (10 : Int32)), .val (.int c9)] (hb hby d6_38) rfl (by decide) rfl rfl ?_
                      refine g_goto X20 hx 3 (hb hby d6_41) (by decide) (by decide) ?_
                      refine g_iload X20 hx 5 (hb hby d6_3) rfl rfl ?_
                      refine g_iload X20 hx 7 (hb hby d6_5) rfl rfl ?_
                      refine g_icF X20 hx 10 (hb hby d6_7) (by decide) rfl ?_
                      refine g_aloadN X20 hx 11 (hb hby d6_10) rfl rfl rfl ?_
                      refine g_iloadN X20 hx 12 (hb hby d6_11) rfl rfl ?_
                      refine g_caload X20 hx 13 hZ e20 V_b ⟨by decide, by decide⟩ (show _ = (.int c10) from rfl) (hb hby d6_12) rfl ?_
                      refine g_istore X20 hx 15 #[.val (.ref b), .val (.int (10 : Int32)), .val (.ref t), .val (.int (10 : Int32)), .val (.int (12 : Int32)), .val (.int (10 : Int32)), .val (.int c10)] (hb hby d6_13) rfl rfl ?_
                      refine g_iload X20 hx 17 (hb hby d6_15) rfl rfl ?_
                      refine g_sipush X20 hx 20 (255 : Int32) (hb hby d6_17) (by decide) rfl ?_
                      by_cases hc21 : (255 : Int32) < c10
                      · refine g_icF X20 hx 23 (hb hby d6_20) (tlt hc21).2.2.2 rfl ?_
                        refine g_iload X20 hx 25 (hb hby d6_23) rfl rfl ?_
                        have hF : own_fst12 c0 c1 c2 c3 c4 c5 c6 c7 c8 c9 c10 c11 = (10 : Int32) := by unfold own_fst12; rw [if_neg hc1, if_neg hc3, if_neg hc5, if_neg hc7, if_neg hc9, if_neg hc11, if_neg hc13, if_neg hc15, if_neg hc17, if_neg hc19, if_pos hc21]
                        exact g_retI X20 hx hret hlk (hb hby d6_25) (by decide) (by decide) (by rw [e20, hF]; exact ⟨rfl, N20, K20, fun q => absurd q (by decide)⟩)
                      · refine g_icT X20 hx 26 (hb hby d6_20) (flt hc21).2.2.2 (by decide) (by decide) ?_
                        refine g_aloadN X20 hx 27 (hb hby d6_26) rfl rfl rfl ?_
                        refine g_iloadN X20 hx 28 (hb hby d6_27) rfl rfl ?_
                        refine g_iload X20 hx 30 (hb hby d6_28) rfl rfl ?_
                        refine g_i2b X20 hx 31 (c10.toInt8.toInt32) (hb hby d6_30) rfl rfl ?_
                        refine g_bastore X20 hx 32 hZ e20 V_t 10 (by decide) ⟨by decide, by decide⟩ (Nat.le_of_ble_eq_true rfl) (hb hby d6_31) rfl (fun T22 h22 X22 e22 W22 V22 => ?_)
                        have V_b := V_b.other W22 (Ne.symm ne_t_b)
                        have V_t : Arv Z h22 t kT .byte (12 : Int32) [(.int (nar .byte (c0.toInt8.toInt32))), (.int (nar .byte (c1.toInt8.toInt32))), (.int (nar .byte (c2.toInt8.toInt32))), (.int (nar .byte (c3.toInt8.toInt32))), (.int (nar .byte (c4.toInt8.toInt32))), (.int (nar .byte (c5.toInt8.toInt32))), (.int (nar .byte (c6.toInt8.toInt32))), (.int (nar .byte (c7.toInt8.toInt32))), (.int (nar .byte (c8.toInt8.toInt32))), (.int (nar .byte (c9.toInt8.toInt32))), (.int (nar .byte (c10.toInt8.toInt32))), (.int (0 : Int32))] (.int (0 : Int32)) := V22
                        have N22 := Fr.snoc X22 N20 g_t
                        have Z22 : n0 ≤ h22.size := by rw [W22.size]; exact Z20
                        have K22 := K20.wr W22 (Or.inl (List.mem_of_getElem? (i := 0) rfl))
                        refine g_iinc X22 hx 35 (11 : Int32) #[.val (.ref b), .val (.int (11 : Int32)), .val (.ref t), .val (.int (10 : Int32)), .val (.int (12 : Int32)), .val (.int (10 : Int32)), .val (.int c10)] (hb hby d6_32) rfl (by decide) rfl rfl ?_
                        refine g_iinc X22 hx 38 (11 : Int32) #[.val (.ref b), .val (.int (11 : Int32)), .val (.ref t), .val (.int (11 : Int32)), .val (.int (12 : Int32)), .val (.int (10 : Int32)), .val (.int c10)] (hb hby d6_35) rfl (by decide) rfl rfl ?_
                        refine g_iinc X22 hx 41 (11 : Int32) #[.val (.ref b), .val (.int (11 : Int32)), .val (.ref t), .val (.int (11 : Int32)), .val (.int (12 : Int32)), .val (.int (11 : Int32)), .val (.int c10)] (hb hby d6_38) rfl (by decide) rfl rfl ?_
                        refine g_goto X22 hx 3 (hb hby d6_41) (by decide) (by decide) ?_
                        refine g_iload X22 hx 5 (hb hby d6_3) rfl rfl ?_
                        refine g_iload X22 hx 7 (hb hby d6_5) rfl rfl ?_
                        refine g_icF X22 hx 10 (hb hby d6_7) (by decide) rfl ?_
                        refine g_aloadN X22 hx 11 (hb hby d6_10) rfl rfl rfl ?_
                        refine g_iloadN X22 hx 12 (hb hby d6_11) rfl rfl ?_
                        refine g_caload X22 hx 13 hZ e22 V_b ⟨by decide, by decide⟩ (show _ = (.int c11) from rfl) (hb hby d6_12) rfl ?_
                        refine g_istore X22 hx 15 #[.val (.ref b), .val (.int (11 : Int32)), .val (.ref t), .val (.int (11 : Int32)), .val (.int (12 : Int32)), .val (.int (11 : Int32)), .val (.int c11)] (hb hby d6_13) rfl rfl ?_
                        refine g_iload X22 hx 17 (hb hby d6_15) rfl rfl ?_
                        refine g_sipush X22 hx 20 (255 : Int32) (hb hby d6_17) (by decide) rfl ?_
                        by_cases hc23 : (255 : Int32) < c11
                        · refine g_icF X22 hx 23 (hb hby d6_20) (tlt hc23).2.2.2 rfl ?_
                          refine g_iload X22 hx 25 (hb hby d6_23) rfl rfl ?_
                          have hF : own_fst12 c0 c1 c2 c3 c4 c5 c6 c7 c8 c9 c10 c11 = (11 : Int32) := by unfold own_fst12; rw [if_neg hc1, if_neg hc3, if_neg hc5, if_neg hc7, if_neg hc9, if_neg hc11, if_neg hc13, if_neg hc15, if_neg hc17, if_neg hc19, if_neg hc21, if_pos hc23]
                          exact g_retI X22 hx hret hlk (hb hby d6_25) (by decide) (by decide) (by rw [e22, hF]; exact ⟨rfl, N22, K22, fun q => absurd q (by decide)⟩)
                        · refine g_icT X22 hx 26 (hb hby d6_20) (flt hc23).2.2.2 (by decide) (by decide) ?_
                          refine g_aloadN X22 hx 27 (hb hby d6_26) rfl rfl rfl ?_
                          refine g_iloadN X22 hx 28 (hb hby d6_27) rfl rfl ?_
                          refine g_iload X22 hx 30 (hb hby d6_28) rfl rfl ?_
                          refine g_i2b X22 hx 31 (c11.toInt8.toInt32) (hb hby d6_30) rfl rfl ?_
                          refine g_bastore X22 hx 32 hZ e22 V_t 11 (by decide) ⟨by decide, by decide⟩ (Nat.le_of_ble_eq_true rfl) (hb hby d6_31) rfl (fun T24 h24 X24 e24 W24 V24 => ?_)
                          have V_b := V_b.other W24 (Ne.symm ne_t_b)
                          have V_t : Arv Z h24 t kT .byte (12 : Int32) [(.int (nar .byte (c0.toInt8.toInt32))), (.int (nar .byte (c1.toInt8.toInt32))), (.int (nar .byte (c2.toInt8.toInt32))), (.int (nar .byte (c3.toInt8.toInt32))), (.int (nar .byte (c4.toInt8.toInt32))), (.int (nar .byte (c5.toInt8.toInt32))), (.int (nar .byte (c6.toInt8.toInt32))), (.int (nar .byte (c7.toInt8.toInt32))), (.int (nar .byte (c8.toInt8.toInt32))), (.int (nar .byte (c9.toInt8.toInt32))), (.int (nar .byte (c10.toInt8.toInt32))), (.int (nar .byte (c11.toInt8.toInt32)))] (.int (0 : Int32)) := V24
                          have N24 := Fr.snoc X24 N22 g_t
                          have Z24 : n0 ≤ h24.size := by rw [W24.size]; exact Z22
                          have K24 := K22.wr W24 (Or.inl (List.mem_of_getElem? (i := 0) rfl))
                          refine g_iinc X24 hx 35 (12 : Int32) #[.val (.ref b), .val (.int (12 : Int32)), .val (.ref t), .val (.int (11 : Int32)), .val (.int (12 : Int32)), .val (.int (11 : Int32)), .val (.int c11)] (hb hby d6_32) rfl (by decide) rfl rfl ?_
                          refine g_iinc X24 hx 38 (12 : Int32) #[.val (.ref b), .val (.int (12 : Int32)), .val (.ref t), .val (.int (12 : Int32)), .val (.int (12 : Int32)), .val (.int (11 : Int32)), .val (.int c11)] (hb hby d6_35) rfl (by decide) rfl rfl ?_
                          refine g_iinc X24 hx 41 (12 : Int32) #[.val (.ref b), .val (.int (12 : Int32)), .val (.ref t), .val (.int (12 : Int32)), .val (.int (12 : Int32)), .val (.int (12 : Int32)), .val (.int c11)] (hb hby d6_38) rfl (by decide) rfl rfl ?_
                          refine g_goto X24 hx 3 (hb hby d6_41) (by decide) (by decide) ?_
                          refine g_iload X24 hx 5 (hb hby d6_3) rfl rfl ?_
                          refine g_iload X24 hx 7 (hb hby d6_5) rfl rfl ?_
                          refine g_icT X24 hx 44 (hb hby d6_7) (by decide) (by decide) (by decide) ?_
                          refine g_iload X24 hx 46 (hb hby d6_44) rfl rfl ?_
                          have hF : own_fst12 c0 c1 c2 c3 c4 c5 c6 c7 c8 c9 c10 c11 = (12 : Int32) := by unfold own_fst12; rw [if_neg hc1, if_neg hc3, if_neg hc5, if_neg hc7, if_neg hc9, if_neg hc11, if_neg hc13, if_neg hc15, if_neg hc17, if_neg hc19, if_neg hc21, if_neg hc23]
                          exact g_retI X24 hx hret hlk (hb hby d6_46) (by decide) (by decide) (by rw [e24, hF]; exact ⟨rfl, N24, K24, fun _ => V_t⟩)
set_option maxRecDepth 65536 in
set_option maxHeartbeats 40000000 in
theorem rs12_outer (l : Launch) (Z : State) (a0 : Array Value) (hw : ∀ d ∈ tables_1, d.before a0 Z = true) (b : Addr) (c0 c1 c2 c3 c4 c5 c6 c7 c8 c9 c10 c11 : Int32) (kB : ClassId) (h0 : Heap) (n0 : Nat) (Z0 : n0 ≤ h0.size) (V_b : Arv Z h0 b kB .char (12 : Int32) [(.int c0), (.int c1), (.int c2), (.int c3), (.int c4), (.int c5), (.int c6), (.int c7), (.int c8), (.int c9), (.int c10), (.int c11)] (.int (0 : Int32))) (hc0 : ¬ 255 < c0) (hc1 : ¬ 255 < c1) (hc2 : ¬ 255 < c2) (hc3 : ¬ 255 < c3) (hc4 : ¬ 255 < c4) (hc5 : ¬ 255 < c5) (hc6 : ¬ 255 < c6) (hc7 : ¬ 255 < c7) (hc8 : ¬ 255 < c8) (hc9 : ¬ 255 < c9) (hc10 : ¬ 255 < c10) (hc11 : ¬ 255 < c11) :
    OwnMet l Z (⟨"java/lang/StringUTF16", "compress", "([CII)[B"⟩ : MethodName) jdk_52_method_16_code 6 (some (.array .byte)) [] ({ frames := 1, cells := 1, slots := 12, locals := 20 } : Room) [(.ref b), (.int (0 : Int32)), (.int (12 : Int32))] h0 (fun v h L => ∃ (t : Addr) (kT : ClassId), v = some (.ref t) ∧ Fr n0 L ∧ Keep h0 h [] ∧ h0.size ≤ t ∧ Arv Z h t kT .byte (12 : Int32) [(.int (nar .byte (c0.toInt8.toInt32))), (.int (nar .byte (c1.toInt8.toInt32))), (.int (nar .byte (c2.toInt8.toInt32))), (.int (nar .byte (c3.toInt8.toInt32))), (.int (nar .byte (c4.toInt8.toInt32))), (.int (nar .byte (c5.toInt8.toInt32))), (.int (nar .byte (c6.toInt8.toInt32))), (.int (nar .byte (c7.toInt8.toInt32))), (.int (nar .byte (c8.toInt8.toInt32))), (.int (nar .byte (c9.toInt8.toInt32))), (.int (nar .byte (c10.toInt8.toInt32))), (.int (nar .byte (c11.toInt8.toInt32)))] (.int (0 : Int32))) := by
  refine own_body (Ls := #[.val (.ref b), .val (.int (0 : Int32)), .val (.int (12 : Int32)), .unset, .unset, .unset]) (plainFor_of_name own_pn0) (fun m => by first | (simp [entryFrame, mkF, argsToLocals, Value.category]; done) | rfl) (fun p e s m below meth cO T0 hx hby hml hown hnm hret hlk hZ X0 e0 => ?_)
  have hown : s.vm.findClass "java/lang/StringUTF16" = some m.cls := hown
  have N0 := Fr.nil n0
  have K0 := Keep.refl h0 []
  refine g_iloadN X0 hx 1 (hb hby d5_0) rfl rfl ?_
  refine g_newP X0 hx 3 hZ (own_w hw 23 rfl) e0 (hb hby d5_1) (by decide) 12 (by decide) (by decide) (by decide) (by decide) rfl (fun T1 h1 b1 kl1 g1 X1 e1 E1 A1 => ?_)
  have ne_b_b1 : b ≠ b1 := Nat.ne_of_lt (Nat.lt_of_lt_of_le V_b.lt (Nat.le_of_eq g1.symm))
  have V_b := V_b.ext E1
  have G_b1 : n0 ≤ b1 := Nat.le_trans Z0 (Nat.le_of_eq g1.symm)
  have Z1 : n0 ≤ h1.size := Nat.le_trans Z0 E1.1
  have SZ_b1 : h0.size ≤ b1 := Nat.le_trans K0.1 (Nat.le_of_eq g1.symm)
  have K1 := K0.ext E1
  have V_b1 : Arv Z h1 b1 kl1 .byte (12 : Int32) [(.int (0 : Int32)), (.int (0 : Int32)), (.int (0 : Int32)), (.int (0 : Int32)), (.int (0 : Int32)), (.int (0 : Int32)), (.int (0 : Int32)), (.int (0 : Int32)), (.int (0 : Int32)), (.int (0 : Int32)), (.int (0 : Int32)), (.int (0 : Int32))] (.int (0 : Int32)) := A1.pad (pad_rep [] (.int (0 : Int32)) 12)
  refine g_astoreN X1 hx 4 #[.val (.ref b), .val (.int (0 : Int32)), .val (.int (12 : Int32)), .val (.ref b1), .unset, .unset] (hb hby d5_3) rfl rfl rfl ?_
  refine g_aloadN X1 hx 5 (hb hby d5_4) rfl rfl rfl ?_
  refine g_iloadN X1 hx 6 (hb hby d5_5) rfl rfl ?_
  refine g_aloadN X1 hx 7 (hb hby d5_6) rfl rfl rfl ?_
  refine g_iconst X1 hx 8 (0 : Int32) (hb hby d5_7) (by decide) rfl ?_
  refine g_iloadN X1 hx 9 (hb hby d5_8) rfl rfl ?_
  refine g_callS X1 hx 12 hZ hown (own_w hw 24 rfl) (own_w hw 25 rfl) (own_w hw 21 rfl) (own_w hw 26 rfl) (by decide) [(.ref b), (.int (0 : Int32)), (.ref b1), (.int (0 : Int32)), (.int (12 : Int32))] [] (ru12_inner l Z a0 hw b b1 c0 c1 c2 c3 c4 c5 c6 c7 c8 c9 c10 c11 kB kl1 h1 n0 Z1 G_b1 V_b V_b1 (Ne.symm ne_b_b1)) e1 0 (by decide) (by decide) (by decide) (by decide) (by rw [hml]; rfl) (lenOf own_pd0 rfl) (hb hby d5_9) rfl (Nat.le_of_eq rfl) rfl (fun v2 T2 L2 X2 hQ2 => ?_)
  obtain ⟨rfl, N2q, K2, V_b1⟩ := hQ2
  have N2 := Fr.app N0 N2q
  have hF : (own_fst12 c0 c1 c2 c3 c4 c5 c6 c7 c8 c9 c10 c11) = (12 : Int32) := own_fst12_n hc0 hc1 hc2 hc3 hc4 hc5 hc6 hc7 hc8 hc9 hc10 hc11
  have V_b1 := V_b1 hF
  have KK2 : Keep h0 T2.heap [] := K1.trans K2 (allS (Or.inr SZ_b1) all0)
  refine g_istore X2 hx 14 #[.val (.ref b), .val (.int (0 : Int32)), .val (.int (12 : Int32)), .val (.ref b1), .val (.int (own_fst12 c0 c1 c2 c3 c4 c5 c6 c7 c8 c9 c10 c11)), .unset] (hb hby d5_12) rfl rfl ?_
  refine g_iload X2 hx 16 (hb hby d5_14) rfl rfl ?_
  refine g_iloadN X2 hx 17 (hb hby d5_16) rfl rfl ?_
  have hk3 : (own_fst12 c0 c1 c2 c3 c4 c5 c6 c7 c8 c9 c10 c11) = (12 : Int32) := hF
  refine g_icT X2 hx 57 (hb hby d5_17) (teq hk3).1 (by decide) (by decide) ?_
  refine g_aloadN X2 hx 58 (hb hby d5_57) rfl rfl rfl ?_
  exact g_retA X2 hx hret hlk rfl rfl rfl (hb hby d5_58) (by decide) (by decide) ⟨b1, kl1, rfl, N2, KK2, SZ_b1, V_b1⟩
set_option maxRecDepth 65536 in
set_option maxHeartbeats 40000000 in
theorem rs12_coder (l : Launch) (Z : State) (a0 : Array Value) (hw : ∀ d ∈ tables_1, d.before a0 Z = true) (t : Addr) (kT : ClassId) (vs : List Value) (h0 : Heap) (n0 : Nat) (Z0 : n0 ≤ h0.size) (V_t : Arv Z h0 t kT .byte (12 : Int32) vs (.int (0 : Int32))) :
    OwnMet l Z (⟨"java/lang/StringUTF16", "coderFromArrayLen", "([BI)B"⟩ : MethodName) jdk_52_method_15_code 2 (some .byte) [] ({ frames := 0, cells := 0, slots := 0, locals := 0 } : Room) [(.ref t), (.int (12 : Int32))] h0 (fun v h L => v = some (.int 0) ∧ Fr n0 L ∧ h = h0) := by
  refine own_body (Ls := #[.val (.ref t), .val (.int (12 : Int32))]) (plainFor_of_name own_pn0) (fun m => by first | (simp [entryFrame, mkF, argsToLocals, Value.category]; done) | rfl) (fun p e s m below meth cO T0 hx hby hml hown hnm hret hlk hZ X0 e0 => ?_)
  have hown : s.vm.findClass "java/lang/StringUTF16" = some m.cls := hown
  have N0 := Fr.nil n0
  refine g_iloadN X0 hx 1 (hb hby d7_0) rfl rfl ?_
  refine g_aloadN X0 hx 2 (hb hby d7_1) rfl rfl rfl ?_
  refine g_arraylength X0 hx 3 hZ e0 V_t (hb hby d7_2) rfl ?_
  refine g_isub X0 hx 4 (0 : Int32) (hb hby d7_3) (by decide) rfl ?_
  refine g_bipush X0 hx 6 (31 : Int32) (hb hby d7_4) (by decide) rfl ?_
  refine g_iushr X0 hx 7 (0 : Int32) (hb hby d7_6) (by decide) rfl ?_
  refine g_i2b X0 hx 8 (0 : Int32) (hb hby d7_7) (by decide) rfl ?_
  exact g_retB X0 hx hret hlk rfl (hb hby d7_8) (by decide) (by decide) ⟨rfl, N0, e0⟩
set_option maxRecDepth 65536 in
set_option maxHeartbeats 40000000 in
theorem rs12_init2 (l : Launch) (Z : State) (a0 : Array Value) (hw : ∀ d ∈ tables_1, d.before a0 Z = true) (a b : Addr) (cs : Int32) (c0 c1 c2 c3 c4 c5 c6 c7 c8 c9 c10 c11 : Int32) (kB : ClassId) (u1 u2 : Value) (h0 : Heap) (n0 : Nat) (Z0 : n0 ≤ h0.size) (g_a : n0 ≤ a) (S_cs : Sta Z h0 "java/lang/String" "COMPACT_STRINGS" "Z" (.int cs)) (hcs : ¬ cs = 0) (E_a : Exa Z h0 a "java/lang/String") (F_v : Fld Z h0 a "java/lang/String" "value" "[B" u1) (F_c : Fld Z h0 a "java/lang/String" "coder" "B" u2) (V_b : Arv Z h0 b kB .char (12 : Int32) [(.int c0), (.int c1), (.int c2), (.int c3), (.int c4), (.int c5), (.int c6), (.int c7), (.int c8), (.int c9), (.int c10), (.int c11)] (.int (0 : Int32))) (hc0 : ¬ 255 < c0) (hc1 : ¬ 255 < c1) (hc2 : ¬ 255 < c2) (hc3 : ¬ 255 < c3) (hc4 : ¬ 255 < c4) (hc5 : ¬ 255 < c5) (hc6 : ¬ 255 < c6) (hc7 : ¬ 255 < c7) (hc8 : ¬ 255 < c8) (hc9 : ¬ 255 < c9) (hc10 : ¬ 255 < c10) (hc11 : ¬ 255 < c11) :
    OwnMet l Z (⟨"java/lang/String", "<init>", "([CIILjava/lang/Void;)V"⟩ : MethodName) jdk_42_method_149_code 6 none [] ({ frames := 2, cells := 1, slots := 12, locals := 40 } : Room) [(.ref a), (.ref b), (.int (0 : Int32)), (.int (12 : Int32)), .null] h0 (fun v h L => v = none ∧ Fr n0 L ∧ Keep h0 h [a] ∧ ∃ (t : Addr) (kT : ClassId), h0.size ≤ t ∧ Exa Z h a "java/lang/String" ∧ Fld Z h a "java/lang/String" "value" "[B" (.ref t) ∧ Fld Z h a "java/lang/String" "coder" "B" (.int 0) ∧ Arv Z h t kT .byte (12 : Int32) [(.int (nar .byte (c0.toInt8.toInt32))), (.int (nar .byte (c1.toInt8.toInt32))), (.int (nar .byte (c2.toInt8.toInt32))), (.int (nar .byte (c3.toInt8.toInt32))), (.int (nar .byte (c4.toInt8.toInt32))), (.int (nar .byte (c5.toInt8.toInt32))), (.int (nar .byte (c6.toInt8.toInt32))), (.int (nar .byte (c7.toInt8.toInt32))), (.int (nar .byte (c8.toInt8.toInt32))), (.int (nar .byte (c9.toInt8.toInt32))), (.int (nar .byte (c10.toInt8.toInt32))), (.int (nar .byte (c11.toInt8.toInt32)))] (.int (0 : Int32))) := by
  refine own_body (Ls := #[.val (.ref a), .val (.ref b), .val (.int (0 : Int32)), .val (.int (12 : Int32)), .val .null, .unset]) (plainFor_of_name own_pn1) (fun m => by first | (simp [entryFrame, mkF, argsToLocals, Value.category]; done) | rfl) (fun p e s m below meth cO T0 hx hby hml hown hnm hret hlk hZ X0 e0 => ?_)
  have hown : s.vm.findClass "java/lang/String" = some m.cls := hown
  have N0 := Fr.nil n0
  have K0 := Keep.refl h0 [a]
  refine g_aloadN X0 hx 1 (hb hby d3_0) rfl rfl rfl ?_
  refine g_initO X0 hx 4 hZ hown (own_w hw 15 rfl) (own_w hw 16 rfl) (own_w hw 17 rfl) e0 (by rw [hml]; rfl) (hb hby d3_1) (by decide) 0 (Nat.le_of_eq rfl) (by decide) rfl (fun T1 X1 e1 => ?_)
  refine g_iloadN X1 hx 5 (hb hby d3_4) rfl rfl ?_
  refine g_ifT X1 hx 27 (hb hby d3_5) (by decide) (by decide) (by decide) ?_
  refine g_getS X1 hx 30 hZ hown (host := "") (Or.inl (own_w hw 18 rfl)) Via.refl e1 S_cs (hb hby d3_27) rfl (fun T2 X2 e2 => ?_)
  have hk3 : ¬ (cs = (0 : Int32)) := hcs
  refine g_ifF X2 hx 33 (hb hby d3_30) ((if0 _ _).trans (feq hk3).1) rfl ?_
  refine g_aloadN X2 hx 34 (hb hby d3_33) rfl rfl rfl ?_
  refine g_iloadN X2 hx 35 (hb hby d3_34) rfl rfl ?_
  refine g_iloadN X2 hx 36 (hb hby d3_35) rfl rfl ?_
  refine g_callS X2 hx 39 hZ hown (own_w hw 19 rfl) (own_w hw 20 rfl) (own_w hw 21 rfl) (own_w hw 22 rfl) (by decide) [(.ref b), (.int (0 : Int32)), (.int (12 : Int32))] [] (rs12_outer l Z a0 hw b c0 c1 c2 c3 c4 c5 c6 c7 c8 c9 c10 c11 kB h0 n0 Z0 V_b hc0 hc1 hc2 hc3 hc4 hc5 hc6 hc7 hc8 hc9 hc10 hc11) e2 0 (by decide) (by decide) (by decide) (by decide) (by rw [hml]; rfl) (lenOf own_pd1 rfl) (hb hby d3_36) rfl (Nat.le_of_eq rfl) rfl (fun v4 T4 L4 X4 hQ4 => ?_)
  obtain ⟨t, kT, rfl, N4q, K4, hst, V_t⟩ := hQ4
  have N4 := Fr.app N0 N4q
  have E_a := E_a.keep K4
  have F_v := F_v.keep K4 nin0
  have F_c := F_c.keep K4 nin0
  have V_b := V_b.keep K4 nin0
  have KK4 := K0.trans K4 all0
  have Z4 := Nat.le_trans Z0 K4.1
  have ne_t_a : t ≠ a := Ne.symm (Exa.neArv E_a V_t (own_w hw 6 rfl))
  have ne_b_a : b ≠ a := Ne.symm (Exa.neArv E_a V_b (own_w hw 6 rfl))
  refine g_astore X4 hx 41 #[.val (.ref a), .val (.ref b), .val (.int (0 : Int32)), .val (.int (12 : Int32)), .val .null, .val (.ref t)] (hb hby d3_39) rfl rfl rfl ?_
  refine g_aloadN X4 hx 42 (hb hby d3_41) rfl rfl rfl ?_
  refine g_aload X4 hx 44 (hb hby d3_42) rfl rfl rfl ?_
  refine g_iloadN X4 hx 45 (hb hby d3_44) rfl rfl ?_
  refine g_callS X4 hx 48 hZ hown (own_w hw 27 rfl) (own_w hw 28 rfl) (own_w hw 21 rfl) (own_w hw 29 rfl) (by decide) [(.ref t), (.int (12 : Int32))] [(.ref a)] (rs12_coder l Z a0 hw t kT _ T4.heap n0 Z4 V_t) rfl 1 (by decide) (by decide) (by decide) (by decide) (by rw [hml]; rfl) (lenOf own_pd2 rfl) (hb hby d3_45) rfl (Nat.le_of_eq rfl) rfl (fun v5 T5 L5 X5 hQ5 => ?_)
  obtain ⟨rfl, N5q, e5⟩ := hQ5
  have N5 := Fr.app N4 N5q
  refine g_putF X5 hx 51 hZ hown (host := "") (Or.inl (own_w hw 30 rfl)) Via.refl e5 F_c E_a (Or.inr ⟨(own_w hw 31 rfl), rfl, hnm⟩) (own_w hw 6 rfl) (ty := .byte) (by decide) rfl rfl (hb hby d3_48) rfl (fun T6 h6 X6 e6 W6 => ?_)
  have E_a := E_a.wr W6
  have F_v := F_v.other W6 (Or.inr (slot_ne (Or.inr (own_w hw 33 rfl)) (Or.inr (own_w hw 31 rfl)) (by decide) (t := (.array .byte)) (t' := .byte) (by decide) (by decide)))
  have F_c := F_c.same W6
  have V_b := V_b.other W6 ne_b_a
  have V_t := V_t.other W6 ne_t_a
  have N6 := Fr.snoc X6 N5 g_a
  have Z6 : n0 ≤ h6.size := by rw [W6.size]; exact Z4
  have K6 := KK4.wr W6 (Or.inl (List.mem_of_getElem? (i := 0) rfl))
  refine g_aloadN X6 hx 52 (hb hby d3_51) rfl rfl rfl ?_
  refine g_aload X6 hx 54 (hb hby d3_52) rfl rfl rfl ?_
  refine g_putF X6 hx 57 hZ hown (host := "") (Or.inl (own_w hw 32 rfl)) Via.refl e6 F_v E_a (Or.inr ⟨(own_w hw 33 rfl), rfl, hnm⟩) (own_w hw 6 rfl) (ty := (.array .byte)) (by decide) rfl rfl (hb hby d3_54) rfl (fun T7 h7 X7 e7 W7 => ?_)
  have E_a := E_a.wr W7
  have F_v := F_v.same W7
  have F_c := F_c.other W7 (Or.inr (slot_ne (Or.inr (own_w hw 31 rfl)) (Or.inr (own_w hw 33 rfl)) (by decide) (t := .byte) (t' := (.array .byte)) (by decide) (by decide)))
  have V_b := V_b.other W7 ne_b_a
  have V_t := V_t.other W7 ne_t_a
  have N7 := Fr.snoc X7 N6 g_a
  have Z7 : n0 ≤ h7.size := by rw [W7.size]; exact Z6
  have K7 := K6.wr W7 (Or.inl (List.mem_of_getElem? (i := 0) rfl))
  exact g_retV X7 hx hret hlk (hb hby d3_57) (by decide) (by decide) (by rw [e7]; exact ⟨rfl, N7, K7, t, kT, hst, E_a, F_v, F_c, V_t⟩)
set_option maxRecDepth 65536 in
set_option maxHeartbeats 40000000 in
theorem rs12_init1 (l : Launch) (Z : State) (a0 : Array Value) (hw : ∀ d ∈ tables_1, d.before a0 Z = true) (a b : Addr) (cs : Int32) (c0 c1 c2 c3 c4 c5 c6 c7 c8 c9 c10 c11 : Int32) (kB : ClassId) (u1 u2 : Value) (h0 : Heap) (n0 : Nat) (Z0 : n0 ≤ h0.size) (g_a : n0 ≤ a) (S_cs : Sta Z h0 "java/lang/String" "COMPACT_STRINGS" "Z" (.int cs)) (hcs : ¬ cs = 0) (E_a : Exa Z h0 a "java/lang/String") (F_v : Fld Z h0 a "java/lang/String" "value" "[B" u1) (F_c : Fld Z h0 a "java/lang/String" "coder" "B" u2) (V_b : Arv Z h0 b kB .char (12 : Int32) [(.int c0), (.int c1), (.int c2), (.int c3), (.int c4), (.int c5), (.int c6), (.int c7), (.int c8), (.int c9), (.int c10), (.int c11)] (.int (0 : Int32))) (hc0 : ¬ 255 < c0) (hc1 : ¬ 255 < c1) (hc2 : ¬ 255 < c2) (hc3 : ¬ 255 < c3) (hc4 : ¬ 255 < c4) (hc5 : ¬ 255 < c5) (hc6 : ¬ 255 < c6) (hc7 : ¬ 255 < c7) (hc8 : ¬ 255 < c8) (hc9 : ¬ 255 < c9) (hc10 : ¬ 255 < c10) (hc11 : ¬ 255 < c11) :
    OwnMet l Z (⟨"java/lang/String", "<init>", "([C)V"⟩ : MethodName) jdk_42_method_3_code 2 none [] ({ frames := 3, cells := 1, slots := 12, locals := 60 } : Room) [(.ref a), (.ref b)] h0 (fun v h L => v = none ∧ Fr n0 L ∧ Keep h0 h [a] ∧ ∃ (t : Addr) (kT : ClassId), h0.size ≤ t ∧ Exa Z h a "java/lang/String" ∧ Fld Z h a "java/lang/String" "value" "[B" (.ref t) ∧ Fld Z h a "java/lang/String" "coder" "B" (.int 0) ∧ Arv Z h t kT .byte (12 : Int32) [(.int (nar .byte (c0.toInt8.toInt32))), (.int (nar .byte (c1.toInt8.toInt32))), (.int (nar .byte (c2.toInt8.toInt32))), (.int (nar .byte (c3.toInt8.toInt32))), (.int (nar .byte (c4.toInt8.toInt32))), (.int (nar .byte (c5.toInt8.toInt32))), (.int (nar .byte (c6.toInt8.toInt32))), (.int (nar .byte (c7.toInt8.toInt32))), (.int (nar .byte (c8.toInt8.toInt32))), (.int (nar .byte (c9.toInt8.toInt32))), (.int (nar .byte (c10.toInt8.toInt32))), (.int (nar .byte (c11.toInt8.toInt32)))] (.int (0 : Int32))) := by
  refine own_body (Ls := #[.val (.ref a), .val (.ref b)]) (plainFor_of_name own_pn1) (fun m => by first | (simp [entryFrame, mkF, argsToLocals, Value.category]; done) | rfl) (fun p e s m below meth cO T0 hx hby hml hown hnm hret hlk hZ X0 e0 => ?_)
  have hown : s.vm.findClass "java/lang/String" = some m.cls := hown
  have N0 := Fr.nil n0
  refine g_aloadN X0 hx 1 (hb hby d2_0) rfl rfl rfl ?_
  refine g_aloadN X0 hx 2 (hb hby d2_1) rfl rfl rfl ?_
  refine g_iconst X0 hx 3 (0 : Int32) (hb hby d2_2) (by decide) rfl ?_
  refine g_aloadN X0 hx 4 (hb hby d2_3) rfl rfl rfl ?_
  refine g_arraylength X0 hx 5 hZ e0 V_b (hb hby d2_4) rfl ?_
  refine g_aconst_null X0 hx 6 (hb hby d2_5) rfl ?_
  refine g_callI X0 hx 9 hZ rfl hown (own_w hw 11 rfl) (own_w hw 12 rfl) (own_w hw 7 rfl) (own_w hw 14 rfl) (by decide) a [(.ref b), (.int (0 : Int32)), (.int (12 : Int32)), .null] [] (rs12_init2 l Z a0 hw a b cs c0 c1 c2 c3 c4 c5 c6 c7 c8 c9 c10 c11 kB u1 u2 h0 n0 Z0 g_a S_cs hcs E_a F_v F_c V_b hc0 hc1 hc2 hc3 hc4 hc5 hc6 hc7 hc8 hc9 hc10 hc11) e0 0 (by decide) (by decide) (by decide) (by decide) (by rw [hml]; rfl) (lenOf own_pd3 rfl) (hb hby d2_6) rfl (Nat.le_of_eq rfl) rfl (fun v1 T1 L1 X1 hQ1 => ?_)
  obtain ⟨rfl, N1q, hR1⟩ := hQ1
  have N1 := Fr.app N0 N1q
  exact g_retV X1 hx hret hlk (hb hby d2_9) (by decide) (by decide) ⟨rfl, N1, hR1⟩
theorem own_pn2 : plainName "com/example/kohortd/kohortd/member/MemberUnsetValuePinLaw" = true := by first | (simp [plainName, overriddenIn]; done) | decide +kernel
theorem d1_0 : decode method_2_code 0 = .ok (.bipush 11, 2) := by decide +kernel
theorem d1_2 : decode method_2_code 2 = .ok (.newarray .char, 2) := by decide +kernel
theorem d1_4 : decode method_2_code 4 = .ok (.dup, 1) := by decide +kernel
theorem d1_5 : decode method_2_code 5 = .ok (.iconst 0, 1) := by decide +kernel
theorem d1_6 : decode method_2_code 6 = .ok (.bipush 105, 2) := by decide +kernel
theorem d1_8 : decode method_2_code 8 = .ok (.castore, 1) := by decide +kernel
theorem d1_9 : decode method_2_code 9 = .ok (.dup, 1) := by decide +kernel
theorem d1_10 : decode method_2_code 10 = .ok (.iconst 1, 1) := by decide +kernel
theorem d1_11 : decode method_2_code 11 = .ok (.bipush 115, 2) := by decide +kernel
theorem d1_13 : decode method_2_code 13 = .ok (.castore, 1) := by decide +kernel
theorem d1_14 : decode method_2_code 14 = .ok (.dup, 1) := by decide +kernel
theorem d1_15 : decode method_2_code 15 = .ok (.iconst 2, 1) := by decide +kernel
theorem d1_16 : decode method_2_code 16 = .ok (.bipush 69, 2) := by decide +kernel
theorem d1_18 : decode method_2_code 18 = .ok (.castore, 1) := by decide +kernel
theorem d1_19 : decode method_2_code 19 = .ok (.dup, 1) := by decide +kernel
theorem d1_20 : decode method_2_code 20 = .ok (.iconst 3, 1) := by decide +kernel
theorem d1_21 : decode method_2_code 21 = .ok (.bipush 120, 2) := by decide +kernel
theorem d1_23 : decode method_2_code 23 = .ok (.castore, 1) := by decide +kernel
theorem d1_24 : decode method_2_code 24 = .ok (.dup, 1) := by decide +kernel
theorem d1_25 : decode method_2_code 25 = .ok (.iconst 4, 1) := by decide +kernel
theorem d1_26 : decode method_2_code 26 = .ok (.bipush 104, 2) := by decide +kernel
theorem d1_28 : decode method_2_code 28 = .ok (.castore, 1) := by decide +kernel
theorem d1_29 : decode method_2_code 29 = .ok (.dup, 1) := by decide +kernel
theorem d1_30 : decode method_2_code 30 = .ok (.iconst 5, 1) := by decide +kernel
theorem d1_31 : decode method_2_code 31 = .ok (.bipush 97, 2) := by decide +kernel
theorem d1_33 : decode method_2_code 33 = .ok (.castore, 1) := by decide +kernel
theorem d1_34 : decode method_2_code 34 = .ok (.dup, 1) := by decide +kernel
theorem d1_35 : decode method_2_code 35 = .ok (.bipush 6, 2) := by decide +kernel
theorem d1_37 : decode method_2_code 37 = .ok (.bipush 117, 2) := by decide +kernel
theorem d1_39 : decode method_2_code 39 = .ok (.castore, 1) := by decide +kernel
theorem d1_40 : decode method_2_code 40 = .ok (.dup, 1) := by decide +kernel
theorem d1_41 : decode method_2_code 41 = .ok (.bipush 7, 2) := by decide +kernel
theorem d1_43 : decode method_2_code 43 = .ok (.bipush 115, 2) := by decide +kernel
theorem d1_45 : decode method_2_code 45 = .ok (.castore, 1) := by decide +kernel
theorem d1_46 : decode method_2_code 46 = .ok (.dup, 1) := by decide +kernel
theorem d1_47 : decode method_2_code 47 = .ok (.bipush 8, 2) := by decide +kernel
theorem d1_49 : decode method_2_code 49 = .ok (.bipush 116, 2) := by decide +kernel
theorem d1_51 : decode method_2_code 51 = .ok (.castore, 1) := by decide +kernel
theorem d1_52 : decode method_2_code 52 = .ok (.dup, 1) := by decide +kernel
theorem d1_53 : decode method_2_code 53 = .ok (.bipush 9, 2) := by decide +kernel
theorem d1_55 : decode method_2_code 55 = .ok (.bipush 101, 2) := by decide +kernel
theorem d1_57 : decode method_2_code 57 = .ok (.castore, 1) := by decide +kernel
theorem d1_58 : decode method_2_code 58 = .ok (.dup, 1) := by decide +kernel
theorem d1_59 : decode method_2_code 59 = .ok (.bipush 10, 2) := by decide +kernel
theorem d1_61 : decode method_2_code 61 = .ok (.bipush 100, 2) := by decide +kernel
theorem d1_63 : decode method_2_code 63 = .ok (.castore, 1) := by decide +kernel
theorem d1_64 : decode method_2_code 64 = .ok (.areturn, 1) := by decide +kernel
set_option maxRecDepth 65536 in
set_option maxHeartbeats 40000000 in
theorem rm1 (l : Launch) (Z : State) (a0 : Array Value) (hw : ∀ d ∈ tables_1, d.before a0 Z = true)  (h0 : Heap) (n0 : Nat) (Z0 : n0 ≤ h0.size)  :
    OwnMet l Z (⟨"com/example/kohortd/kohortd/member/MemberUnsetValuePinLaw", "word", "()[C"⟩ : MethodName) method_2_code 0 (some (.array .char)) [] ({ frames := 0, cells := 1, slots := 11, locals := 0 } : Room) [] h0 (fun v h L => ∃ (t : Addr) (kT : ClassId), v = some (.ref t) ∧ Fr n0 L ∧ Keep h0 h [] ∧ h0.size ≤ t ∧ Arv Z h t kT .char (11 : Int32) [(.int (105 : Int32)), (.int (115 : Int32)), (.int (69 : Int32)), (.int (120 : Int32)), (.int (104 : Int32)), (.int (97 : Int32)), (.int (117 : Int32)), (.int (115 : Int32)), (.int (116 : Int32)), (.int (101 : Int32)), (.int (100 : Int32))] (.int (0 : Int32))) := by
  refine own_body (Ls := #[]) (plainFor_of_name own_pn2) (fun m => by first | (simp [entryFrame, mkF, argsToLocals, Value.category]; done) | rfl) (fun p e s m below meth cO T0 hx hby hml hown hnm hret hlk hZ X0 e0 => ?_)
  have hown : s.vm.findClass "com/example/kohortd/kohortd/member/MemberUnsetValuePinLaw" = some m.cls := hown
  have N0 := Fr.nil n0
  have K0 := Keep.refl h0 []
  refine g_bipush X0 hx 2 (11 : Int32) (hb hby d1_0) (by decide) rfl ?_
  refine g_newP X0 hx 4 hZ (own_w hw 4 rfl) e0 (hb hby d1_2) (by decide) 11 (by decide) (by decide) (by decide) (by decide) rfl (fun T1 h1 b1 kl1 g1 X1 e1 E1 A1 => ?_)
  have G_b1 : n0 ≤ b1 := Nat.le_trans Z0 (Nat.le_of_eq g1.symm)
  have Z1 : n0 ≤ h1.size := Nat.le_trans Z0 E1.1
  have SZ_b1 : h0.size ≤ b1 := Nat.le_trans K0.1 (Nat.le_of_eq g1.symm)
  have K1 := K0.ext E1
  have V_b1 : Arv Z h1 b1 kl1 .char (11 : Int32) [(.int (0 : Int32)), (.int (0 : Int32)), (.int (0 : Int32)), (.int (0 : Int32)), (.int (0 : Int32)), (.int (0 : Int32)), (.int (0 : Int32)), (.int (0 : Int32)), (.int (0 : Int32)), (.int (0 : Int32)), (.int (0 : Int32))] (.int (0 : Int32)) := A1.pad (pad_rep [] (.int (0 : Int32)) 11)
  refine g_dup X1 hx 5 (hb hby d1_4) rfl rfl ?_
  refine g_iconst X1 hx 6 (0 : Int32) (hb hby d1_5) (by decide) rfl ?_
  refine g_bipush X1 hx 8 (105 : Int32) (hb hby d1_6) (by decide) rfl ?_
  refine g_castore X1 hx 9 hZ e1 V_b1 0 (by decide) ⟨by decide, by decide⟩ (Nat.le_of_ble_eq_true rfl) (hb hby d1_8) rfl (fun T2 h2 X2 e2 W2 V2 => ?_)
  have V_b1 : Arv Z h2 b1 kl1 .char (11 : Int32) [(.int (105 : Int32)), (.int (0 : Int32)), (.int (0 : Int32)), (.int (0 : Int32)), (.int (0 : Int32)), (.int (0 : Int32)), (.int (0 : Int32)), (.int (0 : Int32)), (.int (0 : Int32)), (.int (0 : Int32)), (.int (0 : Int32))] (.int (0 : Int32)) := V2
  have N2 := Fr.snoc X2 N0 G_b1
  have Z2 : n0 ≤ h2.size := by rw [W2.size]; exact Z1
  have K2 := K1.wr W2 (Or.inr SZ_b1)
  refine g_dup X2 hx 10 (hb hby d1_9) rfl rfl ?_
  refine g_iconst X2 hx 11 (1 : Int32) (hb hby d1_10) (by decide) rfl ?_
  refine g_bipush X2 hx 13 (115 : Int32) (hb hby d1_11) (by decide) rfl ?_
  refine g_castore X2 hx 14 hZ e2 V_b1 1 (by decide) ⟨by decide, by decide⟩ (Nat.le_of_ble_eq_true rfl) (hb hby d1_13) rfl (fun T3 h3 X3 e3 W3 V3 => ?_)
  have V_b1 : Arv Z h3 b1 kl1 .char (11 : Int32) [(.int (105 : Int32)), (.int (115 : Int32)), (.int (0 : Int32)), (.int (0 : Int32)), (.int (0 : Int32)), (.int (0 : Int32)), (.int (0 : Int32)), (.int (0 : Int32)), (.int (0 : Int32)), (.int (0 : Int32)), (.int (0 : Int32))] (.int (0 : Int32)) := V3
  have N3 := Fr.snoc X3 N2 G_b1
  have Z3 : n0 ≤ h3.size := by rw [W3.size]; exact Z2
  have K3 := K2.wr W3 (Or.inr SZ_b1)
  refine g_dup X3 hx 15 (hb hby d1_14) rfl rfl ?_
  refine g_iconst X3 hx 16 (2 : Int32) (hb hby d1_15) (by decide) rfl ?_
  refine g_bipush X3 hx 18 (69 : Int32) (hb hby d1_16) (by decide) rfl ?_
  refine g_castore X3 hx 19 hZ e3 V_b1 2 (by decide) ⟨by decide, by decide⟩ (Nat.le_of_ble_eq_true rfl) (hb hby d1_18) rfl (fun T4 h4 X4 e4 W4 V4 => ?_)
  have V_b1 : Arv Z h4 b1 kl1 .char (11 : Int32) [(.int (105 : Int32)), (.int (115 : Int32)), (.int (69 : Int32)), (.int (0 : Int32)), (.int (0 : Int32)), (.int (0 : Int32)), (.int (0 : Int32)), (.int (0 : Int32)), (.int (0 : Int32)), (.int (0 : Int32)), (.int (0 : Int32))] (.int (0 : Int32)) := V4
  have N4 := Fr.snoc X4 N3 G_b1
  have Z4 : n0 ≤ h4.size := by rw [W4.size]; exact Z3
  have K4 := K3.wr W4 (Or.inr SZ_b1)
  refine g_dup X4 hx 20 (hb hby d1_19) rfl rfl ?_
  refine g_iconst X4 hx 21 (3 : Int32) (hb hby d1_20) (by decide) rfl ?_
  refine g_bipush X4 hx 23 (120 : Int32) (hb hby d1_21) (by decide) rfl ?_
  refine g_castore X4 hx 24 hZ e4 V_b1 3 (by decide) ⟨by decide, by decide⟩ (Nat.le_of_ble_eq_true rfl) (hb hby d1_23) rfl (fun T5 h5 X5 e5 W5 V5 => ?_)
  have V_b1 : Arv Z h5 b1 kl1 .char (11 : Int32) [(.int (105 : Int32)), (.int (115 : Int32)), (.int (69 : Int32)), (.int (120 : Int32)), (.int (0 : Int32)), (.int (0 : Int32)), (.int (0 : Int32)), (.int (0 : Int32)), (.int (0 : Int32)), (.int (0 : Int32)), (.int (0 : Int32))] (.int (0 : Int32)) := V5
  have N5 := Fr.snoc X5 N4 G_b1
  have Z5 : n0 ≤ h5.size := by rw [W5.size]; exact Z4
  have K5 := K4.wr W5 (Or.inr SZ_b1)
  refine g_dup X5 hx 25 (hb hby d1_24) rfl rfl ?_
  refine g_iconst X5 hx 26 (4 : Int32) (hb hby d1_25) (by decide) rfl ?_
  refine g_bipush X5 hx 28 (104 : Int32) (hb hby d1_26) (by decide) rfl ?_
  refine g_castore X5 hx 29 hZ e5 V_b1 4 (by decide) ⟨by decide, by decide⟩ (Nat.le_of_ble_eq_true rfl) (hb hby d1_28) rfl (fun T6 h6 X6 e6 W6 V6 => ?_)
  have V_b1 : Arv Z h6 b1 kl1 .char (11 : Int32) [(.int (105 : Int32)), (.int (115 : Int32)), (.int (69 : Int32)), (.int (120 : Int32)), (.int (104 : Int32)), (.int (0 : Int32)), (.int (0 : Int32)), (.int (0 : Int32)), (.int (0 : Int32)), (.int (0 : Int32)), (.int (0 : Int32))] (.int (0 : Int32)) := V6
  have N6 := Fr.snoc X6 N5 G_b1
  have Z6 : n0 ≤ h6.size := by rw [W6.size]; exact Z5
  have K6 := K5.wr W6 (Or.inr SZ_b1)
  refine g_dup X6 hx 30 (hb hby d1_29) rfl rfl ?_
  refine g_iconst X6 hx 31 (5 : Int32) (hb hby d1_30) (by decide) rfl ?_
  refine g_bipush X6 hx 33 (97 : Int32) (hb hby d1_31) (by decide) rfl ?_
  refine g_castore X6 hx 34 hZ e6 V_b1 5 (by decide) ⟨by decide, by decide⟩ (Nat.le_of_ble_eq_true rfl) (hb hby d1_33) rfl (fun T7 h7 X7 e7 W7 V7 => ?_)
  have V_b1 : Arv Z h7 b1 kl1 .char (11 : Int32) [(.int (105 : Int32)), (.int (115 : Int32)), (.int (69 : Int32)), (.int (120 : Int32)), (.int (104 : Int32)), (.int (97 : Int32)), (.int (0 : Int32)), (.int (0 : Int32)), (.int (0 : Int32)), (.int (0 : Int32)), (.int (0 : Int32))] (.int (0 : Int32)) := V7
  have N7 := Fr.snoc X7 N6 G_b1
  have Z7 : n0 ≤ h7.size := by rw [W7.size]; exact Z6
  have K7 := K6.wr W7 (Or.inr SZ_b1)
  refine g_dup X7 hx 35 (hb hby d1_34) rfl rfl ?_
  refine g_bipush X7 hx 37 (6 : Int32) (hb hby d1_35) (by decide) rfl ?_
  refine g_bipush X7 hx 39 (117 : Int32) (hb hby d1_37) (by decide) rfl ?_
  refine g_castore X7 hx 40 hZ e7 V_b1 6 (by decide) ⟨by decide, by decide⟩ (Nat.le_of_ble_eq_true rfl) (hb hby d1_39) rfl (fun T8 h8 X8 e8 W8 V8 => ?_)
  have V_b1 : Arv Z h8 b1 kl1 .char (11 : Int32) [(.int (105 : Int32)), (.int (115 : Int32)), (.int (69 : Int32)), (.int (120 : Int32)), (.int (104 : Int32)), (.int (97 : Int32)), (.int (117 : Int32)), (.int (0 : Int32)), (.int (0 : Int32)), (.int (0 : Int32)), (.int (0 : Int32))] (.int (0 : Int32)) := V8
  have N8 := Fr.snoc X8 N7 G_b1
  have Z8 : n0 ≤ h8.size := by rw [W8.size]; exact Z7
  have K8 := K7.wr W8 (Or.inr SZ_b1)
  refine g_dup X8 hx 41 (hb hby d1_40) rfl rfl ?_
  refine g_bipush X8 hx 43 (7 : Int32) (hb hby d1_41) (by decide) rfl ?_
  refine g_bipush X8 hx 45 (115 : Int32) (hb hby d1_43) (by decide) rfl ?_
  refine g_castore X8 hx 46 hZ e8 V_b1 7 (by decide) ⟨by decide, by decide⟩ (Nat.le_of_ble_eq_true rfl) (hb hby d1_45) rfl (fun T9 h9 X9 e9 W9 V9 => ?_)
  have V_b1 : Arv Z h9 b1 kl1 .char (11 : Int32) [(.int (105 : Int32)), (.int (115 : Int32)), (.int (69 : Int32)), (.int (120 : Int32)), (.int (104 : Int32)), (.int (97 : Int32)), (.int (117 : Int32)), (.int (115 : Int32)), (.int (0 : Int32)), (.int (0 : Int32)), (.int (0 : Int32))] (.int (0 : Int32)) := V9
  have N9 := Fr.snoc X9 N8 G_b1
  have Z9 : n0 ≤ h9.size := by rw [W9.size]; exact Z8
  have K9 := K8.wr W9 (Or.inr SZ_b1)
  refine g_dup X9 hx 47 (hb hby d1_46) rfl rfl ?_
  refine g_bipush X9 hx 49 (8 : Int32) (hb hby d1_47) (by decide) rfl ?_
  refine g_bipush X9 hx 51 (116 : Int32) (hb hby d1_49) (by decide) rfl ?_
  refine g_castore X9 hx 52 hZ e9 V_b1 8 (by decide) ⟨by decide, by decide⟩ (Nat.le_of_ble_eq_true rfl) (hb hby d1_51) rfl (fun T10 h10 X10 e10 W10 V10 => ?_)
  have V_b1 : Arv Z h10 b1 kl1 .char (11 : Int32) [(.int (105 : Int32)), (.int (115 : Int32)), (.int (69 : Int32)), (.int (120 : Int32)), (.int (104 : Int32)), (.int (97 : Int32)), (.int (117 : Int32)), (.int (115 : Int32)), (.int (116 : Int32)), (.int (0 : Int32)), (.int (0 : Int32))] (.int (0 : Int32)) := V10
  have N10 := Fr.snoc X10 N9 G_b1
  have Z10 : n0 ≤ h10.size := by rw [W10.size]; exact Z9
  have K10 := K9.wr W10 (Or.inr SZ_b1)
  refine g_dup X10 hx 53 (hb hby d1_52) rfl rfl ?_
  refine g_bipush X10 hx 55 (9 : Int32) (hb hby d1_53) (by decide) rfl ?_
  refine g_bipush X10 hx 57 (101 : Int32) (hb hby d1_55) (by decide) rfl ?_
  refine g_castore X10 hx 58 hZ e10 V_b1 9 (by decide) ⟨by decide, by decide⟩ (Nat.le_of_ble_eq_true rfl) (hb hby d1_57) rfl (fun T11 h11 X11 e11 W11 V11 => ?_)
  have V_b1 : Arv Z h11 b1 kl1 .char (11 : Int32) [(.int (105 : Int32)), (.int (115 : Int32)), (.int (69 : Int32)), (.int (120 : Int32)), (.int (104 : Int32)), (.int (97 : Int32)), (.int (117 : Int32)), (.int (115 : Int32)), (.int (116 : Int32)), (.int (101 : Int32)), (.int (0 : Int32))] (.int (0 : Int32)) := V11
  have N11 := Fr.snoc X11 N10 G_b1
  have Z11 : n0 ≤ h11.size := by rw [W11.size]; exact Z10
  have K11 := K10.wr W11 (Or.inr SZ_b1)
  refine g_dup X11 hx 59 (hb hby d1_58) rfl rfl ?_
  refine g_bipush X11 hx 61 (10 : Int32) (hb hby d1_59) (by decide) rfl ?_
  refine g_bipush X11 hx 63 (100 : Int32) (hb hby d1_61) (by decide) rfl ?_
  refine g_castore X11 hx 64 hZ e11 V_b1 10 (by decide) ⟨by decide, by decide⟩ (Nat.le_of_ble_eq_true rfl) (hb hby d1_63) rfl (fun T12 h12 X12 e12 W12 V12 => ?_)
  have V_b1 : Arv Z h12 b1 kl1 .char (11 : Int32) [(.int (105 : Int32)), (.int (115 : Int32)), (.int (69 : Int32)), (.int (120 : Int32)), (.int (104 : Int32)), (.int (97 : Int32)), (.int (117 : Int32)), (.int (115 : Int32)), (.int (116 : Int32)), (.int (101 : Int32)), (.int (100 : Int32))] (.int (0 : Int32)) := V12
  have N12 := Fr.snoc X12 N11 G_b1
  have Z12 : n0 ≤ h12.size := by rw [W12.size]; exact Z11
  have K12 := K11.wr W12 (Or.inr SZ_b1)
  exact g_retA X12 hx hret hlk rfl rfl rfl (hb hby d1_64) (by decide) (by decide) (by rw [e12]; exact ⟨_, _, rfl, N12, K12, SZ_b1, V_b1⟩)
theorem d16_0 : decode method_3_code 0 = .ok (.aload_n 0, 1) := by decide +kernel
theorem d16_1 : decode method_3_code 1 = .ok (.iconst 0, 1) := by decide +kernel
theorem d16_2 : decode method_3_code 2 = .ok (.caload, 1) := by decide +kernel
theorem d16_3 : decode method_3_code 3 = .ok (.bipush 105, 2) := by decide +kernel
theorem d16_5 : decode method_3_code 5 = .ok (.if_icmp .ne 92, 3) := by decide +kernel
theorem d16_8 : decode method_3_code 8 = .ok (.aload_n 0, 1) := by decide +kernel
theorem d16_9 : decode method_3_code 9 = .ok (.iconst 1, 1) := by decide +kernel
theorem d16_10 : decode method_3_code 10 = .ok (.caload, 1) := by decide +kernel
theorem d16_11 : decode method_3_code 11 = .ok (.bipush 115, 2) := by decide +kernel
theorem d16_13 : decode method_3_code 13 = .ok (.if_icmp .ne 84, 3) := by decide +kernel
theorem d16_16 : decode method_3_code 16 = .ok (.aload_n 0, 1) := by decide +kernel
theorem d16_17 : decode method_3_code 17 = .ok (.iconst 2, 1) := by decide +kernel
theorem d16_18 : decode method_3_code 18 = .ok (.caload, 1) := by decide +kernel
theorem d16_19 : decode method_3_code 19 = .ok (.bipush 69, 2) := by decide +kernel
theorem d16_21 : decode method_3_code 21 = .ok (.if_icmp .ne 76, 3) := by decide +kernel
theorem d16_24 : decode method_3_code 24 = .ok (.aload_n 0, 1) := by decide +kernel
theorem d16_25 : decode method_3_code 25 = .ok (.iconst 3, 1) := by decide +kernel
theorem d16_26 : decode method_3_code 26 = .ok (.caload, 1) := by decide +kernel
theorem d16_27 : decode method_3_code 27 = .ok (.bipush 120, 2) := by decide +kernel
theorem d16_29 : decode method_3_code 29 = .ok (.if_icmp .ne 68, 3) := by decide +kernel
theorem d16_32 : decode method_3_code 32 = .ok (.aload_n 0, 1) := by decide +kernel
theorem d16_33 : decode method_3_code 33 = .ok (.iconst 4, 1) := by decide +kernel
theorem d16_34 : decode method_3_code 34 = .ok (.caload, 1) := by decide +kernel
theorem d16_35 : decode method_3_code 35 = .ok (.bipush 104, 2) := by decide +kernel
theorem d16_37 : decode method_3_code 37 = .ok (.if_icmp .ne 60, 3) := by decide +kernel
theorem d16_40 : decode method_3_code 40 = .ok (.aload_n 0, 1) := by decide +kernel
theorem d16_41 : decode method_3_code 41 = .ok (.iconst 5, 1) := by decide +kernel
theorem d16_42 : decode method_3_code 42 = .ok (.caload, 1) := by decide +kernel
theorem d16_43 : decode method_3_code 43 = .ok (.bipush 97, 2) := by decide +kernel
theorem d16_45 : decode method_3_code 45 = .ok (.if_icmp .ne 52, 3) := by decide +kernel
theorem d16_48 : decode method_3_code 48 = .ok (.aload_n 0, 1) := by decide +kernel
theorem d16_49 : decode method_3_code 49 = .ok (.bipush 6, 2) := by decide +kernel
theorem d16_51 : decode method_3_code 51 = .ok (.caload, 1) := by decide +kernel
theorem d16_52 : decode method_3_code 52 = .ok (.bipush 117, 2) := by decide +kernel
theorem d16_54 : decode method_3_code 54 = .ok (.if_icmp .ne 43, 3) := by decide +kernel
theorem d16_57 : decode method_3_code 57 = .ok (.aload_n 0, 1) := by decide +kernel
theorem d16_58 : decode method_3_code 58 = .ok (.bipush 7, 2) := by decide +kernel
theorem d16_60 : decode method_3_code 60 = .ok (.caload, 1) := by decide +kernel
theorem d16_61 : decode method_3_code 61 = .ok (.bipush 115, 2) := by decide +kernel
theorem d16_63 : decode method_3_code 63 = .ok (.if_icmp .ne 34, 3) := by decide +kernel
theorem d16_66 : decode method_3_code 66 = .ok (.aload_n 0, 1) := by decide +kernel
theorem d16_67 : decode method_3_code 67 = .ok (.bipush 8, 2) := by decide +kernel
theorem d16_69 : decode method_3_code 69 = .ok (.caload, 1) := by decide +kernel
theorem d16_70 : decode method_3_code 70 = .ok (.bipush 116, 2) := by decide +kernel
theorem d16_72 : decode method_3_code 72 = .ok (.if_icmp .ne 25, 3) := by decide +kernel
theorem d16_75 : decode method_3_code 75 = .ok (.aload_n 0, 1) := by decide +kernel
theorem d16_76 : decode method_3_code 76 = .ok (.bipush 9, 2) := by decide +kernel
theorem d16_78 : decode method_3_code 78 = .ok (.caload, 1) := by decide +kernel
theorem d16_79 : decode method_3_code 79 = .ok (.bipush 101, 2) := by decide +kernel
theorem d16_81 : decode method_3_code 81 = .ok (.if_icmp .ne 16, 3) := by decide +kernel
theorem d16_84 : decode method_3_code 84 = .ok (.aload_n 0, 1) := by decide +kernel
theorem d16_85 : decode method_3_code 85 = .ok (.bipush 10, 2) := by decide +kernel
theorem d16_87 : decode method_3_code 87 = .ok (.caload, 1) := by decide +kernel
theorem d16_88 : decode method_3_code 88 = .ok (.bipush 100, 2) := by decide +kernel
theorem d16_90 : decode method_3_code 90 = .ok (.if_icmp .ne 7, 3) := by decide +kernel
theorem d16_93 : decode method_3_code 93 = .ok (.iconst 1, 1) := by decide +kernel
theorem d16_94 : decode method_3_code 94 = .ok (.goto 4, 3) := by decide +kernel
theorem d16_98 : decode method_3_code 98 = .ok (.ireturn, 1) := by decide +kernel
theorem d16_97 : decode method_3_code 97 = .ok (.iconst 0, 1) := by decide +kernel
set_option maxRecDepth 65536 in
set_option maxHeartbeats 40000000 in
theorem rm16 (l : Launch) (Z : State) (a0 : Array Value) (hw : ∀ d ∈ tables_1, d.before a0 Z = true) (b : Addr) (c0 c1 c2 c3 c4 c5 c6 c7 c8 c9 c10 : Int32) (kB : ClassId) (h0 : Heap) (n0 : Nat) (Z0 : n0 ≤ h0.size) (V_b : Arv Z h0 b kB .char (11 : Int32) [(.int c0), (.int c1), (.int c2), (.int c3), (.int c4), (.int c5), (.int c6), (.int c7), (.int c8), (.int c9), (.int c10)] (.int (0 : Int32))) :
    OwnMet l Z (⟨"com/example/kohortd/kohortd/member/MemberUnsetValuePinLaw", "isWord", "([C)Z"⟩ : MethodName) method_3_code 1 (some .boolean) [] ({ frames := 0, cells := 0, slots := 0, locals := 0 } : Room) [(.ref b)] h0 (fun v h L => v = some (.int (own_isw c0 c1 c2 c3 c4 c5 c6 c7 c8 c9 c10)) ∧ Fr n0 L ∧ h = h0) := by
  refine own_body (Ls := #[.val (.ref b)]) (plainFor_of_name own_pn2) (fun m => by first | (simp [entryFrame, mkF, argsToLocals, Value.category]; done) | rfl) (fun p e s m below meth cO T0 hx hby hml hown hnm hret hlk hZ X0 e0 => ?_)
  have hown : s.vm.findClass "com/example/kohortd/kohortd/member/MemberUnsetValuePinLaw" = some m.cls := hown
  have N0 := Fr.nil n0
  refine g_aloadN X0 hx 1 (hb hby d16_0) rfl rfl rfl ?_
  refine g_iconst X0 hx 2 (0 : Int32) (hb hby d16_1) (by decide) rfl ?_
  refine g_caload X0 hx 3 hZ e0 V_b ⟨by decide, by decide⟩ (show _ = (.int c0) from rfl) (hb hby d16_2) rfl ?_
  refine g_bipush X0 hx 5 (105 : Int32) (hb hby d16_3) (by decide) rfl ?_
  by_cases hc1 : c0 = (105 : Int32)
  · refine g_icF X0 hx 8 (hb hby d16_5) (teq hc1).2 rfl ?_
    refine g_aloadN X0 hx 9 (hb hby d16_8) rfl rfl rfl ?_
    refine g_iconst X0 hx 10 (1 : Int32) (hb hby d16_9) (by decide) rfl ?_
    refine g_caload X0 hx 11 hZ e0 V_b ⟨by decide, by decide⟩ (show _ = (.int c1) from rfl) (hb hby d16_10) rfl ?_
    refine g_bipush X0 hx 13 (115 : Int32) (hb hby d16_11) (by decide) rfl ?_
    by_cases hc2 : c1 = (115 : Int32)
    · refine g_icF X0 hx 16 (hb hby d16_13) (teq hc2).2 rfl ?_
      refine g_aloadN X0 hx 17 (hb hby d16_16) rfl rfl rfl ?_
      refine g_iconst X0 hx 18 (2 : Int32) (hb hby d16_17) (by decide) rfl ?_
      refine g_caload X0 hx 19 hZ e0 V_b ⟨by decide, by decide⟩ (show _ = (.int c2) from rfl) (hb hby d16_18) rfl ?_
      refine g_bipush X0 hx 21 (69 : Int32) (hb hby d16_19) (by decide) rfl ?_
      by_cases hc3 : c2 = (69 : Int32)
      · refine g_icF X0 hx 24 (hb hby d16_21) (teq hc3).2 rfl ?_
        refine g_aloadN X0 hx 25 (hb hby d16_24) rfl rfl rfl ?_
        refine g_iconst X0 hx 26 (3 : Int32) (hb hby d16_25) (by decide) rfl ?_
        refine g_caload X0 hx 27 hZ e0 V_b ⟨by decide, by decide⟩ (show _ = (.int c3) from rfl) (hb hby d16_26) rfl ?_
        refine g_bipush X0 hx 29 (120 : Int32) (hb hby d16_27) (by decide) rfl ?_
        by_cases hc4 : c3 = (120 : Int32)
        · refine g_icF X0 hx 32 (hb hby d16_29) (teq hc4).2 rfl ?_
          refine g_aloadN X0 hx 33 (hb hby d16_32) rfl rfl rfl ?_
          refine g_iconst X0 hx 34 (4 : Int32) (hb hby d16_33) (by decide) rfl ?_
          refine g_caload X0 hx 35 hZ e0 V_b ⟨by decide, by decide⟩ (show _ = (.int c4) from rfl) (hb hby d16_34) rfl ?_
          refine g_bipush X0 hx 37 (104 : Int32) (hb hby d16_35) (by decide) rfl ?_
          by_cases hc5 : c4 = (104 : Int32)
          · refine g_icF X0 hx 40 (hb hby d16_37) (teq hc5).2 rfl ?_
            refine g_aloadN X0 hx 41 (hb hby d16_40) rfl rfl rfl ?_
            refine g_iconst X0 hx 42 (5 : Int32) (hb hby d16_41) (by decide) rfl ?_
            refine g_caload X0 hx 43 hZ e0 V_b ⟨by decide, by decide⟩ (show _ = (.int c5) from rfl) (hb hby d16_42) rfl ?_
            refine g_bipush X0 hx 45 (97 : Int32) (hb hby d16_43) (by decide) rfl ?_
            by_cases hc6 : c5 = (97 : Int32)
            · refine g_icF X0 hx 48 (hb hby d16_45) (teq hc6).2 rfl ?_
              refine g_aloadN X0 hx 49 (hb hby d16_48) rfl rfl rfl ?_
              refine g_bipush X0 hx 51 (6 : Int32) (hb hby d16_49) (by decide) rfl ?_
              refine g_caload X0 hx 52 hZ e0 V_b ⟨by decide, by decide⟩ (show _ = (.int c6) from rfl) (hb hby d16_51) rfl ?_
              refine g_bipush X0 hx 54 (117 : Int32) (hb hby d16_52) (by decide) rfl ?_
              by_cases hc7 : c6 = (117 : Int32)
              · refine g_icF X0 hx 57 (hb hby d16_54) (teq hc7).2 rfl ?_
                refine g_aloadN X0 hx 58 (hb hby d16_57) rfl rfl rfl ?_
                refine g_bipush X0 hx 60 (7 : Int32) (hb hby d16_58) (by decide) rfl ?_
                refine g_caload X0 hx 61 hZ e0 V_b ⟨by decide, by decide⟩ (show _ = (.int c7) from rfl) (hb hby d16_60) rfl ?_
                refine g_bipush X0 hx 63 (115 : Int32) (hb hby d16_61) (by decide) rfl ?_
                by_cases hc8 : c7 = (115 : Int32)
                · refine g_icF X0 hx 66 (hb hby d16_63) (teq hc8).2 rfl ?_
                  refine g_aloadN X0 hx 67 (hb hby d16_66) rfl rfl rfl ?_
                  refine g_bipush X0 hx 69 (8 : Int32) (hb hby d16_67) (by decide) rfl ?_
                  refine g_caload X0 hx 70 hZ e0 V_b ⟨by decide, by decide⟩ (show _ = (.int c8) from rfl) (hb hby d16_69) rfl ?_
                  refine g_bipush X0 hx 72 (116 : Int32) (hb hby d16_70) (by decide) rfl ?_
                  by_cases hc9 : c8 = (116 : Int32)
                  · refine g_icF X0 hx 75 (hb hby d16_72) (teq hc9).2 rfl ?_
                    refine g_aloadN X0 hx 76 (hb hby d16_75) rfl rfl rfl ?_
                    refine g_bipush X0 hx 78 (9 : Int32) (hb hby d16_76) (by decide) rfl ?_
                    refine g_caload X0 hx 79 hZ e0 V_b ⟨by decide, by decide⟩ (show _ = (.int c9) from rfl) (hb hby d16_78) rfl ?_
                    refine g_bipush X0 hx 81 (101 : Int32) (hb hby d16_79) (by decide) rfl ?_
                    by_cases hc10 : c9 = (101 : Int32)
                    · refine g_icF X0 hx 84 (hb hby d16_81) (teq hc10).2 rfl ?_
                      refine g_aloadN X0 hx 85 (hb hby d16_84) rfl rfl rfl ?_
                      refine g_bipush X0 hx 87 (10 : Int32) (hb hby d16_85) (by decide) rfl ?_
                      refine g_caload X0 hx 88 hZ e0 V_b ⟨by decide, by decide⟩ (show _ = (.int c10) from rfl) (hb hby d16_87) rfl ?_
                      refine g_bipush X0 hx 90 (100 : Int32) (hb hby d16_88) (by decide) rfl ?_
                      by_cases hc11 : c10 = (100 : Int32)
                      · refine g_icF X0 hx 93 (hb hby d16_90) (teq hc11).2 rfl ?_
                        refine g_iconst X0 hx 94 (1 : Int32) (hb hby d16_93) (by decide) rfl ?_
                        refine g_goto X0 hx 98 (hb hby d16_94) (by decide) (by decide) ?_
                        exact g_retZ X0 hx hret hlk rfl (hb hby d16_98) (by decide) (by decide) ⟨by unfold own_isw; rw [if_pos hc1, if_pos hc2, if_pos hc3, if_pos hc4, if_pos hc5, if_pos hc6, if_pos hc7, if_pos hc8, if_pos hc9, if_pos hc10, if_pos hc11], N0, e0⟩
                      · refine g_icT X0 hx 97 (hb hby d16_90) (feq hc11).2 (by decide) (by decide) ?_
                        refine g_iconst X0 hx 98 (0 : Int32) (hb hby d16_97) (by decide) rfl ?_
                        exact g_retZ X0 hx hret hlk rfl (hb hby d16_98) (by decide) (by decide) ⟨by unfold own_isw; rw [if_pos hc1, if_pos hc2, if_pos hc3, if_pos hc4, if_pos hc5, if_pos hc6, if_pos hc7, if_pos hc8, if_pos hc9, if_pos hc10, if_neg hc11], N0, e0⟩
                    · refine g_icT X0 hx 97 (hb hby d16_81) (feq hc10).2 (by decide) (by decide) ?_
                      refine g_iconst X0 hx 98 (0 : Int32) (hb hby d16_97) (by decide) rfl ?_
                      exact g_retZ X0 hx hret hlk rfl (hb hby d16_98) (by decide) (by decide) ⟨by unfold own_isw; rw [if_pos hc1, if_pos hc2, if_pos hc3, if_pos hc4, if_pos hc5, if_pos hc6, if_pos hc7, if_pos hc8, if_pos hc9, if_neg hc10], N0, e0⟩
                  · refine g_icT X0 hx 97 (hb hby d16_72) (feq hc9).2 (by decide) (by decide) ?_
                    refine g_iconst X0 hx 98 (0 : Int32) (hb hby d16_97) (by decide) rfl ?_
                    exact g_retZ X0 hx hret hlk rfl (hb hby d16_98) (by decide) (by decide) ⟨by unfold own_isw; rw [if_pos hc1, if_pos hc2, if_pos hc3, if_pos hc4, if_pos hc5, if_pos hc6, if_pos hc7, if_pos hc8, if_neg hc9], N0, e0⟩
                · refine g_icT X0 hx 97 (hb hby d16_63) (feq hc8).2 (by decide) (by decide) ?_
                  refine g_iconst X0 hx 98 (0 : Int32) (hb hby d16_97) (by decide) rfl ?_
                  exact g_retZ X0 hx hret hlk rfl (hb hby d16_98) (by decide) (by decide) ⟨by unfold own_isw; rw [if_pos hc1, if_pos hc2, if_pos hc3, if_pos hc4, if_pos hc5, if_pos hc6, if_pos hc7, if_neg hc8], N0, e0⟩
              · refine g_icT X0 hx 97 (hb hby d16_54) (feq hc7).2 (by decide) (by decide) ?_
                refine g_iconst X0 hx 98 (0 : Int32) (hb hby d16_97) (by decide) rfl ?_
                exact g_retZ X0 hx hret hlk rfl (hb hby d16_98) (by decide) (by decide) ⟨by unfold own_isw; rw [if_pos hc1, if_pos hc2, if_pos hc3, if_pos hc4, if_pos hc5, if_pos hc6, if_neg hc7], N0, e0⟩
            · refine g_icT X0 hx 97 (hb hby d16_45) (feq hc6).2 (by decide) (by decide) ?_
              refine g_iconst X0 hx 98 (0 : Int32) (hb hby d16_97) (by decide) rfl ?_
              exact g_retZ X0 hx hret hlk rfl (hb hby d16_98) (by decide) (by decide) ⟨by unfold own_isw; rw [if_pos hc1, if_pos hc2, if_pos hc3, if_pos hc4, if_pos hc5, if_neg hc6], N0, e0⟩
          · refine g_icT X0 hx 97 (hb hby d16_37) (feq hc5).2 (by decide) (by decide) ?_
            refine g_iconst X0 hx 98 (0 : Int32) (hb hby d16_97) (by decide) rfl ?_
            exact g_retZ X0 hx hret hlk rfl (hb hby d16_98) (by decide) (by decide) ⟨by unfold own_isw; rw [if_pos hc1, if_pos hc2, if_pos hc3, if_pos hc4, if_neg hc5], N0, e0⟩
        · refine g_icT X0 hx 97 (hb hby d16_29) (feq hc4).2 (by decide) (by decide) ?_
          refine g_iconst X0 hx 98 (0 : Int32) (hb hby d16_97) (by decide) rfl ?_
          exact g_retZ X0 hx hret hlk rfl (hb hby d16_98) (by decide) (by decide) ⟨by unfold own_isw; rw [if_pos hc1, if_pos hc2, if_pos hc3, if_neg hc4], N0, e0⟩
      · refine g_icT X0 hx 97 (hb hby d16_21) (feq hc3).2 (by decide) (by decide) ?_
        refine g_iconst X0 hx 98 (0 : Int32) (hb hby d16_97) (by decide) rfl ?_
        exact g_retZ X0 hx hret hlk rfl (hb hby d16_98) (by decide) (by decide) ⟨by unfold own_isw; rw [if_pos hc1, if_pos hc2, if_neg hc3], N0, e0⟩
    · refine g_icT X0 hx 97 (hb hby d16_13) (feq hc2).2 (by decide) (by decide) ?_
      refine g_iconst X0 hx 98 (0 : Int32) (hb hby d16_97) (by decide) rfl ?_
      exact g_retZ X0 hx hret hlk rfl (hb hby d16_98) (by decide) (by decide) ⟨by unfold own_isw; rw [if_pos hc1, if_neg hc2], N0, e0⟩
  · refine g_icT X0 hx 97 (hb hby d16_5) (feq hc1).2 (by decide) (by decide) ?_
    refine g_iconst X0 hx 98 (0 : Int32) (hb hby d16_97) (by decide) rfl ?_
    exact g_retZ X0 hx hret hlk rfl (hb hby d16_98) (by decide) (by decide) ⟨by unfold own_isw; rw [if_neg hc1], N0, e0⟩
theorem own_pn3 : plainName "java/lang/StringLatin1" = true := by first | (simp [plainName, overriddenIn]; done) | decide +kernel
theorem d10_0 : decode jdk_43_method_13_code 0 = .ok (.aload_n 0, 1) := by decide +kernel
theorem d10_1 : decode jdk_43_method_13_code 1 = .ok (.arraylength, 1) := by decide +kernel
theorem d10_2 : decode jdk_43_method_13_code 2 = .ok (.aload_n 1, 1) := by decide +kernel
theorem d10_3 : decode jdk_43_method_13_code 3 = .ok (.arraylength, 1) := by decide +kernel
theorem d10_4 : decode jdk_43_method_13_code 4 = .ok (.if_icmp .ne 30, 3) := by decide +kernel
theorem d10_7 : decode jdk_43_method_13_code 7 = .ok (.iconst 0, 1) := by decide +kernel
theorem d10_8 : decode jdk_43_method_13_code 8 = .ok (.istore_n 2, 1) := by decide +kernel
theorem d10_9 : decode jdk_43_method_13_code 9 = .ok (.iload_n 2, 1) := by decide +kernel
theorem d10_10 : decode jdk_43_method_13_code 10 = .ok (.aload_n 0, 1) := by decide +kernel
theorem d10_11 : decode jdk_43_method_13_code 11 = .ok (.arraylength, 1) := by decide +kernel
theorem d10_12 : decode jdk_43_method_13_code 12 = .ok (.if_icmp .ge 20, 3) := by decide +kernel
theorem d10_15 : decode jdk_43_method_13_code 15 = .ok (.aload_n 0, 1) := by decide +kernel
theorem d10_16 : decode jdk_43_method_13_code 16 = .ok (.iload_n 2, 1) := by decide +kernel
theorem d10_17 : decode jdk_43_method_13_code 17 = .ok (.baload, 1) := by decide +kernel
theorem d10_18 : decode jdk_43_method_13_code 18 = .ok (.aload_n 1, 1) := by decide +kernel
theorem d10_19 : decode jdk_43_method_13_code 19 = .ok (.iload_n 2, 1) := by decide +kernel
theorem d10_20 : decode jdk_43_method_13_code 20 = .ok (.baload, 1) := by decide +kernel
theorem d10_21 : decode jdk_43_method_13_code 21 = .ok (.if_icmp .eq 5, 3) := by decide +kernel
theorem d10_26 : decode jdk_43_method_13_code 26 = .ok (.iinc 2 1, 3) := by decide +kernel
theorem d10_29 : decode jdk_43_method_13_code 29 = .ok (.goto (-20), 3) := by decide +kernel
theorem d10_32 : decode jdk_43_method_13_code 32 = .ok (.iconst 1, 1) := by decide +kernel
theorem d10_33 : decode jdk_43_method_13_code 33 = .ok (.ireturn, 1) := by decide +kernel
theorem d10_24 : decode jdk_43_method_13_code 24 = .ok (.iconst 0, 1) := by decide +kernel
theorem d10_25 : decode jdk_43_method_13_code 25 = .ok (.ireturn, 1) := by decide +kernel
set_option maxRecDepth 65536 in
set_option maxHeartbeats 40000000 in
theorem rleq (l : Launch) (Z : State) (a0 : Array Value) (hw : ∀ d ∈ tables_1, d.before a0 Z = true) (t b : Addr) (v0 v1 v2 v3 v4 v5 v6 v7 v8 v9 v10 : Int32) (kT kB : ClassId) (h0 : Heap) (n0 : Nat) (Z0 : n0 ≤ h0.size) (V_t : Arv Z h0 t kT .byte (11 : Int32) [(.int v0), (.int v1), (.int v2), (.int v3), (.int v4), (.int v5), (.int v6), (.int v7), (.int v8), (.int v9), (.int v10)] (.int (0 : Int32))) (V_b : Arv Z h0 b kB .byte (11 : Int32) [(.int (105 : Int32)), (.int (115 : Int32)), (.int (69 : Int32)), (.int (120 : Int32)), (.int (104 : Int32)), (.int (97 : Int32)), (.int (117 : Int32)), (.int (115 : Int32)), (.int (116 : Int32)), (.int (101 : Int32)), (.int (100 : Int32))] (.int (0 : Int32))) :
    OwnMet l Z (⟨"java/lang/StringLatin1", "equals", "([B[B)Z"⟩ : MethodName) jdk_43_method_13_code 3 (some .boolean) [] ({ frames := 0, cells := 0, slots := 0, locals := 0 } : Room) [(.ref t), (.ref b)] h0 (fun v h L => v = some (.int (own_isw v0 v1 v2 v3 v4 v5 v6 v7 v8 v9 v10)) ∧ Fr n0 L ∧ h = h0) := by
  refine own_body (Ls := #[.val (.ref t), .val (.ref b), .unset]) (plainFor_of_name own_pn3) (fun m => by first | (simp [entryFrame, mkF, argsToLocals, Value.category]; done) | rfl) (fun p e s m below meth cO T0 hx hby hml hown hnm hret hlk hZ X0 e0 => ?_)
  have hown : s.vm.findClass "java/lang/StringLatin1" = some m.cls := hown
  have N0 := Fr.nil n0
  refine g_aloadN X0 hx 1 (hb hby d10_0) rfl rfl rfl ?_
  refine g_arraylength X0 hx 2 hZ e0 V_t (hb hby d10_1) rfl ?_
  refine g_aloadN X0 hx 3 (hb hby d10_2) rfl rfl rfl ?_
  refine g_arraylength X0 hx 4 hZ e0 V_b (hb hby d10_3) rfl ?_
  refine g_icF X0 hx 7 (hb hby d10_4) (by decide) rfl ?_
  refine g_iconst X0 hx 8 (0 : Int32) (hb hby d10_7) (by decide) rfl ?_
  refine g_istoreN X0 hx 9 #[.val (.ref t), .val (.ref b), .val (.int (0 : Int32))] (hb hby d10_8) rfl rfl ?_
  refine g_iloadN X0 hx 10 (hb hby d10_9) rfl rfl ?_
  refine g_aloadN X0 hx 11 (hb hby d10_10) rfl rfl rfl ?_
  refine g_arraylength X0 hx 12 hZ e0 V_t (hb hby d10_11) rfl ?_
  refine g_icF X0 hx 15 (hb hby d10_12) (by decide) rfl ?_
  refine g_aloadN X0 hx 16 (hb hby d10_15) rfl rfl rfl ?_
  refine g_iloadN X0 hx 17 (hb hby d10_16) rfl rfl ?_
  refine g_baload X0 hx 18 hZ e0 V_t ⟨by decide, by decide⟩ (show _ = (.int v0) from rfl) (hb hby d10_17) rfl ?_
  refine g_aloadN X0 hx 19 (hb hby d10_18) rfl rfl rfl ?_
  refine g_iloadN X0 hx 20 (hb hby d10_19) rfl rfl ?_
  refine g_baload X0 hx 21 hZ e0 V_b ⟨by decide, by decide⟩ (show _ = (.int (105 : Int32)) from rfl) (hb hby d10_20) rfl ?_
  by_cases hc1 : v0 = (105 : Int32)
  · refine g_icT X0 hx 26 (hb hby d10_21) (teq hc1).1 (by decide) (by decide) ?_
    refine g_iinc X0 hx 29 (1 : Int32) #[.val (.ref t), .val (.ref b), .val (.int (1 : Int32))] (hb hby d10_26) rfl (by decide) rfl rfl ?_
    refine g_goto X0 hx 9 (hb hby d10_29) (by decide) (by decide) ?_
    refine g_iloadN X0 hx 10 (hb hby d10_9) rfl rfl ?_
    refine g_aloadN X0 hx 11 (hb hby d10_10) rfl rfl rfl ?_
    refine g_arraylength X0 hx 12 hZ e0 V_t (hb hby d10_11) rfl ?_
    refine g_icF X0 hx 15 (hb hby d10_12) (by decide) rfl ?_
    refine g_aloadN X0 hx 16 (hb hby d10_15) rfl rfl rfl ?_
    refine g_iloadN X0 hx 17 (hb hby d10_16) rfl rfl ?_
    refine g_baload X0 hx 18 hZ e0 V_t ⟨by decide, by decide⟩ (show _ = (.int v1) from rfl) (hb hby d10_17) rfl ?_
    refine g_aloadN X0 hx 19 (hb hby d10_18) rfl rfl rfl ?_
    refine g_iloadN X0 hx 20 (hb hby d10_19) rfl rfl ?_
    refine g_baload X0 hx 21 hZ e0 V_b ⟨by decide, by decide⟩ (show _ = (.int (115 : Int32)) from rfl) (hb hby d10_20) rfl ?_
    by_cases hc2 : v1 = (115 : Int32)
    · refine g_icT X0 hx 26 (hb hby d10_21) (teq hc2).1 (by decide) (by decide) ?_
      refine g_iinc X0 hx 29 (2 : Int32) #[.val (.ref t), .val (.ref b), .val (.int (2 : Int32))] (hb hby d10_26) rfl (by decide) rfl rfl ?_
      refine g_goto X0 hx 9 (hb hby d10_29) (by decide) (by decide) ?_
      refine g_iloadN X0 hx 10 (hb hby d10_9) rfl rfl ?_
      refine g_aloadN X0 hx 11 (hb hby d10_10) rfl rfl rfl ?_
      refine g_arraylength X0 hx 12 hZ e0 V_t (hb hby d10_11) rfl ?_
      refine g_icF X0 hx 15 (hb hby d10_12) (by decide) rfl ?_
      refine g_aloadN X0 hx 16 (hb hby d10_15) rfl rfl rfl ?_
      refine g_iloadN X0 hx 17 (hb hby d10_16) rfl rfl ?_
      refine g_baload X0 hx 18 hZ e0 V_t ⟨by decide, by decide⟩ (show _ = (.int v2) from rfl) (hb hby d10_17) rfl ?_
      refine g_aloadN X0 hx 19 (hb hby d10_18) rfl rfl rfl ?_
      refine g_iloadN X0 hx 20 (hb hby d10_19) rfl rfl ?_
      refine g_baload X0 hx 21 hZ e0 V_b ⟨by decide, by decide⟩ (show _ = (.int (69 : Int32)) from rfl) (hb hby d10_20) rfl ?_
      by_cases hc3 : v2 = (69 : Int32)
      · refine g_icT X0 hx 26 (hb hby d10_21) (teq hc3).1 (by decide) (by decide) ?_
        refine g_iinc X0 hx 29 (3 : Int32) #[.val (.ref t), .val (.ref b), .val (.int (3 : Int32))] (hb hby d10_26) rfl (by decide) rfl rfl ?_
        refine g_goto X0 hx 9 (hb hby d10_29) (by decide) (by decide) ?_
        refine g_iloadN X0 hx 10 (hb hby d10_9) rfl rfl ?_
        refine g_aloadN X0 hx 11 (hb hby d10_10) rfl rfl rfl ?_
        refine g_arraylength X0 hx 12 hZ e0 V_t (hb hby d10_11) rfl ?_
        refine g_icF X0 hx 15 (hb hby d10_12) (by decide) rfl ?_
        refine g_aloadN X0 hx 16 (hb hby d10_15) rfl rfl rfl ?_
        refine g_iloadN X0 hx 17 (hb hby d10_16) rfl rfl ?_
        refine g_baload X0 hx 18 hZ e0 V_t ⟨by decide, by decide⟩ (show _ = (.int v3) from rfl) (hb hby d10_17) rfl ?_
        refine g_aloadN X0 hx 19 (hb hby d10_18) rfl rfl rfl ?_
        refine g_iloadN X0 hx 20 (hb hby d10_19) rfl rfl ?_
        refine g_baload X0 hx 21 hZ e0 V_b ⟨by decide, by decide⟩ (show _ = (.int (120 : Int32)) from rfl) (hb hby d10_20) rfl ?_
        by_cases hc4 : v3 = (120 : Int32)
        · refine g_icT X0 hx 26 (hb hby d10_21) (teq hc4).1 (by decide) (by decide) ?_
          refine g_iinc X0 hx 29 (4 : Int32) #[.val (.ref t), .val (.ref b), .val (.int (4 : Int32))] (hb hby d10_26) rfl (by decide) rfl rfl ?_
          refine g_goto X0 hx 9 (hb hby d10_29) (by decide) (by decide) ?_
          refine g_iloadN X0 hx 10 (hb hby d10_9) rfl rfl ?_
          refine g_aloadN X0 hx 11 (hb hby d10_10) rfl rfl rfl ?_
          refine g_arraylength X0 hx 12 hZ e0 V_t (hb hby d10_11) rfl ?_
          refine g_icF X0 hx 15 (hb hby d10_12) (by decide) rfl ?_
          refine g_aloadN X0 hx 16 (hb hby d10_15) rfl rfl rfl ?_
          refine g_iloadN X0 hx 17 (hb hby d10_16) rfl rfl ?_
          refine g_baload X0 hx 18 hZ e0 V_t ⟨by decide, by decide⟩ (show _ = (.int v4) from rfl) (hb hby d10_17) rfl ?_
          refine g_aloadN X0 hx 19 (hb hby d10_18) rfl rfl rfl ?_
          refine g_iloadN X0 hx 20 (hb hby d10_19) rfl rfl ?_
          refine g_baload X0 hx 21 hZ e0 V_b ⟨by decide, by decide⟩ (show _ = (.int (104 : Int32)) from rfl) (hb hby d10_20) rfl ?_
          by_cases hc5 : v4 = (104 : Int32)
          · refine g_icT X0 hx 26 (hb hby d10_21) (teq hc5).1 (by decide) (by decide) ?_
            refine g_iinc X0 hx 29 (5 : Int32) #[.val (.ref t), .val (.ref b), .val (.int (5 : Int32))] (hb hby d10_26) rfl (by decide) rfl rfl ?_
            refine g_goto X0 hx 9 (hb hby d10_29) (by decide) (by decide) ?_
            refine g_iloadN X0 hx 10 (hb hby d10_9) rfl rfl ?_
            refine g_aloadN X0 hx 11 (hb hby d10_10) rfl rfl rfl ?_
            refine g_arraylength X0 hx 12 hZ e0 V_t (hb hby d10_11) rfl ?_
            refine g_icF X0 hx 15 (hb hby d10_12) (by decide) rfl ?_
            refine g_aloadN X0 hx 16 (hb hby d10_15) rfl rfl rfl ?_
            refine g_iloadN X0 hx 17 (hb hby d10_16) rfl rfl ?_
            refine g_baload X0 hx 18 hZ e0 V_t ⟨by decide, by decide⟩ (show _ = (.int v5) from rfl) (hb hby d10_17) rfl ?_
            refine g_aloadN X0 hx 19 (hb hby d10_18) rfl rfl rfl ?_
            refine g_iloadN X0 hx 20 (hb hby d10_19) rfl rfl ?_
            refine g_baload X0 hx 21 hZ e0 V_b ⟨by decide, by decide⟩ (show _ = (.int (97 : Int32)) from rfl) (hb hby d10_20) rfl ?_
            by_cases hc6 : v5 = (97 : Int32)
            · refine g_icT X0 hx 26 (hb hby d10_21) (teq hc6).1 (by decide) (by decide) ?_
              refine g_iinc X0 hx 29 (6 : Int32) #[.val (.ref t), .val (.ref b), .val (.int (6 : Int32))] (hb hby d10_26) rfl (by decide) rfl rfl ?_
              refine g_goto X0 hx 9 (hb hby d10_29) (by decide) (by decide) ?_
              refine g_iloadN X0 hx 10 (hb hby d10_9) rfl rfl ?_
              refine g_aloadN X0 hx 11 (hb hby d10_10) rfl rfl rfl ?_
              refine g_arraylength X0 hx 12 hZ e0 V_t (hb hby d10_11) rfl ?_
              refine g_icF X0 hx 15 (hb hby d10_12) (by decide) rfl ?_
              refine g_aloadN X0 hx 16 (hb hby d10_15) rfl rfl rfl ?_
              refine g_iloadN X0 hx 17 (hb hby d10_16) rfl rfl ?_
              refine g_baload X0 hx 18 hZ e0 V_t ⟨by decide, by decide⟩ (show _ = (.int v6) from rfl) (hb hby d10_17) rfl ?_
              refine g_aloadN X0 hx 19 (hb hby d10_18) rfl rfl rfl ?_
              refine g_iloadN X0 hx 20 (hb hby d10_19) rfl rfl ?_
              refine g_baload X0 hx 21 hZ e0 V_b ⟨by decide, by decide⟩ (show _ = (.int (117 : Int32)) from rfl) (hb hby d10_20) rfl ?_
              by_cases hc7 : v6 = (117 : Int32)
              · refine g_icT X0 hx 26 (hb hby d10_21) (teq hc7).1 (by decide) (by decide) ?_
                refine g_iinc X0 hx 29 (7 : Int32) #[.val (.ref t), .val (.ref b), .val (.int (7 : Int32))] (hb hby d10_26) rfl (by decide) rfl rfl ?_
                refine g_goto X0 hx 9 (hb hby d10_29) (by decide) (by decide) ?_
                refine g_iloadN X0 hx 10 (hb hby d10_9) rfl rfl ?_
                refine g_aloadN X0 hx 11 (hb hby d10_10) rfl rfl rfl ?_
                refine g_arraylength X0 hx 12 hZ e0 V_t (hb hby d10_11) rfl ?_
                refine g_icF X0 hx 15 (hb hby d10_12) (by decide) rfl ?_
                refine g_aloadN X0 hx 16 (hb hby d10_15) rfl rfl rfl ?_
                refine g_iloadN X0 hx 17 (hb hby d10_16) rfl rfl ?_
                refine g_baload X0 hx 18 hZ e0 V_t ⟨by decide, by decide⟩ (show _ = (.int v7) from rfl) (hb hby d10_17) rfl ?_
                refine g_aloadN X0 hx 19 (hb hby d10_18) rfl rfl rfl ?_
                refine g_iloadN X0 hx 20 (hb hby d10_19) rfl rfl ?_
                refine g_baload X0 hx 21 hZ e0 V_b ⟨by decide, by decide⟩ (show _ = (.int (115 : Int32)) from rfl) (hb hby d10_20) rfl ?_
                by_cases hc8 : v7 = (115 : Int32)
                · refine g_icT X0 hx 26 (hb hby d10_21) (teq hc8).1 (by decide) (by decide) ?_
                  refine g_iinc X0 hx 29 (8 : Int32) #[.val (.ref t), .val (.ref b), .val (.int (8 : Int32))] (hb hby d10_26) rfl (by decide) rfl rfl ?_
                  refine g_goto X0 hx 9 (hb hby d10_29) (by decide) (by decide) ?_
                  refine g_iloadN X0 hx 10 (hb hby d10_9) rfl rfl ?_
                  refine g_aloadN X0 hx 11 (hb hby d10_10) rfl rfl rfl ?_
                  refine g_arraylength X0 hx 12 hZ e0 V_t (hb hby d10_11) rfl ?_
                  refine g_icF X0 hx 15 (hb hby d10_12) (by decide) rfl ?_
                  refine g_aloadN X0 hx 16 (hb hby d10_15) rfl rfl rfl ?_
                  refine g_iloadN X0 hx 17 (hb hby d10_16) rfl rfl ?_
                  refine g_baload X0 hx 18 hZ e0 V_t ⟨by decide, by decide⟩ (show _ = (.int v8) from rfl) (hb hby d10_17) rfl ?_
                  refine g_aloadN X0 hx 19 (hb hby d10_18) rfl rfl rfl ?_
                  refine g_iloadN X0 hx 20 (hb hby d10_19) rfl rfl ?_
                  refine g_baload X0 hx 21 hZ e0 V_b ⟨by decide, by decide⟩ (show _ = (.int (116 : Int32)) from rfl) (hb hby d10_20) rfl ?_
                  by_cases hc9 : v8 = (116 : Int32)
                  · refine g_icT X0 hx 26 (hb hby d10_21) (teq hc9).1 (by decide) (by decide) ?_
                    refine g_iinc X0 hx 29 (9 : Int32) #[.val (.ref t), .val (.ref b), .val (.int (9 : Int32))] (hb hby d10_26) rfl (by decide) rfl rfl ?_
                    refine g_goto X0 hx 9 (hb hby d10_29) (by decide) (by decide) ?_
                    refine g_iloadN X0 hx 10 (hb hby d10_9) rfl rfl ?_
                    refine g_aloadN X0 hx 11 (hb hby d10_10) rfl rfl rfl ?_
                    refine g_arraylength X0 hx 12 hZ e0 V_t (hb hby d10_11) rfl ?_
                    refine g_icF X0 hx 15 (hb hby d10_12) (by decide) rfl ?_
                    refine g_aloadN X0 hx 16 (hb hby d10_15) rfl rfl rfl ?_
                    refine g_iloadN X0 hx 17 (hb hby d10_16) rfl rfl ?_
                    refine g_baload X0 hx 18 hZ e0 V_t ⟨by decide, by decide⟩ (show _ = (.int v9) from rfl) (hb hby d10_17) rfl ?_
                    refine g_aloadN X0 hx 19 (hb hby d10_18) rfl rfl rfl ?_
                    refine g_iloadN X0 hx 20 (hb hby d10_19) rfl rfl ?_
                    refine g_baload X0 hx 21 hZ e0 V_b ⟨by decide, by decide⟩ (show _ = (.int (101 : Int32)) from rfl) (hb hby d10_20) rfl ?_
                    by_cases hc10 : v9 = (101 : Int32)
                    · refine g_icT X0 hx 26 (hb hby d10_21) (teq hc10).1 (by decide) (by decide) ?_
                      refine g_iinc X0 hx 29 (10 : Int32) #[.val (.ref t), .val (.ref b), .val (.int (10 : Int32))] (hb hby d10_26) rfl (by decide) rfl rfl ?_
                      refine g_goto X0 hx 9 (hb hby d10_29) (by decide) (by decide) ?_
                      refine g_iloadN X0 hx 10 (hb hby d10_9) rfl rfl ?_
                      refine g_aloadN X0 hx 11 (hb hby d10_10) rfl rfl rfl ?_
                      refine g_arraylength X0 hx 12 hZ e0 V_t (hb hby d10_11) rfl ?_
                      refine g_icF X0 hx 15 (hb hby d10_12) (by decide) rfl ?_
                      refine g_aloadN X0 hx 16 (hb hby d10_15) rfl rfl rfl ?_
                      refine g_iloadN X0 hx 17 (hb hby d10_16) rfl rfl ?_
                      refine g_baload X0 hx 18 hZ e0 V_t ⟨by decide, by decide⟩ (show _ = (.int v10) from rfl) (hb hby d10_17) rfl ?_
                      refine g_aloadN X0 hx 19 (hb hby d10_18) rfl rfl rfl ?_
                      refine g_iloadN X0 hx 20 (hb hby d10_19) rfl rfl ?_
                      refine g_baload X0 hx 21 hZ e0 V_b ⟨by decide, by decide⟩ (show _ = (.int (100 : Int32)) from rfl) (hb hby d10_20) rfl ?_
                      by_cases hc11 : v10 = (100 : Int32)
                      · refine g_icT X0 hx 26 (hb hby d10_21) (teq hc11).1 (by decide) (by decide) ?_
                        refine g_iinc X0 hx 29 (11 : Int32) #[.val (.ref t), .val (.ref b), .val (.int (11 : Int32))] (hb hby d10_26) rfl (by decide) rfl rfl ?_
                        refine g_goto X0 hx 9 (hb hby d10_29) (by decide) (by decide) ?_
                        refine g_iloadN X0 hx 10 (hb hby d10_9) rfl rfl ?_
                        refine g_aloadN X0 hx 11 (hb hby d10_10) rfl rfl rfl ?_
                        refine g_arraylength X0 hx 12 hZ e0 V_t (hb hby d10_11) rfl ?_
                        refine g_icT X0 hx 32 (hb hby d10_12) (by decide) (by decide) (by decide) ?_
                        refine g_iconst X0 hx 33 (1 : Int32) (hb hby d10_32) (by decide) rfl ?_
                        exact g_retZ X0 hx hret hlk rfl (hb hby d10_33) (by decide) (by decide) ⟨by unfold own_isw; rw [if_pos hc1, if_pos hc2, if_pos hc3, if_pos hc4, if_pos hc5, if_pos hc6, if_pos hc7, if_pos hc8, if_pos hc9, if_pos hc10, if_pos hc11], N0, e0⟩
                      · refine g_icF X0 hx 24 (hb hby d10_21) (feq hc11).1 rfl ?_
                        refine g_iconst X0 hx 25 (0 : Int32) (hb hby d10_24) (by decide) rfl ?_
                        exact g_retZ X0 hx hret hlk rfl (hb hby d10_25) (by decide) (by decide) ⟨by unfold own_isw; rw [if_pos hc1, if_pos hc2, if_pos hc3, if_pos hc4, if_pos hc5, if_pos hc6, if_pos hc7, if_pos hc8, if_pos hc9, if_pos hc10, if_neg hc11], N0, e0⟩
                    · refine g_icF X0 hx 24 (hb hby d10_21) (feq hc10).1 rfl ?_
                      refine g_iconst X0 hx 25 (0 : Int32) (hb hby d10_24) (by decide) rfl ?_
                      exact g_retZ X0 hx hret hlk rfl (hb hby d10_25) (by decide) (by decide) ⟨by unfold own_isw; rw [if_pos hc1, if_pos hc2, if_pos hc3, if_pos hc4, if_pos hc5, if_pos hc6, if_pos hc7, if_pos hc8, if_pos hc9, if_neg hc10], N0, e0⟩
                  · refine g_icF X0 hx 24 (hb hby d10_21) (feq hc9).1 rfl ?_
                    refine g_iconst X0 hx 25 (0 : Int32) (hb hby d10_24) (by decide) rfl ?_
                    exact g_retZ X0 hx hret hlk rfl (hb hby d10_25) (by decide) (by decide) ⟨by unfold own_isw; rw [if_pos hc1, if_pos hc2, if_pos hc3, if_pos hc4, if_pos hc5, if_pos hc6, if_pos hc7, if_pos hc8, if_neg hc9], N0, e0⟩
                · refine g_icF X0 hx 24 (hb hby d10_21) (feq hc8).1 rfl ?_
                  refine g_iconst X0 hx 25 (0 : Int32) (hb hby d10_24) (by decide) rfl ?_
                  exact g_retZ X0 hx hret hlk rfl (hb hby d10_25) (by decide) (by decide) ⟨by unfold own_isw; rw [if_pos hc1, if_pos hc2, if_pos hc3, if_pos hc4, if_pos hc5, if_pos hc6, if_pos hc7, if_neg hc8], N0, e0⟩
              · refine g_icF X0 hx 24 (hb hby d10_21) (feq hc7).1 rfl ?_
                refine g_iconst X0 hx 25 (0 : Int32) (hb hby d10_24) (by decide) rfl ?_
                exact g_retZ X0 hx hret hlk rfl (hb hby d10_25) (by decide) (by decide) ⟨by unfold own_isw; rw [if_pos hc1, if_pos hc2, if_pos hc3, if_pos hc4, if_pos hc5, if_pos hc6, if_neg hc7], N0, e0⟩
            · refine g_icF X0 hx 24 (hb hby d10_21) (feq hc6).1 rfl ?_
              refine g_iconst X0 hx 25 (0 : Int32) (hb hby d10_24) (by decide) rfl ?_
              exact g_retZ X0 hx hret hlk rfl (hb hby d10_25) (by decide) (by decide) ⟨by unfold own_isw; rw [if_pos hc1, if_pos hc2, if_pos hc3, if_pos hc4, if_pos hc5, if_neg hc6], N0, e0⟩
          · refine g_icF X0 hx 24 (hb hby d10_21) (feq hc5).1 rfl ?_
            refine g_iconst X0 hx 25 (0 : Int32) (hb hby d10_24) (by decide) rfl ?_
            exact g_retZ X0 hx hret hlk rfl (hb hby d10_25) (by decide) (by decide) ⟨by unfold own_isw; rw [if_pos hc1, if_pos hc2, if_pos hc3, if_pos hc4, if_neg hc5], N0, e0⟩
        · refine g_icF X0 hx 24 (hb hby d10_21) (feq hc4).1 rfl ?_
          refine g_iconst X0 hx 25 (0 : Int32) (hb hby d10_24) (by decide) rfl ?_
          exact g_retZ X0 hx hret hlk rfl (hb hby d10_25) (by decide) (by decide) ⟨by unfold own_isw; rw [if_pos hc1, if_pos hc2, if_pos hc3, if_neg hc4], N0, e0⟩
      · refine g_icF X0 hx 24 (hb hby d10_21) (feq hc3).1 rfl ?_
        refine g_iconst X0 hx 25 (0 : Int32) (hb hby d10_24) (by decide) rfl ?_
        exact g_retZ X0 hx hret hlk rfl (hb hby d10_25) (by decide) (by decide) ⟨by unfold own_isw; rw [if_pos hc1, if_pos hc2, if_neg hc3], N0, e0⟩
    · refine g_icF X0 hx 24 (hb hby d10_21) (feq hc2).1 rfl ?_
      refine g_iconst X0 hx 25 (0 : Int32) (hb hby d10_24) (by decide) rfl ?_
      exact g_retZ X0 hx hret hlk rfl (hb hby d10_25) (by decide) (by decide) ⟨by unfold own_isw; rw [if_pos hc1, if_neg hc2], N0, e0⟩
  · refine g_icF X0 hx 24 (hb hby d10_21) (feq hc1).1 rfl ?_
    refine g_iconst X0 hx 25 (0 : Int32) (hb hby d10_24) (by decide) rfl ?_
    exact g_retZ X0 hx hret hlk rfl (hb hby d10_25) (by decide) (by decide) ⟨by unfold own_isw; rw [if_neg hc1], N0, e0⟩
theorem d10_34 : decode jdk_43_method_13_code 34 = .ok (.iconst 0, 1) := by decide +kernel
theorem d10_35 : decode jdk_43_method_13_code 35 = .ok (.ireturn, 1) := by decide +kernel
set_option maxRecDepth 65536 in
set_option maxHeartbeats 40000000 in
theorem rleqN (l : Launch) (Z : State) (a0 : Array Value) (hw : ∀ d ∈ tables_1, d.before a0 Z = true) (t b : Addr) (n : Int32) (kT kB : ClassId) (vs ws : List Value) (h0 : Heap) (n0 : Nat) (Z0 : n0 ≤ h0.size) (V_t : Arv Z h0 t kT .byte n vs (.int (0 : Int32))) (V_b : Arv Z h0 b kB .byte (11 : Int32) ws (.int (0 : Int32))) (hn : ¬ n = 11) :
    OwnMet l Z (⟨"java/lang/StringLatin1", "equals", "([B[B)Z"⟩ : MethodName) jdk_43_method_13_code 3 (some .boolean) [] ({ frames := 0, cells := 0, slots := 0, locals := 0 } : Room) [(.ref t), (.ref b)] h0 (fun v h L => v = some (.int 0) ∧ Fr n0 L ∧ h = h0) := by
  refine own_body (Ls := #[.val (.ref t), .val (.ref b), .unset]) (plainFor_of_name own_pn3) (fun m => by first | (simp [entryFrame, mkF, argsToLocals, Value.category]; done) | rfl) (fun p e s m below meth cO T0 hx hby hml hown hnm hret hlk hZ X0 e0 => ?_)
  have hown : s.vm.findClass "java/lang/StringLatin1" = some m.cls := hown
  have N0 := Fr.nil n0
  refine g_aloadN X0 hx 1 (hb hby d10_0) rfl rfl rfl ?_
  refine g_arraylength X0 hx 2 hZ e0 V_t (hb hby d10_1) rfl ?_
  refine g_aloadN X0 hx 3 (hb hby d10_2) rfl rfl rfl ?_
  refine g_arraylength X0 hx 4 hZ e0 V_b (hb hby d10_3) rfl ?_
  have hk1 : ¬ (n = (11 : Int32)) := hn
  refine g_icT X0 hx 34 (hb hby d10_4) (feq hk1).2 (by decide) (by decide) ?_
  refine g_iconst X0 hx 35 (0 : Int32) (hb hby d10_34) (by decide) rfl ?_
  exact g_retZ X0 hx hret hlk rfl (hb hby d10_35) (by decide) (by decide) ⟨rfl, N0, e0⟩
theorem d9_0 : decode jdk_42_method_66_code 0 = .ok (.aload_n 0, 1) := by decide +kernel
theorem d9_1 : decode jdk_42_method_66_code 1 = .ok (.aload_n 1, 1) := by decide +kernel
theorem d9_2 : decode jdk_42_method_66_code 2 = .ok (.if_acmp .ne 5, 3) := by decide +kernel
theorem d9_7 : decode jdk_42_method_66_code 7 = .ok (.aload_n 1, 1) := by decide +kernel
theorem d9_8 : decode jdk_42_method_66_code 8 = .ok (.instanceof 10, 3) := by decide +kernel
theorem d9_11 : decode jdk_42_method_66_code 11 = .ok (.ifCond .eq 43, 3) := by decide +kernel
theorem d9_14 : decode jdk_42_method_66_code 14 = .ok (.aload_n 1, 1) := by decide +kernel
theorem d9_15 : decode jdk_42_method_66_code 15 = .ok (.checkcast 10, 3) := by decide +kernel
theorem d9_18 : decode jdk_42_method_66_code 18 = .ok (.astore_n 2, 1) := by decide +kernel
theorem d9_19 : decode jdk_42_method_66_code 19 = .ok (.getstatic 38, 3) := by decide +kernel
theorem d9_22 : decode jdk_42_method_66_code 22 = .ok (.ifCond .eq 14, 3) := by decide +kernel
theorem d9_25 : decode jdk_42_method_66_code 25 = .ok (.aload_n 0, 1) := by decide +kernel
theorem d9_26 : decode jdk_42_method_66_code 26 = .ok (.getfield 15, 3) := by decide +kernel
theorem d9_29 : decode jdk_42_method_66_code 29 = .ok (.aload_n 2, 1) := by decide +kernel
theorem d9_30 : decode jdk_42_method_66_code 30 = .ok (.getfield 15, 3) := by decide +kernel
theorem d9_33 : decode jdk_42_method_66_code 33 = .ok (.if_icmp .ne 21, 3) := by decide +kernel
theorem d9_54 : decode jdk_42_method_66_code 54 = .ok (.iconst 0, 1) := by decide +kernel
theorem d9_55 : decode jdk_42_method_66_code 55 = .ok (.ireturn, 1) := by decide +kernel
set_option maxRecDepth 65536 in
set_option maxHeartbeats 40000000 in
theorem reqU (l : Launch) (Z : State) (a0 : Array Value) (hw : ∀ d ∈ tables_1, d.before a0 Z = true) (a k : Addr) (cs : Int32) (h0 : Heap) (n0 : Nat) (Z0 : n0 ≤ h0.size) (S_cs : Sta Z h0 "java/lang/String" "COMPACT_STRINGS" "Z" (.int cs)) (hcs : ¬ cs = 0) (E_k : Exa Z h0 k "java/lang/String") (C_a : Fld Z h0 a "java/lang/String" "coder" "B" (.int 1)) (C_k : Fld Z h0 k "java/lang/String" "coder" "B" (.int 0)) (nak : a ≠ k) :
    OwnMet l Z (⟨"java/lang/String", "equals", "(Ljava/lang/Object;)Z"⟩ : MethodName) jdk_42_method_66_code 3 (some .boolean) [] ({ frames := 1, cells := 0, slots := 0, locals := 26 } : Room) [(.ref a), (.ref k)] h0 (fun v h L => v = some (.int 0) ∧ Fr n0 L ∧ h = h0) := by
  refine own_body (Ls := #[.val (.ref a), .val (.ref k), .unset]) (plainFor_of_name own_pn1) (fun m => by first | (simp [entryFrame, mkF, argsToLocals, Value.category]; done) | rfl) (fun p e s m below meth cO T0 hx hby hml hown hnm hret hlk hZ X0 e0 => ?_)
  have hown : s.vm.findClass "java/lang/String" = some m.cls := hown
  have N0 := Fr.nil n0
  refine g_aloadN X0 hx 1 (hb hby d9_0) rfl rfl rfl ?_
  refine g_aloadN X0 hx 2 (hb hby d9_1) rfl rfl rfl ?_
  refine g_ac X0 hx 7 false (hb hby d9_2) rfl rfl (decide_eq_false fun q => nak (Value.ref.inj q)) (by decide) (by decide) ?_
  refine g_aloadN X0 hx 8 (hb hby d9_7) rfl rfl rfl ?_
  refine g_inst X0 hx 11 hZ hown (own_w hw 46 rfl) e0 (Ins.self E_k) (hb hby d9_8) rfl (fun T1 X1 e1 => ?_)
  refine g_ifF X1 hx 14 (hb hby d9_11) (by decide) rfl ?_
  refine g_aloadN X1 hx 15 (hb hby d9_14) rfl rfl rfl ?_
  refine g_cast X1 hx 18 hZ hown (own_w hw 46 rfl) e1 (Ins.self E_k) (hb hby d9_15) rfl (fun T2 X2 e2 => ?_)
  refine g_astoreN X2 hx 19 #[.val (.ref a), .val (.ref k), .val (.ref k)] (hb hby d9_18) rfl rfl rfl ?_
  refine g_getS X2 hx 22 hZ hown (host := "") (Or.inl (own_w hw 18 rfl)) Via.refl e2 S_cs (hb hby d9_19) rfl (fun T3 X3 e3 => ?_)
  have hk4 : ¬ (cs = (0 : Int32)) := hcs
  refine g_ifF X3 hx 25 (hb hby d9_22) ((if0 _ _).trans (feq hk4).1) rfl ?_
  refine g_aloadN X3 hx 26 (hb hby d9_25) rfl rfl rfl ?_
  refine g_getF X3 hx 29 hZ hown (host := "") (Or.inl (own_w hw 30 rfl)) Via.refl e3 C_a (hb hby d9_26) rfl (fun T5 X5 e5 => ?_)
  refine g_aloadN X5 hx 30 (hb hby d9_29) rfl rfl rfl ?_
  refine g_getF X5 hx 33 hZ hown (host := "") (Or.inl (own_w hw 30 rfl)) Via.refl e5 C_k (hb hby d9_30) rfl (fun T6 X6 e6 => ?_)
  refine g_icT X6 hx 54 (hb hby d9_33) (by decide) (by decide) (by decide) ?_
  refine g_iconst X6 hx 55 (0 : Int32) (hb hby d9_54) (by decide) rfl ?_
  exact g_retZ X6 hx hret hlk rfl (hb hby d9_55) (by decide) (by decide) ⟨rfl, N0, e6⟩
theorem d9_36 : decode jdk_42_method_66_code 36 = .ok (.aload_n 0, 1) := by decide +kernel
theorem d9_37 : decode jdk_42_method_66_code 37 = .ok (.getfield 9, 3) := by decide +kernel
theorem d9_40 : decode jdk_42_method_66_code 40 = .ok (.aload_n 2, 1) := by decide +kernel
theorem d9_41 : decode jdk_42_method_66_code 41 = .ok (.getfield 9, 3) := by decide +kernel
theorem d9_44 : decode jdk_42_method_66_code 44 = .ok (.invokestatic 541, 3) := by decide +kernel
theorem own_pd4 : parseMethodDescriptor "([B[B)Z" = some ⟨[(.array .byte), (.array .byte)], some .boolean⟩ := by decide +kernel
theorem d9_47 : decode jdk_42_method_66_code 47 = .ok (.ifCond .eq 7, 3) := by decide +kernel
set_option maxRecDepth 65536 in
set_option maxHeartbeats 40000000 in
theorem reqN (l : Launch) (Z : State) (a0 : Array Value) (hw : ∀ d ∈ tables_1, d.before a0 Z = true) (a k : Addr) (cs : Int32) (t b : Addr) (n : Int32) (kT kB : ClassId) (vs ws : List Value) (h0 : Heap) (n0 : Nat) (Z0 : n0 ≤ h0.size) (S_cs : Sta Z h0 "java/lang/String" "COMPACT_STRINGS" "Z" (.int cs)) (hcs : ¬ cs = 0) (E_k : Exa Z h0 k "java/lang/String") (C_a : Fld Z h0 a "java/lang/String" "coder" "B" (.int 0)) (C_k : Fld Z h0 k "java/lang/String" "coder" "B" (.int 0)) (G_a : Fld Z h0 a "java/lang/String" "value" "[B" (.ref t)) (G_k : Fld Z h0 k "java/lang/String" "value" "[B" (.ref b)) (V_t : Arv Z h0 t kT .byte n vs (.int (0 : Int32))) (V_b : Arv Z h0 b kB .byte (11 : Int32) ws (.int (0 : Int32))) (hn : ¬ n = 11) (nak : a ≠ k) :
    OwnMet l Z (⟨"java/lang/String", "equals", "(Ljava/lang/Object;)Z"⟩ : MethodName) jdk_42_method_66_code 3 (some .boolean) [] ({ frames := 1, cells := 0, slots := 0, locals := 26 } : Room) [(.ref a), (.ref k)] h0 (fun v h L => v = some (.int 0) ∧ Fr n0 L ∧ h = h0) := by
  refine own_body (Ls := #[.val (.ref a), .val (.ref k), .unset]) (plainFor_of_name own_pn1) (fun m => by first | (simp [entryFrame, mkF, argsToLocals, Value.category]; done) | rfl) (fun p e s m below meth cO T0 hx hby hml hown hnm hret hlk hZ X0 e0 => ?_)
  have hown : s.vm.findClass "java/lang/String" = some m.cls := hown
  have N0 := Fr.nil n0
  refine g_aloadN X0 hx 1 (hb hby d9_0) rfl rfl rfl ?_
  refine g_aloadN X0 hx 2 (hb hby d9_1) rfl rfl rfl ?_
  refine g_ac X0 hx 7 false (hb hby d9_2) rfl rfl (decide_eq_false fun q => nak (Value.ref.inj q)) (by decide) (by decide) ?_
  refine g_aloadN X0 hx 8 (hb hby d9_7) rfl rfl rfl ?_
  refine g_inst X0 hx 11 hZ hown (own_w hw 46 rfl) e0 (Ins.self E_k) (hb hby d9_8) rfl (fun T1 X1 e1 => ?_)
  refine g_ifF X1 hx 14 (hb hby d9_11) (by decide) rfl ?_
  refine g_aloadN X1 hx 15 (hb hby d9_14) rfl rfl rfl ?_
  refine g_cast X1 hx 18 hZ hown (own_w hw 46 rfl) e1 (Ins.self E_k) (hb hby d9_15) rfl (fun T2 X2 e2 => ?_)
  refine g_astoreN X2 hx 19 #[.val (.ref a), .val (.ref k), .val (.ref k)] (hb hby d9_18) rfl rfl rfl ?_
  refine g_getS X2 hx 22 hZ hown (host := "") (Or.inl (own_w hw 18 rfl)) Via.refl e2 S_cs (hb hby d9_19) rfl (fun T3 X3 e3 => ?_)
  have hk4 : ¬ (cs = (0 : Int32)) := hcs
  refine g_ifF X3 hx 25 (hb hby d9_22) ((if0 _ _).trans (feq hk4).1) rfl ?_
  refine g_aloadN X3 hx 26 (hb hby d9_25) rfl rfl rfl ?_
  refine g_getF X3 hx 29 hZ hown (host := "") (Or.inl (own_w hw 30 rfl)) Via.refl e3 C_a (hb hby d9_26) rfl (fun T5 X5 e5 => ?_)
  refine g_aloadN X5 hx 30 (hb hby d9_29) rfl rfl rfl ?_
  refine g_getF X5 hx 33 hZ hown (host := "") (Or.inl (own_w hw 30 rfl)) Via.refl e5 C_k (hb hby d9_30) rfl (fun T6 X6 e6 => ?_)
  refine g_icF X6 hx 36 (hb hby d9_33) (by decide) rfl ?_
  refine g_aloadN X6 hx 37 (hb hby d9_36) rfl rfl rfl ?_
  refine g_getF X6 hx 40 hZ hown (host := "") (Or.inl (own_w hw 32 rfl)) Via.refl e6 G_a (hb hby d9_37) rfl (fun T7 X7 e7 => ?_)
  refine g_aloadN X7 hx 41 (hb hby d9_40) rfl rfl rfl ?_
  refine g_getF X7 hx 44 hZ hown (host := "") (Or.inl (own_w hw 32 rfl)) Via.refl e7 G_k (hb hby d9_41) rfl (fun T8 X8 e8 => ?_)
  refine g_callS X8 hx 47 hZ hown (own_w hw 47 rfl) (own_w hw 48 rfl) (own_w hw 49 rfl) (own_w hw 50 rfl) (by decide) [(.ref t), (.ref b)] [] (rleqN l Z a0 hw t b n kT kB vs ws h0 n0 Z0 V_t V_b hn) e8 0 (by decide) (by decide) (by decide) (by decide) (by rw [hml]; rfl) (lenOf own_pd4 rfl) (hb hby d9_44) rfl (Nat.le_of_eq rfl) rfl (fun v9 T9 L9 X9 hQ9 => ?_)
  obtain ⟨rfl, N9q, e9⟩ := hQ9
  have N9 := Fr.app N0 N9q
  refine g_ifT X9 hx 54 (hb hby d9_47) (by decide) (by decide) (by decide) ?_
  refine g_iconst X9 hx 55 (0 : Int32) (hb hby d9_54) (by decide) rfl ?_
  exact g_retZ X9 hx hret hlk rfl (hb hby d9_55) (by decide) (by decide) ⟨rfl, N9, e9⟩
theorem d9_5 : decode jdk_42_method_66_code 5 = .ok (.iconst 1, 1) := by decide +kernel
theorem d9_6 : decode jdk_42_method_66_code 6 = .ok (.ireturn, 1) := by decide +kernel
theorem d9_50 : decode jdk_42_method_66_code 50 = .ok (.iconst 1, 1) := by decide +kernel
theorem d9_51 : decode jdk_42_method_66_code 51 = .ok (.goto 4, 3) := by decide +kernel
set_option maxRecDepth 65536 in
set_option maxHeartbeats 40000000 in
theorem reqE (l : Launch) (Z : State) (a0 : Array Value) (hw : ∀ d ∈ tables_1, d.before a0 Z = true) (a k : Addr) (cs : Int32) (t b : Addr) (v0 v1 v2 v3 v4 v5 v6 v7 v8 v9 v10 : Int32) (kT kB : ClassId) (h0 : Heap) (n0 : Nat) (Z0 : n0 ≤ h0.size) (S_cs : Sta Z h0 "java/lang/String" "COMPACT_STRINGS" "Z" (.int cs)) (hcs : ¬ cs = 0) (E_k : Exa Z h0 k "java/lang/String") (C_a : Fld Z h0 a "java/lang/String" "coder" "B" (.int 0)) (C_k : Fld Z h0 k "java/lang/String" "coder" "B" (.int 0)) (G_a : Fld Z h0 a "java/lang/String" "value" "[B" (.ref t)) (G_k : Fld Z h0 k "java/lang/String" "value" "[B" (.ref b)) (V_t : Arv Z h0 t kT .byte (11 : Int32) [(.int v0), (.int v1), (.int v2), (.int v3), (.int v4), (.int v5), (.int v6), (.int v7), (.int v8), (.int v9), (.int v10)] (.int (0 : Int32))) (V_b : Arv Z h0 b kB .byte (11 : Int32) [(.int (105 : Int32)), (.int (115 : Int32)), (.int (69 : Int32)), (.int (120 : Int32)), (.int (104 : Int32)), (.int (97 : Int32)), (.int (117 : Int32)), (.int (115 : Int32)), (.int (116 : Int32)), (.int (101 : Int32)), (.int (100 : Int32))] (.int (0 : Int32))) :
    OwnMet l Z (⟨"java/lang/String", "equals", "(Ljava/lang/Object;)Z"⟩ : MethodName) jdk_42_method_66_code 3 (some .boolean) [] ({ frames := 1, cells := 0, slots := 0, locals := 26 } : Room) [(.ref a), (.ref k)] h0 (fun v h L => v = some (.int (own_isw v0 v1 v2 v3 v4 v5 v6 v7 v8 v9 v10)) ∧ Fr n0 L ∧ h = h0) := by
  refine own_body (Ls := #[.val (.ref a), .val (.ref k), .unset]) (plainFor_of_name own_pn1) (fun m => by first | (simp [entryFrame, mkF, argsToLocals, Value.category]; done) | rfl) (fun p e s m below meth cO T0 hx hby hml hown hnm hret hlk hZ X0 e0 => ?_)
  have hown : s.vm.findClass "java/lang/String" = some m.cls := hown
  have N0 := Fr.nil n0
  refine g_aloadN X0 hx 1 (hb hby d9_0) rfl rfl rfl ?_
  refine g_aloadN X0 hx 2 (hb hby d9_1) rfl rfl rfl ?_
  by_cases hc1 : (Value.ref a) = (Value.ref k)
  · refine g_ac X0 hx 5 true (hb hby d9_2) rfl rfl (decide_eq_true hc1) (by decide) (by decide) ?_
    refine g_iconst X0 hx 6 (1 : Int32) (hb hby d9_5) (by decide) rfl ?_
    cases hc1
    have qv := Value.ref.inj (own_fld_u G_a G_k)
    cases qv
    have qs := (own_same V_t V_b).2
    have q0 : v0 = (105 : Int32) := Value.int.inj (qs 0 (by decide))
    have q1 : v1 = (115 : Int32) := Value.int.inj (qs 1 (by decide))
    have q2 : v2 = (69 : Int32) := Value.int.inj (qs 2 (by decide))
    have q3 : v3 = (120 : Int32) := Value.int.inj (qs 3 (by decide))
    have q4 : v4 = (104 : Int32) := Value.int.inj (qs 4 (by decide))
    have q5 : v5 = (97 : Int32) := Value.int.inj (qs 5 (by decide))
    have q6 : v6 = (117 : Int32) := Value.int.inj (qs 6 (by decide))
    have q7 : v7 = (115 : Int32) := Value.int.inj (qs 7 (by decide))
    have q8 : v8 = (116 : Int32) := Value.int.inj (qs 8 (by decide))
    have q9 : v9 = (101 : Int32) := Value.int.inj (qs 9 (by decide))
    have q10 : v10 = (100 : Int32) := Value.int.inj (qs 10 (by decide))
    exact g_retZ X0 hx hret hlk rfl (hb hby d9_6) (by decide) (by decide) ⟨by unfold own_isw; rw [if_pos q0, if_pos q1, if_pos q2, if_pos q3, if_pos q4, if_pos q5, if_pos q6, if_pos q7, if_pos q8, if_pos q9, if_pos q10], N0, e0⟩
  · refine g_ac X0 hx 7 false (hb hby d9_2) rfl rfl (decide_eq_false hc1) (by decide) (by decide) ?_
    refine g_aloadN X0 hx 8 (hb hby d9_7) rfl rfl rfl ?_
    refine g_inst X0 hx 11 hZ hown (own_w hw 46 rfl) e0 (Ins.self E_k) (hb hby d9_8) rfl (fun T2 X2 e2 => ?_)
    refine g_ifF X2 hx 14 (hb hby d9_11) (by decide) rfl ?_
    refine g_aloadN X2 hx 15 (hb hby d9_14) rfl rfl rfl ?_
    refine g_cast X2 hx 18 hZ hown (own_w hw 46 rfl) e2 (Ins.self E_k) (hb hby d9_15) rfl (fun T3 X3 e3 => ?_)
    refine g_astoreN X3 hx 19 #[.val (.ref a), .val (.ref k), .val (.ref k)] (hb hby d9_18) rfl rfl rfl ?_
    refine g_getS X3 hx 22 hZ hown (host := "") (Or.inl (own_w hw 18 rfl)) Via.refl e3 S_cs (hb hby d9_19) rfl (fun T4 X4 e4 => ?_)
    have hk5 : ¬ (cs = (0 : Int32)) := hcs
    refine g_ifF X4 hx 25 (hb hby d9_22) ((if0 _ _).trans (feq hk5).1) rfl ?_
    refine g_aloadN X4 hx 26 (hb hby d9_25) rfl rfl rfl ?_
    refine g_getF X4 hx 29 hZ hown (host := "") (Or.inl (own_w hw 30 rfl)) Via.refl e4 C_a (hb hby d9_26) rfl (fun T6 X6 e6 => ?_)
    refine g_aloadN X6 hx 30 (hb hby d9_29) rfl rfl rfl ?_
    refine g_getF X6 hx 33 hZ hown (host := "") (Or.inl (own_w hw 30 rfl)) Via.refl e6 C_k (hb hby d9_30) rfl (fun T7 X7 e7 => ?_)
    refine g_icF X7 hx 36 (hb hby d9_33) (by decide) rfl ?_
    refine g_aloadN X7 hx 37 (hb hby d9_36) rfl rfl rfl ?_
    refine g_getF X7 hx 40 hZ hown (host := "") (Or.inl (own_w hw 32 rfl)) Via.refl e7 G_a (hb hby d9_37) rfl (fun T8 X8 e8 => ?_)
    refine g_aloadN X8 hx 41 (hb hby d9_40) rfl rfl rfl ?_
    refine g_getF X8 hx 44 hZ hown (host := "") (Or.inl (own_w hw 32 rfl)) Via.refl e8 G_k (hb hby d9_41) rfl (fun T9 X9 e9 => ?_)
    refine g_callS X9 hx 47 hZ hown (own_w hw 47 rfl) (own_w hw 48 rfl) (own_w hw 49 rfl) (own_w hw 50 rfl) (by decide) [(.ref t), (.ref b)] [] (rleq l Z a0 hw t b v0 v1 v2 v3 v4 v5 v6 v7 v8 v9 v10 kT kB h0 n0 Z0 V_t V_b) e9 0 (by decide) (by decide) (by decide) (by decide) (by rw [hml]; rfl) (lenOf own_pd4 rfl) (hb hby d9_44) rfl (Nat.le_of_eq rfl) rfl (fun v10 T10 L10 X10 hQ10 => ?_)
    obtain ⟨rfl, N10q, e10⟩ := hQ10
    have N10 := Fr.app N0 N10q
    by_cases hc11 : (own_isw v0 v1 v2 v3 v4 v5 v6 v7 v8 v9 v10) = (0 : Int32)
    · refine g_ifT X10 hx 54 (hb hby d9_47) ((if0 _ _).trans (teq hc11).1) (by decide) (by decide) ?_
      refine g_iconst X10 hx 55 (0 : Int32) (hb hby d9_54) (by decide) rfl ?_
      exact g_retZ X10 hx hret hlk rfl (hb hby d9_55) (by decide) (by decide) ⟨by rw [hc11], N10, e10⟩
    · refine g_ifF X10 hx 50 (hb hby d9_47) ((if0 _ _).trans (feq hc11).1) rfl ?_
      refine g_iconst X10 hx 51 (1 : Int32) (hb hby d9_50) (by decide) rfl ?_
      refine g_goto X10 hx 55 (hb hby d9_51) (by decide) (by decide) ?_
      exact g_retZ X10 hx hret hlk rfl (hb hby d9_55) (by decide) (by decide) ⟨by rw [own_isw_nz hc11], N10, e10⟩
theorem own_pn4 : plainName "com/example/kohortd/kohortd/member/Member" = true := by first | (simp [plainName, overriddenIn]; done) | decide +kernel
theorem d8_0 : decode prog_45_method_6_code 0 = .ok (.aload_n 0, 1) := by decide +kernel
theorem d8_1 : decode prog_45_method_6_code 1 = .ok (.ldc 168, 2) := by decide +kernel
theorem d8_3 : decode prog_45_method_6_code 3 = .ok (.invokevirtual 170, 3) := by decide +kernel
theorem own_pd5 : parseMethodDescriptor "(Ljava/lang/Object;)Z" = some ⟨[(.object "java/lang/Object")], some .boolean⟩ := by decide +kernel
theorem d8_6 : decode prog_45_method_6_code 6 = .ok (.ifCond .eq 9, 3) := by decide +kernel
theorem d8_15 : decode prog_45_method_6_code 15 = .ok (.aconst_null, 1) := by decide +kernel
theorem d8_16 : decode prog_45_method_6_code 16 = .ok (.areturn, 1) := by decide +kernel
set_option maxRecDepth 65536 in
set_option maxHeartbeats 40000000 in
theorem ruvU (l : Launch) (Z : State) (a0 : Array Value) (hw : ∀ d ∈ tables_1, d.before a0 Z = true) (a f : Addr) (cs : Int32) (h0 : Heap) (n0 : Nat) (Z0 : n0 ≤ h0.size) (S_cs : Sta Z h0 "java/lang/String" "COMPACT_STRINGS" "Z" (.int cs)) (hcs : ¬ cs = 0) (S_f : Sta Z h0 "java/lang/Boolean" "FALSE" "Ljava/lang/Boolean;" (.ref f)) (hkp : ∀ (b : Addr) (cl : Cell), Z.heap[b]? = some cl → h0[b]? = some cl) (hld : Jvm.Lit.constHeld Z "com/example/kohortd/kohortd/member/Member" 168) (hcw : Jvm.Lit.compactW.before a0 Z = true) (E_a : Exa Z h0 a "java/lang/String") (C_a : Fld Z h0 a "java/lang/String" "coder" "B" (.int 1))  :
    OwnMetI l Z (⟨"com/example/kohortd/kohortd/member/Member", "unsetValue", "(Ljava/lang/String;)Ljava/lang/Object;"⟩ : MethodName) prog_45_method_6_code 1 (some (.object "java/lang/Object")) [] ({ frames := 2, cells := 2, slots := 48, locals := 60 } : Room) [(.ref a)] h0 (fun v h L => v = some .null ∧ Fr n0 L ∧ Keep h0 h []) := by
  refine own_bodyI (Ls := #[.val (.ref a)]) (plainFor_of_name own_pn4) (fun m => by first | (simp [entryFrame, mkF, argsToLocals, Value.category]; done) | rfl) (fun p e s m below meth cO T0 hx hby hml hown hnm hret hlk hZ X0 e0 hh hI => ?_)
  have hown : s.vm.findClass "com/example/kohortd/kohortd/member/Member" = some m.cls := hown
  have N0 := Fr.nil n0
  have X0 : Stand p l e ({ frames := 2, cells := 2, slots := 48, locals := 60 } : Room) (s.setVm s.vm) m ([(.ref a)] : List Value).toArray below meth cO T0 [] 0 0 := X0
  have hZ : Z.Warmed39 (s.setVm s.vm).vm := hZ
  have hown : (s.setVm s.vm).vm.findClass "com/example/kohortd/kohortd/member/Member" = some m.cls := hown
  have hS : s.Since s.vm 0 := (State.WarmedH.refl s).since 0
  have hk : 0 ≤ h0.size := Nat.zero_le _
  have hI : (s.setVm s.vm).vm.interned = Z.vm.interned := hI
  have K0 := Keep.refl h0 []
  refine g_aloadN X0 hx 1 (hb hby d8_0) rfl rfl rfl ?_
  refine g_ldcV X0 hx 3 hZ hown (own_w hw 38 rfl) (own_strOf hw) e0 hS hk (Fr.nil _) (fun b cl q => by rw [hh]; exact hkp b cl q) hI hld hcw [(.int (105 : Int32)), (.int (115 : Int32)), (.int (69 : Int32)), (.int (120 : Int32)), (.int (104 : Int32)), (.int (97 : Int32)), (.int (117 : Int32)), (.int (115 : Int32)), (.int (116 : Int32)), (.int (101 : Int32)), (.int (100 : Int32))] (11 : Int32) ⟨by decide, by decide⟩ (by decide) (by decide) (hb hby d8_1) 44 (by decide) (by decide) (by decide) (by decide) rfl (fun k T1 h1 k1 b kB X1 e1 E1 hS hk hZ hown E_k C_k G_k V_b => ?_)
  have E_a := E_a.ext E1
  have C_a := C_a.ext E1
  have Z1 : n0 ≤ h1.size := Nat.le_trans Z0 E1.1
  have K1 := K0.ext E1
  refine g_callV X1 hx 6 hZ hown (own_w hw 41 rfl) (own_w hw 42 rfl) (own_w hw 44 rfl) (own_w hw 43 rfl) (own_w hw 7 rfl) (own_w hw 45 rfl) (by decide) a E_a [(.ref k)] [] (reqU l Z a0 hw a k cs h1 n0 Z1 (own_sta_keep S_cs K1) hcs E_k C_a C_k (Fld.ne C_a C_k (by decide))) e1 0 (by decide) (by decide) (by decide) (by decide) (by rw [hml]; rfl) (lenOf own_pd5 rfl) (hb hby d8_3) rfl (Nat.le_of_eq rfl) rfl (fun v6 T6 L6 X6 hQ6 => ?_)
  obtain ⟨rfl, N6q, e6⟩ := hQ6
  have N6 := Fr.app N0 N6q
  refine g_ifT X6 hx 15 (hb hby d8_6) (by decide) (by decide) (by decide) ?_
  refine g_aconst_null X6 hx 16 (hb hby d8_15) rfl ?_
  exact g_retAW X6 hx hret hlk rfl rfl rfl (hb hby d8_16) hS (Eq.subst (motive := fun z : Heap => _ ≤ z.size) (Eq.symm e6) hk) (by decide) (by decide) (by rw [e6]; exact ⟨rfl, N6, K1⟩)
set_option maxRecDepth 65536 in
set_option maxHeartbeats 40000000 in
theorem ruvN (l : Launch) (Z : State) (a0 : Array Value) (hw : ∀ d ∈ tables_1, d.before a0 Z = true) (a f : Addr) (cs : Int32) (t : Addr) (n : Int32) (kT : ClassId) (vs : List Value) (h0 : Heap) (n0 : Nat) (Z0 : n0 ≤ h0.size) (S_cs : Sta Z h0 "java/lang/String" "COMPACT_STRINGS" "Z" (.int cs)) (hcs : ¬ cs = 0) (S_f : Sta Z h0 "java/lang/Boolean" "FALSE" "Ljava/lang/Boolean;" (.ref f)) (hkp : ∀ (b : Addr) (cl : Cell), Z.heap[b]? = some cl → h0[b]? = some cl) (hld : Jvm.Lit.constHeld Z "com/example/kohortd/kohortd/member/Member" 168) (hcw : Jvm.Lit.compactW.before a0 Z = true) (E_a : Exa Z h0 a "java/lang/String") (C_a : Fld Z h0 a "java/lang/String" "coder" "B" (.int 0)) (G_a : Fld Z h0 a "java/lang/String" "value" "[B" (.ref t)) (V_t : Arv Z h0 t kT .byte n vs (.int (0 : Int32))) (hn : ¬ n.toNatClampNeg = 11) :
    OwnMetI l Z (⟨"com/example/kohortd/kohortd/member/Member", "unsetValue", "(Ljava/lang/String;)Ljava/lang/Object;"⟩ : MethodName) prog_45_method_6_code 1 (some (.object "java/lang/Object")) [] ({ frames := 2, cells := 2, slots := 48, locals := 60 } : Room) [(.ref a)] h0 (fun v h L => v = some .null ∧ Fr n0 L ∧ Keep h0 h []) := by
  refine own_bodyI (Ls := #[.val (.ref a)]) (plainFor_of_name own_pn4) (fun m => by first | (simp [entryFrame, mkF, argsToLocals, Value.category]; done) | rfl) (fun p e s m below meth cO T0 hx hby hml hown hnm hret hlk hZ X0 e0 hh hI => ?_)
  have hown : s.vm.findClass "com/example/kohortd/kohortd/member/Member" = some m.cls := hown
  have N0 := Fr.nil n0
  have X0 : Stand p l e ({ frames := 2, cells := 2, slots := 48, locals := 60 } : Room) (s.setVm s.vm) m ([(.ref a)] : List Value).toArray below meth cO T0 [] 0 0 := X0
  have hZ : Z.Warmed39 (s.setVm s.vm).vm := hZ
  have hown : (s.setVm s.vm).vm.findClass "com/example/kohortd/kohortd/member/Member" = some m.cls := hown
  have hS : s.Since s.vm 0 := (State.WarmedH.refl s).since 0
  have hk : 0 ≤ h0.size := Nat.zero_le _
  have hI : (s.setVm s.vm).vm.interned = Z.vm.interned := hI
  have K0 := Keep.refl h0 []
  refine g_aloadN X0 hx 1 (hb hby d8_0) rfl rfl rfl ?_
  refine g_ldcV X0 hx 3 hZ hown (own_w hw 38 rfl) (own_strOf hw) e0 hS hk (Fr.nil _) (fun b cl q => by rw [hh]; exact hkp b cl q) hI hld hcw [(.int (105 : Int32)), (.int (115 : Int32)), (.int (69 : Int32)), (.int (120 : Int32)), (.int (104 : Int32)), (.int (97 : Int32)), (.int (117 : Int32)), (.int (115 : Int32)), (.int (116 : Int32)), (.int (101 : Int32)), (.int (100 : Int32))] (11 : Int32) ⟨by decide, by decide⟩ (by decide) (by decide) (hb hby d8_1) 44 (by decide) (by decide) (by decide) (by decide) rfl (fun k T1 h1 k1 b kB X1 e1 E1 hS hk hZ hown E_k C_k G_k V_b => ?_)
  have E_a := E_a.ext E1
  have C_a := C_a.ext E1
  have G_a := G_a.ext E1
  have V_t := V_t.ext E1
  have Z1 : n0 ≤ h1.size := Nat.le_trans Z0 E1.1
  have K1 := K0.ext E1
  refine g_callV X1 hx 6 hZ hown (own_w hw 41 rfl) (own_w hw 42 rfl) (own_w hw 44 rfl) (own_w hw 43 rfl) (own_w hw 7 rfl) (own_w hw 45 rfl) (by decide) a E_a [(.ref k)] [] (reqN l Z a0 hw a k cs t b n kT kB vs _ h1 n0 Z1 (own_sta_keep S_cs K1) hcs E_k C_a C_k G_a G_k V_t V_b (fun q => hn (by rw [q]; rfl)) (fun q => by cases q; cases Value.ref.inj (own_fld_u G_a G_k); exact hn (own_same V_t V_b).1)) e1 0 (by decide) (by decide) (by decide) (by decide) (by rw [hml]; rfl) (lenOf own_pd5 rfl) (hb hby d8_3) rfl (Nat.le_of_eq rfl) rfl (fun v6 T6 L6 X6 hQ6 => ?_)
  obtain ⟨rfl, N6q, e6⟩ := hQ6
  have N6 := Fr.app N0 N6q
  refine g_ifT X6 hx 15 (hb hby d8_6) (by decide) (by decide) (by decide) ?_
  refine g_aconst_null X6 hx 16 (hb hby d8_15) rfl ?_
  exact g_retAW X6 hx hret hlk rfl rfl rfl (hb hby d8_16) hS (Eq.subst (motive := fun z : Heap => _ ≤ z.size) (Eq.symm e6) hk) (by decide) (by decide) (by rw [e6]; exact ⟨rfl, N6, K1⟩)
set_option maxRecDepth 65536 in
set_option maxHeartbeats 40000000 in
theorem ruvE0 (l : Launch) (Z : State) (a0 : Array Value) (hw : ∀ d ∈ tables_1, d.before a0 Z = true) (a f : Addr) (cs : Int32) (t : Addr) (v0 v1 v2 v3 v4 v5 v6 v7 v8 v9 v10 : Int32) (kT : ClassId) (h0 : Heap) (n0 : Nat) (Z0 : n0 ≤ h0.size) (S_cs : Sta Z h0 "java/lang/String" "COMPACT_STRINGS" "Z" (.int cs)) (hcs : ¬ cs = 0) (S_f : Sta Z h0 "java/lang/Boolean" "FALSE" "Ljava/lang/Boolean;" (.ref f)) (hkp : ∀ (b : Addr) (cl : Cell), Z.heap[b]? = some cl → h0[b]? = some cl) (hld : Jvm.Lit.constHeld Z "com/example/kohortd/kohortd/member/Member" 168) (hcw : Jvm.Lit.compactW.before a0 Z = true) (E_a : Exa Z h0 a "java/lang/String") (C_a : Fld Z h0 a "java/lang/String" "coder" "B" (.int 0)) (G_a : Fld Z h0 a "java/lang/String" "value" "[B" (.ref t)) (V_t : Arv Z h0 t kT .byte (11 : Int32) [(.int v0), (.int v1), (.int v2), (.int v3), (.int v4), (.int v5), (.int v6), (.int v7), (.int v8), (.int v9), (.int v10)] (.int (0 : Int32))) (hr : (own_isw v0 v1 v2 v3 v4 v5 v6 v7 v8 v9 v10) = 0) :
    OwnMetI l Z (⟨"com/example/kohortd/kohortd/member/Member", "unsetValue", "(Ljava/lang/String;)Ljava/lang/Object;"⟩ : MethodName) prog_45_method_6_code 1 (some (.object "java/lang/Object")) [] ({ frames := 2, cells := 2, slots := 48, locals := 60 } : Room) [(.ref a)] h0 (fun v h L => v = some .null ∧ Fr n0 L ∧ Keep h0 h []) := by
  refine own_bodyI (Ls := #[.val (.ref a)]) (plainFor_of_name own_pn4) (fun m => by first | (simp [entryFrame, mkF, argsToLocals, Value.category]; done) | rfl) (fun p e s m below meth cO T0 hx hby hml hown hnm hret hlk hZ X0 e0 hh hI => ?_)
  have hown : s.vm.findClass "com/example/kohortd/kohortd/member/Member" = some m.cls := hown
  have N0 := Fr.nil n0
  have X0 : Stand p l e ({ frames := 2, cells := 2, slots := 48, locals := 60 } : Room) (s.setVm s.vm) m ([(.ref a)] : List Value).toArray below meth cO T0 [] 0 0 := X0
  have hZ : Z.Warmed39 (s.setVm s.vm).vm := hZ
  have hown : (s.setVm s.vm).vm.findClass "com/example/kohortd/kohortd/member/Member" = some m.cls := hown
  have hS : s.Since s.vm 0 := (State.WarmedH.refl s).since 0
  have hk : 0 ≤ h0.size := Nat.zero_le _
  have hI : (s.setVm s.vm).vm.interned = Z.vm.interned := hI
  have K0 := Keep.refl h0 []
  refine g_aloadN X0 hx 1 (hb hby d8_0) rfl rfl rfl ?_
  refine g_ldcV X0 hx 3 hZ hown (own_w hw 38 rfl) (own_strOf hw) e0 hS hk (Fr.nil _) (fun b cl q => by rw [hh]; exact hkp b cl q) hI hld hcw [(.int (105 : Int32)), (.int (115 : Int32)), (.int (69 : Int32)), (.int (120 : Int32)), (.int (104 : Int32)), (.int (97 : Int32)), (.int (117 : Int32)), (.int (115 : Int32)), (.int (116 : Int32)), (.int (101 : Int32)), (.int (100 : Int32))] (11 : Int32) ⟨by decide, by decide⟩ (by decide) (by decide) (hb hby d8_1) 44 (by decide) (by decide) (by decide) (by decide) rfl (fun k T1 h1 k1 b kB X1 e1 E1 hS hk hZ hown E_k C_k G_k V_b => ?_)
  have E_a := E_a.ext E1
  have C_a := C_a.ext E1
  have G_a := G_a.ext E1
  have V_t := V_t.ext E1
  have Z1 : n0 ≤ h1.size := Nat.le_trans Z0 E1.1
  have K1 := K0.ext E1
  refine g_callV X1 hx 6 hZ hown (own_w hw 41 rfl) (own_w hw 42 rfl) (own_w hw 44 rfl) (own_w hw 43 rfl) (own_w hw 7 rfl) (own_w hw 45 rfl) (by decide) a E_a [(.ref k)] [] ((by have q := reqE l Z a0 hw a k cs t b v0 v1 v2 v3 v4 v5 v6 v7 v8 v9 v10 kT kB h1 n0 Z1 (own_sta_keep S_cs K1) hcs E_k C_a C_k G_a G_k V_t V_b; rw [hr] at q; exact q)) e1 0 (by decide) (by decide) (by decide) (by decide) (by rw [hml]; rfl) (lenOf own_pd5 rfl) (hb hby d8_3) rfl (Nat.le_of_eq rfl) rfl (fun v6 T6 L6 X6 hQ6 => ?_)
  obtain ⟨rfl, N6q, e6⟩ := hQ6
  have N6 := Fr.app N0 N6q
  refine g_ifT X6 hx 15 (hb hby d8_6) (by decide) (by decide) (by decide) ?_
  refine g_aconst_null X6 hx 16 (hb hby d8_15) rfl ?_
  exact g_retAW X6 hx hret hlk rfl rfl rfl (hb hby d8_16) hS (Eq.subst (motive := fun z : Heap => _ ≤ z.size) (Eq.symm e6) hk) (by decide) (by decide) (by rw [e6]; exact ⟨rfl, N6, K1⟩)
theorem d8_9 : decode prog_45_method_6_code 9 = .ok (.getstatic 174, 3) := by decide +kernel
theorem d8_12 : decode prog_45_method_6_code 12 = .ok (.goto 4, 3) := by decide +kernel
set_option maxRecDepth 65536 in
set_option maxHeartbeats 40000000 in
theorem ruvE1 (l : Launch) (Z : State) (a0 : Array Value) (hw : ∀ d ∈ tables_1, d.before a0 Z = true) (a f : Addr) (cs : Int32) (t : Addr) (v0 v1 v2 v3 v4 v5 v6 v7 v8 v9 v10 : Int32) (kT : ClassId) (h0 : Heap) (n0 : Nat) (Z0 : n0 ≤ h0.size) (S_cs : Sta Z h0 "java/lang/String" "COMPACT_STRINGS" "Z" (.int cs)) (hcs : ¬ cs = 0) (S_f : Sta Z h0 "java/lang/Boolean" "FALSE" "Ljava/lang/Boolean;" (.ref f)) (hkp : ∀ (b : Addr) (cl : Cell), Z.heap[b]? = some cl → h0[b]? = some cl) (hld : Jvm.Lit.constHeld Z "com/example/kohortd/kohortd/member/Member" 168) (hcw : Jvm.Lit.compactW.before a0 Z = true) (E_a : Exa Z h0 a "java/lang/String") (C_a : Fld Z h0 a "java/lang/String" "coder" "B" (.int 0)) (G_a : Fld Z h0 a "java/lang/String" "value" "[B" (.ref t)) (V_t : Arv Z h0 t kT .byte (11 : Int32) [(.int v0), (.int v1), (.int v2), (.int v3), (.int v4), (.int v5), (.int v6), (.int v7), (.int v8), (.int v9), (.int v10)] (.int (0 : Int32))) (hr : (own_isw v0 v1 v2 v3 v4 v5 v6 v7 v8 v9 v10) = 1) :
    OwnMetI l Z (⟨"com/example/kohortd/kohortd/member/Member", "unsetValue", "(Ljava/lang/String;)Ljava/lang/Object;"⟩ : MethodName) prog_45_method_6_code 1 (some (.object "java/lang/Object")) [] ({ frames := 2, cells := 2, slots := 48, locals := 60 } : Room) [(.ref a)] h0 (fun v h L => v = some (.ref f) ∧ Fr n0 L ∧ Keep h0 h []) := by
  refine own_bodyI (Ls := #[.val (.ref a)]) (plainFor_of_name own_pn4) (fun m => by first | (simp [entryFrame, mkF, argsToLocals, Value.category]; done) | rfl) (fun p e s m below meth cO T0 hx hby hml hown hnm hret hlk hZ X0 e0 hh hI => ?_)
  have hown : s.vm.findClass "com/example/kohortd/kohortd/member/Member" = some m.cls := hown
  have N0 := Fr.nil n0
  have X0 : Stand p l e ({ frames := 2, cells := 2, slots := 48, locals := 60 } : Room) (s.setVm s.vm) m ([(.ref a)] : List Value).toArray below meth cO T0 [] 0 0 := X0
  have hZ : Z.Warmed39 (s.setVm s.vm).vm := hZ
  have hown : (s.setVm s.vm).vm.findClass "com/example/kohortd/kohortd/member/Member" = some m.cls := hown
  have hS : s.Since s.vm 0 := (State.WarmedH.refl s).since 0
  have hk : 0 ≤ h0.size := Nat.zero_le _
  have hI : (s.setVm s.vm).vm.interned = Z.vm.interned := hI
  have K0 := Keep.refl h0 []
  refine g_aloadN X0 hx 1 (hb hby d8_0) rfl rfl rfl ?_
  refine g_ldcV X0 hx 3 hZ hown (own_w hw 38 rfl) (own_strOf hw) e0 hS hk (Fr.nil _) (fun b cl q => by rw [hh]; exact hkp b cl q) hI hld hcw [(.int (105 : Int32)), (.int (115 : Int32)), (.int (69 : Int32)), (.int (120 : Int32)), (.int (104 : Int32)), (.int (97 : Int32)), (.int (117 : Int32)), (.int (115 : Int32)), (.int (116 : Int32)), (.int (101 : Int32)), (.int (100 : Int32))] (11 : Int32) ⟨by decide, by decide⟩ (by decide) (by decide) (hb hby d8_1) 44 (by decide) (by decide) (by decide) (by decide) rfl (fun k T1 h1 k1 b kB X1 e1 E1 hS hk hZ hown E_k C_k G_k V_b => ?_)
  have E_a := E_a.ext E1
  have C_a := C_a.ext E1
  have G_a := G_a.ext E1
  have V_t := V_t.ext E1
  have Z1 : n0 ≤ h1.size := Nat.le_trans Z0 E1.1
  have K1 := K0.ext E1
  refine g_callV X1 hx 6 hZ hown (own_w hw 41 rfl) (own_w hw 42 rfl) (own_w hw 44 rfl) (own_w hw 43 rfl) (own_w hw 7 rfl) (own_w hw 45 rfl) (by decide) a E_a [(.ref k)] [] ((by have q := reqE l Z a0 hw a k cs t b v0 v1 v2 v3 v4 v5 v6 v7 v8 v9 v10 kT kB h1 n0 Z1 (own_sta_keep S_cs K1) hcs E_k C_a C_k G_a G_k V_t V_b; rw [hr] at q; exact q)) e1 0 (by decide) (by decide) (by decide) (by decide) (by rw [hml]; rfl) (lenOf own_pd5 rfl) (hb hby d8_3) rfl (Nat.le_of_eq rfl) rfl (fun v6 T6 L6 X6 hQ6 => ?_)
  obtain ⟨rfl, N6q, e6⟩ := hQ6
  have N6 := Fr.app N0 N6q
  refine g_ifF X6 hx 9 (hb hby d8_6) (by decide) rfl ?_
  refine g_getS X6 hx 12 hZ hown (host := "") (Or.inl (own_w hw 51 rfl)) Via.refl e6 (own_sta_keep S_f K1) (hb hby d8_9) rfl (fun T7 X7 e7 => ?_)
  refine g_goto X7 hx 16 (hb hby d8_12) (by decide) (by decide) ?_
  exact g_retAW X7 hx hret hlk rfl rfl rfl (hb hby d8_16) hS (Eq.subst (motive := fun z : Heap => _ ≤ z.size) (Eq.symm e7) hk) (by decide) (by decide) (by rw [e7]; exact ⟨rfl, N6, K1⟩)
theorem d13_0 : decode jdk_52_method_3_code 0 = .ok (.iload_n 0, 1) := by decide +kernel
theorem d13_1 : decode jdk_52_method_3_code 1 = .ok (.ifCond .ge 11, 3) := by decide +kernel
theorem d13_12 : decode jdk_52_method_3_code 12 = .ok (.iload_n 0, 1) := by decide +kernel
theorem d13_13 : decode jdk_52_method_3_code 13 = .ok (.ldc 20, 2) := by decide +kernel
theorem d13_15 : decode jdk_52_method_3_code 15 = .ok (.if_icmp .lt 40, 3) := by decide +kernel
theorem d13_55 : decode jdk_52_method_3_code 55 = .ok (.iload_n 0, 1) := by decide +kernel
theorem d13_56 : decode jdk_52_method_3_code 56 = .ok (.iconst 1, 1) := by decide +kernel
theorem d13_57 : decode jdk_52_method_3_code 57 = .ok (.ishl, 1) := by decide +kernel
theorem d13_58 : decode jdk_52_method_3_code 58 = .ok (.ireturn, 1) := by decide +kernel
set_option maxRecDepth 65536 in
set_option maxHeartbeats 40000000 in
theorem ru10_nbl (l : Launch) (Z : State) (a0 : Array Value) (hw : ∀ d ∈ tables_1, d.before a0 Z = true)  (h0 : Heap) (n0 : Nat) (Z0 : n0 ≤ h0.size)  :
    OwnMet l Z (⟨"java/lang/StringUTF16", "newBytesLength", "(I)I"⟩ : MethodName) jdk_52_method_3_code 1 (some .int) [] ({ frames := 0, cells := 0, slots := 0, locals := 0 } : Room) [(.int (10 : Int32))] h0 (fun v h L => v = some (.int (20 : Int32)) ∧ Fr n0 L ∧ h = h0) := by
  refine own_body (Ls := #[.val (.int (10 : Int32))]) (plainFor_of_name own_pn0) (fun m => by first | (simp [entryFrame, mkF, argsToLocals, Value.category]; done) | rfl) (fun p e s m below meth cO T0 hx hby hml hown hnm hret hlk hZ X0 e0 => ?_)
  have hown : s.vm.findClass "java/lang/StringUTF16" = some m.cls := hown
  have N0 := Fr.nil n0
  refine g_iloadN X0 hx 1 (hb hby d13_0) rfl rfl ?_
  refine g_ifT X0 hx 12 (hb hby d13_1) (by decide) (by decide) (by decide) ?_
  refine g_iloadN X0 hx 13 (hb hby d13_12) rfl rfl ?_
  refine g_ldcI X0 hx 15 hZ hown (own_w hw 64 rfl) (hb hby d13_13) rfl ?_
  refine g_icT X0 hx 55 (hb hby d13_15) (by decide) (by decide) (by decide) ?_
  refine g_iloadN X0 hx 56 (hb hby d13_55) rfl rfl ?_
  refine g_iconst X0 hx 57 (1 : Int32) (hb hby d13_56) (by decide) rfl ?_
  refine g_ishl X0 hx 58 (20 : Int32) (hb hby d13_57) (by decide) rfl ?_
  exact g_retI X0 hx hret hlk (hb hby d13_58) (by decide) (by decide) ⟨rfl, N0, e0⟩
theorem d12_0 : decode jdk_52_method_2_code 0 = .ok (.iload_n 0, 1) := by decide +kernel
theorem d12_1 : decode jdk_52_method_2_code 1 = .ok (.invokestatic 11, 3) := by decide +kernel
theorem own_pd6 : parseMethodDescriptor "(I)I" = some ⟨[.int], some .int⟩ := by decide +kernel
theorem d12_4 : decode jdk_52_method_2_code 4 = .ok (.newarray .byte, 2) := by decide +kernel
theorem d12_6 : decode jdk_52_method_2_code 6 = .ok (.areturn, 1) := by decide +kernel
set_option maxRecDepth 65536 in
set_option maxHeartbeats 40000000 in
theorem ru10_nbf (l : Launch) (Z : State) (a0 : Array Value) (hw : ∀ d ∈ tables_1, d.before a0 Z = true)  (h0 : Heap) (n0 : Nat) (Z0 : n0 ≤ h0.size)  :
    OwnMet l Z (⟨"java/lang/StringUTF16", "newBytesFor", "(I)[B"⟩ : MethodName) jdk_52_method_2_code 1 (some (.array .byte)) [] ({ frames := 1, cells := 1, slots := 20, locals := 12 } : Room) [(.int (10 : Int32))] h0 (fun v h L => ∃ (t : Addr) (kT : ClassId), v = some (.ref t) ∧ Fr n0 L ∧ Keep h0 h [] ∧ h0.size ≤ t ∧ Arv Z h t kT .byte (20 : Int32) [(.int (0 : Int32)), (.int (0 : Int32)), (.int (0 : Int32)), (.int (0 : Int32)), (.int (0 : Int32)), (.int (0 : Int32)), (.int (0 : Int32)), (.int (0 : Int32)), (.int (0 : Int32)), (.int (0 : Int32)), (.int (0 : Int32)), (.int (0 : Int32)), (.int (0 : Int32)), (.int (0 : Int32)), (.int (0 : Int32)), (.int (0 : Int32)), (.int (0 : Int32)), (.int (0 : Int32)), (.int (0 : Int32)), (.int (0 : Int32))] (.int (0 : Int32))) := by
  refine own_body (Ls := #[.val (.int (10 : Int32))]) (plainFor_of_name own_pn0) (fun m => by first | (simp [entryFrame, mkF, argsToLocals, Value.category]; done) | rfl) (fun p e s m below meth cO T0 hx hby hml hown hnm hret hlk hZ X0 e0 => ?_)
  have hown : s.vm.findClass "java/lang/StringUTF16" = some m.cls := hown
  have N0 := Fr.nil n0
  have K0 := Keep.refl h0 []
  refine g_iloadN X0 hx 1 (hb hby d12_0) rfl rfl ?_
  refine g_callS X0 hx 4 hZ hown (own_w hw 61 rfl) (own_w hw 62 rfl) (own_w hw 21 rfl) (own_w hw 63 rfl) (by decide) [(.int (10 : Int32))] [] (ru10_nbl l Z a0 hw h0 n0 Z0) e0 0 (by decide) (by decide) (by decide) (by decide) (by rw [hml]; rfl) (lenOf own_pd6 rfl) (hb hby d12_1) rfl (Nat.le_of_eq rfl) rfl (fun v1 T1 L1 X1 hQ1 => ?_)
  obtain ⟨rfl, N1q, e1⟩ := hQ1
  have N1 := Fr.app N0 N1q
  refine g_newP X1 hx 6 hZ (own_w hw 23 rfl) e1 (hb hby d12_4) (by decide) 20 (by decide) (by decide) (by decide) (by decide) rfl (fun T2 h2 b2 kl2 g2 X2 e2 E2 A2 => ?_)
  have G_b2 : n0 ≤ b2 := Nat.le_trans Z0 (Nat.le_of_eq g2.symm)
  have Z2 : n0 ≤ h2.size := Nat.le_trans Z0 E2.1
  have SZ_b2 : h0.size ≤ b2 := Nat.le_trans K0.1 (Nat.le_of_eq g2.symm)
  have K2 := K0.ext E2
  have V_b2 : Arv Z h2 b2 kl2 .byte (20 : Int32) [(.int (0 : Int32)), (.int (0 : Int32)), (.int (0 : Int32)), (.int (0 : Int32)), (.int (0 : Int32)), (.int (0 : Int32)), (.int (0 : Int32)), (.int (0 : Int32)), (.int (0 : Int32)), (.int (0 : Int32)), (.int (0 : Int32)), (.int (0 : Int32)), (.int (0 : Int32)), (.int (0 : Int32)), (.int (0 : Int32)), (.int (0 : Int32)), (.int (0 : Int32)), (.int (0 : Int32)), (.int (0 : Int32)), (.int (0 : Int32))] (.int (0 : Int32)) := A2.pad (pad_rep [] (.int (0 : Int32)) 20)
  exact g_retA X2 hx hret hlk rfl rfl rfl (hb hby d12_6) (by decide) (by decide) (by rw [e2]; exact ⟨_, _, rfl, N1, K2, SZ_b2, V_b2⟩)
theorem d11_0 : decode jdk_52_method_14_code 0 = .ok (.iload_n 2, 1) := by decide +kernel
theorem d11_1 : decode jdk_52_method_14_code 1 = .ok (.invokestatic 107, 3) := by decide +kernel
theorem own_pd7 : parseMethodDescriptor "(I)[B" = some ⟨[.int], some (.array .byte)⟩ := by decide +kernel
theorem d11_4 : decode jdk_52_method_14_code 4 = .ok (.astore_n 3, 1) := by decide +kernel
theorem d11_5 : decode jdk_52_method_14_code 5 = .ok (.iconst 0, 1) := by decide +kernel
theorem d11_6 : decode jdk_52_method_14_code 6 = .ok (.istore 4, 2) := by decide +kernel
theorem d11_8 : decode jdk_52_method_14_code 8 = .ok (.iload 4, 2) := by decide +kernel
theorem d11_10 : decode jdk_52_method_14_code 10 = .ok (.iload_n 2, 1) := by decide +kernel
theorem d11_11 : decode jdk_52_method_14_code 11 = .ok (.if_icmp .ge 21, 3) := by decide +kernel
theorem d11_14 : decode jdk_52_method_14_code 14 = .ok (.aload_n 3, 1) := by decide +kernel
theorem d11_15 : decode jdk_52_method_14_code 15 = .ok (.iload 4, 2) := by decide +kernel
theorem d11_17 : decode jdk_52_method_14_code 17 = .ok (.aload_n 0, 1) := by decide +kernel
theorem d11_18 : decode jdk_52_method_14_code 18 = .ok (.iload_n 1, 1) := by decide +kernel
theorem d11_19 : decode jdk_52_method_14_code 19 = .ok (.caload, 1) := by decide +kernel
theorem d11_20 : decode jdk_52_method_14_code 20 = .ok (.invokestatic 111, 3) := by decide +kernel
theorem own_pd8 : parseMethodDescriptor "([BII)V" = some ⟨[(.array .byte), .int, .int], none⟩ := by decide +kernel
theorem d11_23 : decode jdk_52_method_14_code 23 = .ok (.iinc 1 1, 3) := by decide +kernel
theorem d11_26 : decode jdk_52_method_14_code 26 = .ok (.iinc 4 1, 3) := by decide +kernel
theorem d11_29 : decode jdk_52_method_14_code 29 = .ok (.goto (-21), 3) := by decide +kernel
theorem d11_32 : decode jdk_52_method_14_code 32 = .ok (.aload_n 3, 1) := by decide +kernel
theorem d11_33 : decode jdk_52_method_14_code 33 = .ok (.areturn, 1) := by decide +kernel
set_option maxRecDepth 65536 in
set_option maxHeartbeats 40000000 in
theorem ru10_tob (l : Launch) (Z : State) (a0 : Array Value) (hw : ∀ d ∈ tables_1, d.before a0 Z = true) (b : Addr) (c0 c1 c2 c3 c4 c5 c6 c7 c8 c9 : Int32) (kB : ClassId) (h0 : Heap) (n0 : Nat) (Z0 : n0 ≤ h0.size) (V_b : Arv Z h0 b kB .char (10 : Int32) [(.int c0), (.int c1), (.int c2), (.int c3), (.int c4), (.int c5), (.int c6), (.int c7), (.int c8), (.int c9)] (.int (0 : Int32))) (S_ad : Sta Z h0 "java/lang/StringUTF16" "$assertionsDisabled" "Z" (.int 1)) (S_hi : Sta Z h0 "java/lang/StringUTF16" "HI_BYTE_SHIFT" "I" (.int 0)) (S_lo : Sta Z h0 "java/lang/StringUTF16" "LO_BYTE_SHIFT" "I" (.int 8)) :
    OwnMet l Z (⟨"java/lang/StringUTF16", "toBytes", "([CII)[B"⟩ : MethodName) jdk_52_method_14_code 5 (some (.array .byte)) [] ({ frames := 2, cells := 1, slots := 20, locals := 24 } : Room) [(.ref b), (.int (0 : Int32)), (.int (10 : Int32))] h0 (fun v h L => ∃ (t : Addr) (kT : ClassId), v = some (.ref t) ∧ Fr n0 L ∧ Keep h0 h [] ∧ h0.size ≤ t ∧ Arv Z h t kT .byte (20 : Int32) [(.int (own_lo c0)), (.int (own_hi c0)), (.int (own_lo c1)), (.int (own_hi c1)), (.int (own_lo c2)), (.int (own_hi c2)), (.int (own_lo c3)), (.int (own_hi c3)), (.int (own_lo c4)), (.int (own_hi c4)), (.int (own_lo c5)), (.int (own_hi c5)), (.int (own_lo c6)), (.int (own_hi c6)), (.int (own_lo c7)), (.int (own_hi c7)), (.int (own_lo c8)), (.int (own_hi c8)), (.int (own_lo c9)), (.int (own_hi c9))] (.int (0 : Int32))) := by
  refine own_body (Ls := #[.val (.ref b), .val (.int (0 : Int32)), .val (.int (10 : Int32)), .unset, .unset]) (plainFor_of_name own_pn0) (fun m => by first | (simp [entryFrame, mkF, argsToLocals, Value.category]; done) | rfl) (fun p e s m below meth cO T0 hx hby hml hown hnm hret hlk hZ X0 e0 => ?_)
  have hown : s.vm.findClass "java/lang/StringUTF16" = some m.cls := hown
  have N0 := Fr.nil n0
  have K0 := Keep.refl h0 []
  refine g_iloadN X0 hx 1 (hb hby d11_0) rfl rfl ?_
  refine g_callS X0 hx 4 hZ hown (own_w hw 58 rfl) (own_w hw 59 rfl) (own_w hw 21 rfl) (own_w hw 60 rfl) (by decide) [(.int (10 : Int32))] [] (ru10_nbf l Z a0 hw h0 n0 Z0) e0 0 (by decide) (by decide) (by decide) (by decide) (by rw [hml]; rfl) (lenOf own_pd7 rfl) (hb hby d11_1) rfl (Nat.le_of_eq rfl) rfl (fun v1 T1 L1 X1 hQ1 => ?_)
  obtain ⟨t, kT, rfl, N1q, K1, hst, V_t⟩ := hQ1
  have N1 := Fr.app N0 N1q
  have g_t := Nat.le_trans Z0 hst
  have Z1 := Nat.le_trans Z0 K1.1
  refine g_astoreN X1 hx 5 #[.val (.ref b), .val (.int (0 : Int32)), .val (.int (10 : Int32)), .val (.ref t), .unset] (hb hby d11_4) rfl rfl rfl ?_
  refine g_iconst X1 hx 6 (0 : Int32) (hb hby d11_5) (by decide) rfl ?_
  refine g_istore X1 hx 8 #[.val (.ref b), .val (.int (0 : Int32)), .val (.int (10 : Int32)), .val (.ref t), .val (.int (0 : Int32))] (hb hby d11_6) rfl rfl ?_
  refine g_iload X1 hx 10 (hb hby d11_8) rfl rfl ?_
  refine g_iloadN X1 hx 11 (hb hby d11_10) rfl rfl ?_
  refine g_icF X1 hx 14 (hb hby d11_11) (by decide) rfl ?_
  refine g_aloadN X1 hx 15 (hb hby d11_14) rfl rfl rfl ?_
  refine g_iload X1 hx 17 (hb hby d11_15) rfl rfl ?_
  refine g_aloadN X1 hx 18 (hb hby d11_17) rfl rfl rfl ?_
  refine g_iloadN X1 hx 19 (hb hby d11_18) rfl rfl ?_
  refine g_caload X1 hx 20 hZ rfl (V_b.keep K1 nin0) ⟨by decide, by decide⟩ (show _ = (.int c0) from rfl) (hb hby d11_19) rfl ?_
  refine g_callS X1 hx 23 hZ hown (own_w hw 65 rfl) (own_w hw 66 rfl) (own_w hw 21 rfl) (own_w hw 67 rfl) (by decide) [(.ref t), (.int (0 : Int32)), (.int c0)] [] (ru_put l Z a0 hw t (0 : Int32) (20 : Int32) c0 0 1 20 _ kT T1.heap n0 Z1 g_t V_t (own_sta_keep S_ad K1) (own_sta_keep S_hi K1) (own_sta_keep S_lo K1) (by decide) rfl) rfl 0 (by decide) (by decide) (by decide) (by decide) (by rw [hml]; rfl) (lenOf own_pd8 rfl) (hb hby d11_20) rfl (Nat.le_of_eq rfl) rfl (fun v2 T2 L2 X2 hQ2 => ?_)
  obtain ⟨rfl, N2q, K2, V_t⟩ := hQ2
  have N2 := Fr.app N1 N2q
  have V_t : Arv Z T2.heap t kT .byte (20 : Int32) [(.int (own_lo c0)), (.int (own_hi c0)), (.int (0 : Int32)), (.int (0 : Int32)), (.int (0 : Int32)), (.int (0 : Int32)), (.int (0 : Int32)), (.int (0 : Int32)), (.int (0 : Int32)), (.int (0 : Int32)), (.int (0 : Int32)), (.int (0 : Int32)), (.int (0 : Int32)), (.int (0 : Int32)), (.int (0 : Int32)), (.int (0 : Int32)), (.int (0 : Int32)), (.int (0 : Int32)), (.int (0 : Int32)), (.int (0 : Int32))] (.int (0 : Int32)) := V_t
  have KK2 := K1.trans K2 (allS (Or.inr hst) all0)
  have Z2 := Nat.le_trans Z1 K2.1
  refine g_iinc X2 hx 26 (1 : Int32) #[.val (.ref b), .val (.int (1 : Int32)), .val (.int (10 : Int32)), .val (.ref t), .val (.int (0 : Int32))] (hb hby d11_23) rfl (by decide) rfl rfl ?_
  refine g_iinc X2 hx 29 (1 : Int32) #[.val (.ref b), .val (.int (1 : Int32)), .val (.int (10 : Int32)), .val (.ref t), .val (.int (1 : Int32))] (hb hby d11_26) rfl (by decide) rfl rfl ?_
  refine g_goto X2 hx 8 (hb hby d11_29) (by decide) (by decide) ?_
  refine g_iload X2 hx 10 (hb hby d11_8) rfl rfl ?_
  refine g_iloadN X2 hx 11 (hb hby d11_10) rfl rfl ?_
  refine g_icF X2 hx 14 (hb hby d11_11) (by decide) rfl ?_
  refine g_aloadN X2 hx 15 (hb hby d11_14) rfl rfl rfl ?_
  refine g_iload X2 hx 17 (hb hby d11_15) rfl rfl ?_
  refine g_aloadN X2 hx 18 (hb hby d11_17) rfl rfl rfl ?_
  refine g_iloadN X2 hx 19 (hb hby d11_18) rfl rfl ?_
  refine g_caload X2 hx 20 hZ rfl (V_b.keep KK2 nin0) ⟨by decide, by decide⟩ (show _ = (.int c1) from rfl) (hb hby d11_19) rfl ?_
  refine g_callS X2 hx 23 hZ hown (own_w hw 65 rfl) (own_w hw 66 rfl) (own_w hw 21 rfl) (own_w hw 67 rfl) (by decide) [(.ref t), (.int (1 : Int32)), (.int c1)] [] (ru_put l Z a0 hw t (1 : Int32) (20 : Int32) c1 2 3 20 _ kT T2.heap n0 Z2 g_t V_t (own_sta_keep S_ad KK2) (own_sta_keep S_hi KK2) (own_sta_keep S_lo KK2) (by decide) rfl) rfl 0 (by decide) (by decide) (by decide) (by decide) (by rw [hml]; rfl) (lenOf own_pd8 rfl) (hb hby d11_20) rfl (Nat.le_of_eq rfl) rfl (fun v3 T3 L3 X3 hQ3 => ?_)
  obtain ⟨rfl, N3q, K3, V_t⟩ := hQ3
  have N3 := Fr.app N2 N3q
  have V_t : Arv Z T3.heap t kT .byte (20 : Int32) [(.int (own_lo c0)), (.int (own_hi c0)), (.int (own_lo c1)), (.int (own_hi c1)), (.int (0 : Int32)), (.int (0 : Int32)), (.int (0 : Int32)), (.int (0 : Int32)), (.int (0 : Int32)), (.int (0 : Int32)), (.int (0 : Int32)), (.int (0 : Int32)), (.int (0 : Int32)), (.int (0 : Int32)), (.int (0 : Int32)), (.int (0 : Int32)), (.int (0 : Int32)), (.int (0 : Int32)), (.int (0 : Int32)), (.int (0 : Int32))] (.int (0 : Int32)) := V_t
  have KK3 := KK2.trans K3 (allS (Or.inr hst) all0)
  have Z3 := Nat.le_trans Z2 K3.1
  refine g_iinc X3 hx 26 (2 : Int32) #[.val (.ref b), .val (.int (2 : Int32)), .val (.int (10 : Int32)), .val (.ref t), .val (.int (1 : Int32))] (hb hby d11_23) rfl (by decide) rfl rfl ?_
  refine g_iinc X3 hx 29 (2 : Int32) #[.val (.ref b), .val (.int (2 : Int32)), .val (.int (10 : Int32)), .val (.ref t), .val (.int (2 : Int32))] (hb hby d11_26) rfl (by decide) rfl rfl ?_
  refine g_goto X3 hx 8 (hb hby d11_29) (by decide) (by decide) ?_
  refine g_iload X3 hx 10 (hb hby d11_8) rfl rfl ?_
  refine g_iloadN X3 hx 11 (hb hby d11_10) rfl rfl ?_
  refine g_icF X3 hx 14 (hb hby d11_11) (by decide) rfl ?_
  refine g_aloadN X3 hx 15 (hb hby d11_14) rfl rfl rfl ?_
  refine g_iload X3 hx 17 (hb hby d11_15) rfl rfl ?_
  refine g_aloadN X3 hx 18 (hb hby d11_17) rfl rfl rfl ?_
  refine g_iloadN X3 hx 19 (hb hby d11_18) rfl rfl ?_
  refine g_caload X3 hx 20 hZ rfl (V_b.keep KK3 nin0) ⟨by decide, by decide⟩ (show _ = (.int c2) from rfl) (hb hby d11_19) rfl ?_
  refine g_callS X3 hx 23 hZ hown (own_w hw 65 rfl) (own_w hw 66 rfl) (own_w hw 21 rfl) (own_w hw 67 rfl) (by decide) [(.ref t), (.int (2 : Int32)), (.int c2)] [] (ru_put l Z a0 hw t (2 : Int32) (20 : Int32) c2 4 5 20 _ kT T3.heap n0 Z3 g_t V_t (own_sta_keep S_ad KK3) (own_sta_keep S_hi KK3) (own_sta_keep S_lo KK3) (by decide) rfl) rfl 0 (by decide) (by decide) (by decide) (by decide) (by rw [hml]; rfl) (lenOf own_pd8 rfl) (hb hby d11_20) rfl (Nat.le_of_eq rfl) rfl (fun v4 T4 L4 X4 hQ4 => ?_)
  obtain ⟨rfl, N4q, K4, V_t⟩ := hQ4
  have N4 := Fr.app N3 N4q
  have V_t : Arv Z T4.heap t kT .byte (20 : Int32) [(.int (own_lo c0)), (.int (own_hi c0)), (.int (own_lo c1)), (.int (own_hi c1)), (.int (own_lo c2)), (.int (own_hi c2)), (.int (0 : Int32)), (.int (0 : Int32)), (.int (0 : Int32)), (.int (0 : Int32)), (.int (0 : Int32)), (.int (0 : Int32)), (.int (0 : Int32)), (.int (0 : Int32)), (.int (0 : Int32)), (.int (0 : Int32)), (.int (0 : Int32)), (.int (0 : Int32)), (.int (0 : Int32)), (.int (0 : Int32))] (.int (0 : Int32)) := V_t
  have KK4 := KK3.trans K4 (allS (Or.inr hst) all0)
  have Z4 := Nat.le_trans Z3 K4.1
  refine g_iinc X4 hx 26 (3 : Int32) #[.val (.ref b), .val (.int (3 : Int32)), .val (.int (10 : Int32)), .val (.ref t), .val (.int (2 : Int32))] (hb hby d11_23) rfl (by decide) rfl rfl ?_
  refine g_iinc X4 hx 29 (3 : Int32) #[.val (.ref b), .val (.int (3 : Int32)), .val (.int (10 : Int32)), .val (.ref t), .val (.int (3 : Int32))] (hb hby d11_26) rfl (by decide) rfl rfl ?_
  refine g_goto X4 hx 8 (hb hby d11_29) (by decide) (by decide) ?_
  refine g_iload X4 hx 10 (hb hby d11_8) rfl rfl ?_
  refine g_iloadN X4 hx 11 (hb hby d11_10) rfl rfl ?_
  refine g_icF X4 hx 14 (hb hby d11_11) (by decide) rfl ?_
  refine g_aloadN X4 hx 15 (hb hby d11_14) rfl rfl rfl ?_
  refine g_iload X4 hx 17 (hb hby d11_15) rfl rfl ?_
  refine g_aloadN X4 hx 18 (hb hby d11_17) rfl rfl rfl ?_
  refine g_iloadN X4 hx 19 (hb hby d11_18) rfl rfl ?_
  refine g_caload X4 hx 20 hZ rfl (V_b.keep KK4 nin0) ⟨by decide, by decide⟩ (show _ = (.int c3) from rfl) (hb hby d11_19) rfl ?_
  refine g_callS X4 hx 23 hZ hown (own_w hw 65 rfl) (own_w hw 66 rfl) (own_w hw 21 rfl) (own_w hw 67 rfl) (by decide) [(.ref t), (.int (3 : Int32)), (.int c3)] [] (ru_put l Z a0 hw t (3 : Int32) (20 : Int32) c3 6 7 20 _ kT T4.heap n0 Z4 g_t V_t (own_sta_keep S_ad KK4) (own_sta_keep S_hi KK4) (own_sta_keep S_lo KK4) (by decide) rfl) rfl 0 (by decide) (by decide) (by decide) (by decide) (by rw [hml]; rfl) (lenOf own_pd8 rfl) (hb hby d11_20) rfl (Nat.le_of_eq rfl) rfl (fun v5 T5 L5 X5 hQ5 => ?_)
  obtain ⟨rfl, N5q, K5, V_t⟩ := hQ5
  have N5 := Fr.app N4 N5q
  have V_t : Arv Z T5.heap t kT .byte (20 : Int32) [(.int (own_lo c0)), (.int (own_hi c0)), (.int (own_lo c1)), (.int (own_hi c1)), (.int (own_lo c2)), (.int (own_hi c2)), (.int (own_lo c3)), (.int (own_hi c3)), (.int (0 : Int32)), (.int (0 : Int32)), (.int (0 : Int32)), (.int (0 : Int32)), (.int (0 : Int32)), (.int (0 : Int32)), (.int (0 : Int32)), (.int (0 : Int32)), (.int (0 : Int32)), (.int (0 : Int32)), (.int (0 : Int32)), (.int (0 : Int32))] (.int (0 : Int32)) := V_t
  have KK5 := KK4.trans K5 (allS (Or.inr hst) all0)
  have Z5 := Nat.le_trans Z4 K5.1
  refine g_iinc X5 hx 26 (4 : Int32) #[.val (.ref b), .val (.int (4 : Int32)), .val (.int (10 : Int32)), .val (.ref t), .val (.int (3 : Int32))] (hb hby d11_23) rfl (by decide) rfl rfl ?_
  refine g_iinc X5 hx 29 (4 : Int32) #[.val (.ref b), .val (.int (4 : Int32)), .val (.int (10 : Int32)), .val (.ref t), .val (.int (4 : Int32))] (hb hby d11_26) rfl (by decide) rfl rfl ?_
  refine g_goto X5 hx 8 (hb hby d11_29) (by decide) (by decide) ?_
  refine g_iload X5 hx 10 (hb hby d11_8) rfl rfl ?_
  refine g_iloadN X5 hx 11 (hb hby d11_10) rfl rfl ?_
  refine g_icF X5 hx 14 (hb hby d11_11) (by decide) rfl ?_
  refine g_aloadN X5 hx 15 (hb hby d11_14) rfl rfl rfl ?_
  refine g_iload X5 hx 17 (hb hby d11_15) rfl rfl ?_
  refine g_aloadN X5 hx 18 (hb hby d11_17) rfl rfl rfl ?_
  refine g_iloadN X5 hx 19 (hb hby d11_18) rfl rfl ?_
  refine g_caload X5 hx 20 hZ rfl (V_b.keep KK5 nin0) ⟨by decide, by decide⟩ (show _ = (.int c4) from rfl) (hb hby d11_19) rfl ?_
  refine g_callS X5 hx 23 hZ hown (own_w hw 65 rfl) (own_w hw 66 rfl) (own_w hw 21 rfl) (own_w hw 67 rfl) (by decide) [(.ref t), (.int (4 : Int32)), (.int c4)] [] (ru_put l Z a0 hw t (4 : Int32) (20 : Int32) c4 8 9 20 _ kT T5.heap n0 Z5 g_t V_t (own_sta_keep S_ad KK5) (own_sta_keep S_hi KK5) (own_sta_keep S_lo KK5) (by decide) rfl) rfl 0 (by decide) (by decide) (by decide) (by decide) (by rw [hml]; rfl) (lenOf own_pd8 rfl) (hb hby d11_20) rfl (Nat.le_of_eq rfl) rfl (fun v6 T6 L6 X6 hQ6 => ?_)
  obtain ⟨rfl, N6q, K6, V_t⟩ := hQ6
  have N6 := Fr.app N5 N6q
  have V_t : Arv Z T6.heap t kT .byte (20 : Int32) [(.int (own_lo c0)), (.int (own_hi c0)), (.int (own_lo c1)), (.int (own_hi c1)), (.int (own_lo c2)), (.int (own_hi c2)), (.int (own_lo c3)), (.int (own_hi c3)), (.int (own_lo c4)), (.int (own_hi c4)), (.int (0 : Int32)), (.int (0 : Int32)), (.int (0 : Int32)), (.int (0 : Int32)), (.int (0 : Int32)), (.int (0 : Int32)), (.int (0 : Int32)), (.int (0 : Int32)), (.int (0 : Int32)), (.int (0 : Int32))] (.int (0 : Int32)) := V_t
  have KK6 := KK5.trans K6 (allS (Or.inr hst) all0)
  have Z6 := Nat.le_trans Z5 K6.1
  refine g_iinc X6 hx 26 (5 : Int32) #[.val (.ref b), .val (.int (5 : Int32)), .val (.int (10 : Int32)), .val (.ref t), .val (.int (4 : Int32))] (hb hby d11_23) rfl (by decide) rfl rfl ?_
  refine g_iinc X6 hx 29 (5 : Int32) #[.val (.ref b), .val (.int (5 : Int32)), .val (.int (10 : Int32)), .val (.ref t), .val (.int (5 : Int32))] (hb hby d11_26) rfl (by decide) rfl rfl ?_
  refine g_goto X6 hx 8 (hb hby d11_29) (by decide) (by decide) ?_
  refine g_iload X6 hx 10 (hb hby d11_8) rfl rfl ?_
  refine g_iloadN X6 hx 11 (hb hby d11_10) rfl rfl ?_
  refine g_icF X6 hx 14 (hb hby d11_11) (by decide) rfl ?_
  refine g_aloadN X6 hx 15 (hb hby d11_14) rfl rfl rfl ?_
  refine g_iload X6 hx 17 (hb hby d11_15) rfl rfl ?_
  refine g_aloadN X6 hx 18 (hb hby d11_17) rfl rfl rfl ?_
  refine g_iloadN X6 hx 19 (hb hby d11_18) rfl rfl ?_
  refine g_caload X6 hx 20 hZ rfl (V_b.keep KK6 nin0) ⟨by decide, by decide⟩ (show _ = (.int c5) from rfl) (hb hby d11_19) rfl ?_
  refine g_callS X6 hx 23 hZ hown (own_w hw 65 rfl) (own_w hw 66 rfl) (own_w hw 21 rfl) (own_w hw 67 rfl) (by decide) [(.ref t), (.int (5 : Int32)), (.int c5)] [] (ru_put l Z a0 hw t (5 : Int32) (20 : Int32) c5 10 11 20 _ kT T6.heap n0 Z6 g_t V_t (own_sta_keep S_ad KK6) (own_sta_keep S_hi KK6) (own_sta_keep S_lo KK6) (by decide) rfl) rfl 0 (by decide) (by decide) (by decide) (by decide) (by rw [hml]; rfl) (lenOf own_pd8 rfl) (hb hby d11_20) rfl (Nat.le_of_eq rfl) rfl (fun v7 T7 L7 X7 hQ7 => ?_)
  obtain ⟨rfl, N7q, K7, V_t⟩ := hQ7
  have N7 := Fr.app N6 N7q
  have V_t : Arv Z T7.heap t kT .byte (20 : Int32) [(.int (own_lo c0)), (.int (own_hi c0)), (.int (own_lo c1)), (.int (own_hi c1)), (.int (own_lo c2)), (.int (own_hi c2)), (.int (own_lo c3)), (.int (own_hi c3)), (.int (own_lo c4)), (.int (own_hi c4)), (.int (own_lo c5)), (.int (own_hi c5)), (.int (0 : Int32)), (.int (0 : Int32)), (.int (0 : Int32)), (.int (0 : Int32)), (.int (0 : Int32)), (.int (0 : Int32)), (.int (0 : Int32)), (.int (0 : Int32))] (.int (0 : Int32)) := V_t
  have KK7 := KK6.trans K7 (allS (Or.inr hst) all0)
  have Z7 := Nat.le_trans Z6 K7.1
  refine g_iinc X7 hx 26 (6 : Int32) #[.val (.ref b), .val (.int (6 : Int32)), .val (.int (10 : Int32)), .val (.ref t), .val (.int (5 : Int32))] (hb hby d11_23) rfl (by decide) rfl rfl ?_
  refine g_iinc X7 hx 29 (6 : Int32) #[.val (.ref b), .val (.int (6 : Int32)), .val (.int (10 : Int32)), .val (.ref t), .val (.int (6 : Int32))] (hb hby d11_26) rfl (by decide) rfl rfl ?_
  refine g_goto X7 hx 8 (hb hby d11_29) (by decide) (by decide) ?_
  refine g_iload X7 hx 10 (hb hby d11_8) rfl rfl ?_
  refine g_iloadN X7 hx 11 (hb hby d11_10) rfl rfl ?_
  refine g_icF X7 hx 14 (hb hby d11_11) (by decide) rfl ?_
  refine g_aloadN X7 hx 15 (hb hby d11_14) rfl rfl rfl ?_
  refine g_iload X7 hx 17 (hb hby d11_15) rfl rfl ?_
  refine g_aloadN X7 hx 18 (hb hby d11_17) rfl rfl rfl ?_
  refine g_iloadN X7 hx 19 (hb hby d11_18) rfl rfl ?_
  refine g_caload X7 hx 20 hZ rfl (V_b.keep KK7 nin0) ⟨by decide, by decide⟩ (show _ = (.int c6) from rfl) (hb hby d11_19) rfl ?_
  refine g_callS X7 hx 23 hZ hown (own_w hw 65 rfl) (own_w hw 66 rfl) (own_w hw 21 rfl) (own_w hw 67 rfl) (by decide) [(.ref t), (.int (6 : Int32)), (.int c6)] [] (ru_put l Z a0 hw t (6 : Int32) (20 : Int32) c6 12 13 20 _ kT T7.heap n0 Z7 g_t V_t (own_sta_keep S_ad KK7) (own_sta_keep S_hi KK7) (own_sta_keep S_lo KK7) (by decide) rfl) rfl 0 (by decide) (by decide) (by decide) (by decide) (by rw [hml]; rfl) (lenOf own_pd8 rfl) (hb hby d11_20) rfl (Nat.le_of_eq rfl) rfl (fun v8 T8 L8 X8 hQ8 => ?_)
  obtain ⟨rfl, N8q, K8, V_t⟩ := hQ8
  have N8 := Fr.app N7 N8q
  have V_t : Arv Z T8.heap t kT .byte (20 : Int32) [(.int (own_lo c0)), (.int (own_hi c0)), (.int (own_lo c1)), (.int (own_hi c1)), (.int (own_lo c2)), (.int (own_hi c2)), (.int (own_lo c3)), (.int (own_hi c3)), (.int (own_lo c4)), (.int (own_hi c4)), (.int (own_lo c5)), (.int (own_hi c5)), (.int (own_lo c6)), (.int (own_hi c6)), (.int (0 : Int32)), (.int (0 : Int32)), (.int (0 : Int32)), (.int (0 : Int32)), (.int (0 : Int32)), (.int (0 : Int32))] (.int (0 : Int32)) := V_t
  have KK8 := KK7.trans K8 (allS (Or.inr hst) all0)
  have Z8 := Nat.le_trans Z7 K8.1
  refine g_iinc X8 hx 26 (7 : Int32) #[.val (.ref b), .val (.int (7 : Int32)), .val (.int (10 : Int32)), .val (.ref t), .val (.int (6 : Int32))] (hb hby d11_23) rfl (by decide) rfl rfl ?_
  refine g_iinc X8 hx 29 (7 : Int32) #[.val (.ref b), .val (.int (7 : Int32)), .val (.int (10 : Int32)), .val (.ref t), .val (.int (7 : Int32))] (hb hby d11_26) rfl (by decide) rfl rfl ?_
  refine g_goto X8 hx 8 (hb hby d11_29) (by decide) (by decide) ?_
  refine g_iload X8 hx 10 (hb hby d11_8) rfl rfl ?_
  refine g_iloadN X8 hx 11 (hb hby d11_10) rfl rfl ?_
  refine g_icF X8 hx 14 (hb hby d11_11) (by decide) rfl ?_
  refine g_aloadN X8 hx 15 (hb hby d11_14) rfl rfl rfl ?_
  refine g_iload X8 hx 17 (hb hby d11_15) rfl rfl ?_
  refine g_aloadN X8 hx 18 (hb hby d11_17) rfl rfl rfl ?_
  refine g_iloadN X8 hx 19 (hb hby d11_18) rfl rfl ?_
  refine g_caload X8 hx 20 hZ rfl (V_b.keep KK8 nin0) ⟨by decide, by decide⟩ (show _ = (.int c7) from rfl) (hb hby d11_19) rfl ?_
  refine g_callS X8 hx 23 hZ hown (own_w hw 65 rfl) (own_w hw 66 rfl) (own_w hw 21 rfl) (own_w hw 67 rfl) (by decide) [(.ref t), (.int (7 : Int32)), (.int c7)] [] (ru_put l Z a0 hw t (7 : Int32) (20 : Int32) c7 14 15 20 _ kT T8.heap n0 Z8 g_t V_t (own_sta_keep S_ad KK8) (own_sta_keep S_hi KK8) (own_sta_keep S_lo KK8) (by decide) rfl) rfl 0 (by decide) (by decide) (by decide) (by decide) (by rw [hml]; rfl) (lenOf own_pd8 rfl) (hb hby d11_20) rfl (Nat.le_of_eq rfl) rfl (fun v9 T9 L9 X9 hQ9 => ?_)
  obtain ⟨rfl, N9q, K9, V_t⟩ := hQ9
  have N9 := Fr.app N8 N9q
  have V_t : Arv Z T9.heap t kT .byte (20 : Int32) [(.int (own_lo c0)), (.int (own_hi c0)), (.int (own_lo c1)), (.int (own_hi c1)), (.int (own_lo c2)), (.int (own_hi c2)), (.int (own_lo c3)), (.int (own_hi c3)), (.int (own_lo c4)), (.int (own_hi c4)), (.int (own_lo c5)), (.int (own_hi c5)), (.int (own_lo c6)), (.int (own_hi c6)), (.int (own_lo c7)), (.int (own_hi c7)), (.int (0 : Int32)), (.int (0 : Int32)), (.int (0 : Int32)), (.int (0 : Int32))] (.int (0 : Int32)) := V_t
  have KK9 := KK8.trans K9 (allS (Or.inr hst) all0)
  have Z9 := Nat.le_trans Z8 K9.1
  refine g_iinc X9 hx 26 (8 : Int32) #[.val (.ref b), .val (.int (8 : Int32)), .val (.int (10 : Int32)), .val (.ref t), .val (.int (7 : Int32))] (hb hby d11_23) rfl (by decide) rfl rfl ?_
  refine g_iinc X9 hx 29 (8 : Int32) #[.val (.ref b), .val (.int (8 : Int32)), .val (.int (10 : Int32)), .val (.ref t), .val (.int (8 : Int32))] (hb hby d11_26) rfl (by decide) rfl rfl ?_
  refine g_goto X9 hx 8 (hb hby d11_29) (by decide) (by decide) ?_
  refine g_iload X9 hx 10 (hb hby d11_8) rfl rfl ?_
  refine g_iloadN X9 hx 11 (hb hby d11_10) rfl rfl ?_
  refine g_icF X9 hx 14 (hb hby d11_11) (by decide) rfl ?_
  refine g_aloadN X9 hx 15 (hb hby d11_14) rfl rfl rfl ?_
  refine g_iload X9 hx 17 (hb hby d11_15) rfl rfl ?_
  refine g_aloadN X9 hx 18 (hb hby d11_17) rfl rfl rfl ?_
  refine g_iloadN X9 hx 19 (hb hby d11_18) rfl rfl ?_
  refine g_caload X9 hx 20 hZ rfl (V_b.keep KK9 nin0) ⟨by decide, by decide⟩ (show _ = (.int c8) from rfl) (hb hby d11_19) rfl ?_
  refine g_callS X9 hx 23 hZ hown (own_w hw 65 rfl) (own_w hw 66 rfl) (own_w hw 21 rfl) (own_w hw 67 rfl) (by decide) [(.ref t), (.int (8 : Int32)), (.int c8)] [] (ru_put l Z a0 hw t (8 : Int32) (20 : Int32) c8 16 17 20 _ kT T9.heap n0 Z9 g_t V_t (own_sta_keep S_ad KK9) (own_sta_keep S_hi KK9) (own_sta_keep S_lo KK9) (by decide) rfl) rfl 0 (by decide) (by decide) (by decide) (by decide) (by rw [hml]; rfl) (lenOf own_pd8 rfl) (hb hby d11_20) rfl (Nat.le_of_eq rfl) rfl (fun v10 T10 L10 X10 hQ10 => ?_)
  obtain ⟨rfl, N10q, K10, V_t⟩ := hQ10
  have N10 := Fr.app N9 N10q
  have V_t : Arv Z T10.heap t kT .byte (20 : Int32) [(.int (own_lo c0)), (.int (own_hi c0)), (.int (own_lo c1)), (.int (own_hi c1)), (.int (own_lo c2)), (.int (own_hi c2)), (.int (own_lo c3)), (.int (own_hi c3)), (.int (own_lo c4)), (.int (own_hi c4)), (.int (own_lo c5)), (.int (own_hi c5)), (.int (own_lo c6)), (.int (own_hi c6)), (.int (own_lo c7)), (.int (own_hi c7)), (.int (own_lo c8)), (.int (own_hi c8)), (.int (0 : Int32)), (.int (0 : Int32))] (.int (0 : Int32)) := V_t
  have KK10 := KK9.trans K10 (allS (Or.inr hst) all0)
  have Z10 := Nat.le_trans Z9 K10.1
  refine g_iinc X10 hx 26 (9 : Int32) #[.val (.ref b), .val (.int (9 : Int32)), .val (.int (10 : Int32)), .val (.ref t), .val (.int (8 : Int32))] (hb hby d11_23) rfl (by decide) rfl rfl ?_
  refine g_iinc X10 hx 29 (9 : Int32) #[.val (.ref b), .val (.int (9 : Int32)), .val (.int (10 : Int32)), .val (.ref t), .val (.int (9 : Int32))] (hb hby d11_26) rfl (by decide) rfl rfl ?_
  refine g_goto X10 hx 8 (hb hby d11_29) (by decide) (by decide) ?_
  refine g_iload X10 hx 10 (hb hby d11_8) rfl rfl ?_
  refine g_iloadN X10 hx 11 (hb hby d11_10) rfl rfl ?_
  refine g_icF X10 hx 14 (hb hby d11_11) (by decide) rfl ?_
  refine g_aloadN X10 hx 15 (hb hby d11_14) rfl rfl rfl ?_
  refine g_iload X10 hx 17 (hb hby d11_15) rfl rfl ?_
  refine g_aloadN X10 hx 18 (hb hby d11_17) rfl rfl rfl ?_
  refine g_iloadN X10 hx 19 (hb hby d11_18) rfl rfl ?_
  refine g_caload X10 hx 20 hZ rfl (V_b.keep KK10 nin0) ⟨by decide, by decide⟩ (show _ = (.int c9) from rfl) (hb hby d11_19) rfl ?_
  refine g_callS X10 hx 23 hZ hown (own_w hw 65 rfl) (own_w hw 66 rfl) (own_w hw 21 rfl) (own_w hw 67 rfl) (by decide) [(.ref t), (.int (9 : Int32)), (.int c9)] [] (ru_put l Z a0 hw t (9 : Int32) (20 : Int32) c9 18 19 20 _ kT T10.heap n0 Z10 g_t V_t (own_sta_keep S_ad KK10) (own_sta_keep S_hi KK10) (own_sta_keep S_lo KK10) (by decide) rfl) rfl 0 (by decide) (by decide) (by decide) (by decide) (by rw [hml]; rfl) (lenOf own_pd8 rfl) (hb hby d11_20) rfl (Nat.le_of_eq rfl) rfl (fun v11 T11 L11 X11 hQ11 => ?_)
  obtain ⟨rfl, N11q, K11, V_t⟩ := hQ11
  have N11 := Fr.app N10 N11q
  have V_t : Arv Z T11.heap t kT .byte (20 : Int32) [(.int (own_lo c0)), (.int (own_hi c0)), (.int (own_lo c1)), (.int (own_hi c1)), (.int (own_lo c2)), (.int (own_hi c2)), (.int (own_lo c3)), (.int (own_hi c3)), (.int (own_lo c4)), (.int (own_hi c4)), (.int (own_lo c5)), (.int (own_hi c5)), (.int (own_lo c6)), (.int (own_hi c6)), (.int (own_lo c7)), (.int (own_hi c7)), (.int (own_lo c8)), (.int (own_hi c8)), (.int (own_lo c9)), (.int (own_hi c9))] (.int (0 : Int32)) := V_t
  have KK11 := KK10.trans K11 (allS (Or.inr hst) all0)
  have Z11 := Nat.le_trans Z10 K11.1
  refine g_iinc X11 hx 26 (10 : Int32) #[.val (.ref b), .val (.int (10 : Int32)), .val (.int (10 : Int32)), .val (.ref t), .val (.int (9 : Int32))] (hb hby d11_23) rfl (by decide) rfl rfl ?_
  refine g_iinc X11 hx 29 (10 : Int32) #[.val (.ref b), .val (.int (10 : Int32)), .val (.int (10 : Int32)), .val (.ref t), .val (.int (10 : Int32))] (hb hby d11_26) rfl (by decide) rfl rfl ?_
  refine g_goto X11 hx 8 (hb hby d11_29) (by decide) (by decide) ?_
  refine g_iload X11 hx 10 (hb hby d11_8) rfl rfl ?_
  refine g_iloadN X11 hx 11 (hb hby d11_10) rfl rfl ?_
  refine g_icT X11 hx 32 (hb hby d11_11) (by decide) (by decide) (by decide) ?_
  refine g_aloadN X11 hx 33 (hb hby d11_32) rfl rfl rfl ?_
  exact g_retA X11 hx hret hlk rfl rfl rfl (hb hby d11_33) (by decide) (by decide) ⟨t, kT, rfl, N11, KK11, hst, V_t⟩
set_option maxRecDepth 65536 in
set_option maxHeartbeats 40000000 in
theorem ru10_coder (l : Launch) (Z : State) (a0 : Array Value) (hw : ∀ d ∈ tables_1, d.before a0 Z = true) (t : Addr) (kT : ClassId) (vs : List Value) (h0 : Heap) (n0 : Nat) (Z0 : n0 ≤ h0.size) (V_t : Arv Z h0 t kT .byte (20 : Int32) vs (.int (0 : Int32))) :
    OwnMet l Z (⟨"java/lang/StringUTF16", "coderFromArrayLen", "([BI)B"⟩ : MethodName) jdk_52_method_15_code 2 (some .byte) [] ({ frames := 0, cells := 0, slots := 0, locals := 0 } : Room) [(.ref t), (.int (10 : Int32))] h0 (fun v h L => v = some (.int 1) ∧ Fr n0 L ∧ h = h0) := by
  refine own_body (Ls := #[.val (.ref t), .val (.int (10 : Int32))]) (plainFor_of_name own_pn0) (fun m => by first | (simp [entryFrame, mkF, argsToLocals, Value.category]; done) | rfl) (fun p e s m below meth cO T0 hx hby hml hown hnm hret hlk hZ X0 e0 => ?_)
  have hown : s.vm.findClass "java/lang/StringUTF16" = some m.cls := hown
  have N0 := Fr.nil n0
  refine g_iloadN X0 hx 1 (hb hby d7_0) rfl rfl ?_
  refine g_aloadN X0 hx 2 (hb hby d7_1) rfl rfl rfl ?_
  refine g_arraylength X0 hx 3 hZ e0 V_t (hb hby d7_2) rfl ?_
  refine g_isub X0 hx 4 (-10 : Int32) (hb hby d7_3) (by decide) rfl ?_
  refine g_bipush X0 hx 6 (31 : Int32) (hb hby d7_4) (by decide) rfl ?_
  refine g_iushr X0 hx 7 (1 : Int32) (hb hby d7_6) (by decide) rfl ?_
  refine g_i2b X0 hx 8 (1 : Int32) (hb hby d7_7) (by decide) rfl ?_
  exact g_retB X0 hx hret hlk rfl (hb hby d7_8) (by decide) (by decide) ⟨rfl, N0, e0⟩
set_option maxRecDepth 65536 in
set_option maxHeartbeats 40000000 in
theorem ru11_nbl (l : Launch) (Z : State) (a0 : Array Value) (hw : ∀ d ∈ tables_1, d.before a0 Z = true)  (h0 : Heap) (n0 : Nat) (Z0 : n0 ≤ h0.size)  :
    OwnMet l Z (⟨"java/lang/StringUTF16", "newBytesLength", "(I)I"⟩ : MethodName) jdk_52_method_3_code 1 (some .int) [] ({ frames := 0, cells := 0, slots := 0, locals := 0 } : Room) [(.int (11 : Int32))] h0 (fun v h L => v = some (.int (22 : Int32)) ∧ Fr n0 L ∧ h = h0) := by
  refine own_body (Ls := #[.val (.int (11 : Int32))]) (plainFor_of_name own_pn0) (fun m => by first | (simp [entryFrame, mkF, argsToLocals, Value.category]; done) | rfl) (fun p e s m below meth cO T0 hx hby hml hown hnm hret hlk hZ X0 e0 => ?_)
  have hown : s.vm.findClass "java/lang/StringUTF16" = some m.cls := hown
  have N0 := Fr.nil n0
  refine g_iloadN X0 hx 1 (hb hby d13_0) rfl rfl ?_
  refine g_ifT X0 hx 12 (hb hby d13_1) (by decide) (by decide) (by decide) ?_
  refine g_iloadN X0 hx 13 (hb hby d13_12) rfl rfl ?_
  refine g_ldcI X0 hx 15 hZ hown (own_w hw 64 rfl) (hb hby d13_13) rfl ?_
  refine g_icT X0 hx 55 (hb hby d13_15) (by decide) (by decide) (by decide) ?_
  refine g_iloadN X0 hx 56 (hb hby d13_55) rfl rfl ?_
  refine g_iconst X0 hx 57 (1 : Int32) (hb hby d13_56) (by decide) rfl ?_
  refine g_ishl X0 hx 58 (22 : Int32) (hb hby d13_57) (by decide) rfl ?_
  exact g_retI X0 hx hret hlk (hb hby d13_58) (by decide) (by decide) ⟨rfl, N0, e0⟩
set_option maxRecDepth 65536 in
set_option maxHeartbeats 40000000 in
theorem ru11_nbf (l : Launch) (Z : State) (a0 : Array Value) (hw : ∀ d ∈ tables_1, d.before a0 Z = true)  (h0 : Heap) (n0 : Nat) (Z0 : n0 ≤ h0.size)  :
    OwnMet l Z (⟨"java/lang/StringUTF16", "newBytesFor", "(I)[B"⟩ : MethodName) jdk_52_method_2_code 1 (some (.array .byte)) [] ({ frames := 1, cells := 1, slots := 22, locals := 12 } : Room) [(.int (11 : Int32))] h0 (fun v h L => ∃ (t : Addr) (kT : ClassId), v = some (.ref t) ∧ Fr n0 L ∧ Keep h0 h [] ∧ h0.size ≤ t ∧ Arv Z h t kT .byte (22 : Int32) [(.int (0 : Int32)), (.int (0 : Int32)), (.int (0 : Int32)), (.int (0 : Int32)), (.int (0 : Int32)), (.int (0 : Int32)), (.int (0 : Int32)), (.int (0 : Int32)), (.int (0 : Int32)), (.int (0 : Int32)), (.int (0 : Int32)), (.int (0 : Int32)), (.int (0 : Int32)), (.int (0 : Int32)), (.int (0 : Int32)), (.int (0 : Int32)), (.int (0 : Int32)), (.int (0 : Int32)), (.int (0 : Int32)), (.int (0 : Int32)), (.int (0 : Int32)), (.int (0 : Int32))] (.int (0 : Int32))) := by
  refine own_body (Ls := #[.val (.int (11 : Int32))]) (plainFor_of_name own_pn0) (fun m => by first | (simp [entryFrame, mkF, argsToLocals, Value.category]; done) | rfl) (fun p e s m below meth cO T0 hx hby hml hown hnm hret hlk hZ X0 e0 => ?_)
  have hown : s.vm.findClass "java/lang/StringUTF16" = some m.cls := hown
  have N0 := Fr.nil n0
  have K0 := Keep.refl h0 []
  refine g_iloadN X0 hx 1 (hb hby d12_0) rfl rfl ?_
  refine g_callS X0 hx 4 hZ hown (own_w hw 61 rfl) (own_w hw 62 rfl) (own_w hw 21 rfl) (own_w hw 63 rfl) (by decide) [(.int (11 : Int32))] [] (ru11_nbl l Z a0 hw h0 n0 Z0) e0 0 (by decide) (by decide) (by decide) (by decide) (by rw [hml]; rfl) (lenOf own_pd6 rfl) (hb hby d12_1) rfl (Nat.le_of_eq rfl) rfl (fun v1 T1 L1 X1 hQ1 => ?_)
  obtain ⟨rfl, N1q, e1⟩ := hQ1
  have N1 := Fr.app N0 N1q
  refine g_newP X1 hx 6 hZ (own_w hw 23 rfl) e1 (hb hby d12_4) (by decide) 22 (by decide) (by decide) (by decide) (by decide) rfl (fun T2 h2 b2 kl2 g2 X2 e2 E2 A2 => ?_)
  have G_b2 : n0 ≤ b2 := Nat.le_trans Z0 (Nat.le_of_eq g2.symm)
  have Z2 : n0 ≤ h2.size := Nat.le_trans Z0 E2.1
  have SZ_b2 : h0.size ≤ b2 := Nat.le_trans K0.1 (Nat.le_of_eq g2.symm)
  have K2 := K0.ext E2
  have V_b2 : Arv Z h2 b2 kl2 .byte (22 : Int32) [(.int (0 : Int32)), (.int (0 : Int32)), (.int (0 : Int32)), (.int (0 : Int32)), (.int (0 : Int32)), (.int (0 : Int32)), (.int (0 : Int32)), (.int (0 : Int32)), (.int (0 : Int32)), (.int (0 : Int32)), (.int (0 : Int32)), (.int (0 : Int32)), (.int (0 : Int32)), (.int (0 : Int32)), (.int (0 : Int32)), (.int (0 : Int32)), (.int (0 : Int32)), (.int (0 : Int32)), (.int (0 : Int32)), (.int (0 : Int32)), (.int (0 : Int32)), (.int (0 : Int32))] (.int (0 : Int32)) := A2.pad (pad_rep [] (.int (0 : Int32)) 22)
  exact g_retA X2 hx hret hlk rfl rfl rfl (hb hby d12_6) (by decide) (by decide) (by rw [e2]; exact ⟨_, _, rfl, N1, K2, SZ_b2, V_b2⟩)
set_option maxRecDepth 65536 in
set_option maxHeartbeats 40000000 in
theorem ru11_tob (l : Launch) (Z : State) (a0 : Array Value) (hw : ∀ d ∈ tables_1, d.before a0 Z = true) (b : Addr) (c0 c1 c2 c3 c4 c5 c6 c7 c8 c9 c10 : Int32) (kB : ClassId) (h0 : Heap) (n0 : Nat) (Z0 : n0 ≤ h0.size) (V_b : Arv Z h0 b kB .char (11 : Int32) [(.int c0), (.int c1), (.int c2), (.int c3), (.int c4), (.int c5), (.int c6), (.int c7), (.int c8), (.int c9), (.int c10)] (.int (0 : Int32))) (S_ad : Sta Z h0 "java/lang/StringUTF16" "$assertionsDisabled" "Z" (.int 1)) (S_hi : Sta Z h0 "java/lang/StringUTF16" "HI_BYTE_SHIFT" "I" (.int 0)) (S_lo : Sta Z h0 "java/lang/StringUTF16" "LO_BYTE_SHIFT" "I" (.int 8)) :
    OwnMet l Z (⟨"java/lang/StringUTF16", "toBytes", "([CII)[B"⟩ : MethodName) jdk_52_method_14_code 5 (some (.array .byte)) [] ({ frames := 2, cells := 1, slots := 22, locals := 24 } : Room) [(.ref b), (.int (0 : Int32)), (.int (11 : Int32))] h0 (fun v h L => ∃ (t : Addr) (kT : ClassId), v = some (.ref t) ∧ Fr n0 L ∧ Keep h0 h [] ∧ h0.size ≤ t ∧ Arv Z h t kT .byte (22 : Int32) [(.int (own_lo c0)), (.int (own_hi c0)), (.int (own_lo c1)), (.int (own_hi c1)), (.int (own_lo c2)), (.int (own_hi c2)), (.int (own_lo c3)), (.int (own_hi c3)), (.int (own_lo c4)), (.int (own_hi c4)), (.int (own_lo c5)), (.int (own_hi c5)), (.int (own_lo c6)), (.int (own_hi c6)), (.int (own_lo c7)), (.int (own_hi c7)), (.int (own_lo c8)), (.int (own_hi c8)), (.int (own_lo c9)), (.int (own_hi c9)), (.int (own_lo c10)), (.int (own_hi c10))] (.int (0 : Int32))) := by
  refine own_body (Ls := #[.val (.ref b), .val (.int (0 : Int32)), .val (.int (11 : Int32)), .unset, .unset]) (plainFor_of_name own_pn0) (fun m => by first | (simp [entryFrame, mkF, argsToLocals, Value.category]; done) | rfl) (fun p e s m below meth cO T0 hx hby hml hown hnm hret hlk hZ X0 e0 => ?_)
  have hown : s.vm.findClass "java/lang/StringUTF16" = some m.cls := hown
  have N0 := Fr.nil n0
  have K0 := Keep.refl h0 []
  refine g_iloadN X0 hx 1 (hb hby d11_0) rfl rfl ?_
  refine g_callS X0 hx 4 hZ hown (own_w hw 58 rfl) (own_w hw 59 rfl) (own_w hw 21 rfl) (own_w hw 60 rfl) (by decide) [(.int (11 : Int32))] [] (ru11_nbf l Z a0 hw h0 n0 Z0) e0 0 (by decide) (by decide) (by decide) (by decide) (by rw [hml]; rfl) (lenOf own_pd7 rfl) (hb hby d11_1) rfl (Nat.le_of_eq rfl) rfl (fun v1 T1 L1 X1 hQ1 => ?_)
  obtain ⟨t, kT, rfl, N1q, K1, hst, V_t⟩ := hQ1
  have N1 := Fr.app N0 N1q
  have g_t := Nat.le_trans Z0 hst
  have Z1 := Nat.le_trans Z0 K1.1
  refine g_astoreN X1 hx 5 #[.val (.ref b), .val (.int (0 : Int32)), .val (.int (11 : Int32)), .val (.ref t), .unset] (hb hby d11_4) rfl rfl rfl ?_
  refine g_iconst X1 hx 6 (0 : Int32) (hb hby d11_5) (by decide) rfl ?_
  refine g_istore X1 hx 8 #[.val (.ref b), .val (.int (0 : Int32)), .val (.int (11 : Int32)), .val (.ref t), .val (.int (0 : Int32))] (hb hby d11_6) rfl rfl ?_
  refine g_iload X1 hx 10 (hb hby d11_8) rfl rfl ?_
  refine g_iloadN X1 hx 11 (hb hby d11_10) rfl rfl ?_
  refine g_icF X1 hx 14 (hb hby d11_11) (by decide) rfl ?_
  refine g_aloadN X1 hx 15 (hb hby d11_14) rfl rfl rfl ?_
  refine g_iload X1 hx 17 (hb hby d11_15) rfl rfl ?_
  refine g_aloadN X1 hx 18 (hb hby d11_17) rfl rfl rfl ?_
  refine g_iloadN X1 hx 19 (hb hby d11_18) rfl rfl ?_
  refine g_caload X1 hx 20 hZ rfl (V_b.keep K1 nin0) ⟨by decide, by decide⟩ (show _ = (.int c0) from rfl) (hb hby d11_19) rfl ?_
  refine g_callS X1 hx 23 hZ hown (own_w hw 65 rfl) (own_w hw 66 rfl) (own_w hw 21 rfl) (own_w hw 67 rfl) (by decide) [(.ref t), (.int (0 : Int32)), (.int c0)] [] (ru_put l Z a0 hw t (0 : Int32) (22 : Int32) c0 0 1 22 _ kT T1.heap n0 Z1 g_t V_t (own_sta_keep S_ad K1) (own_sta_keep S_hi K1) (own_sta_keep S_lo K1) (by decide) rfl) rfl 0 (by decide) (by decide) (by decide) (by decide) (by rw [hml]; rfl) (lenOf own_pd8 rfl) (hb hby d11_20) rfl (Nat.le_of_eq rfl) rfl (fun v2 T2 L2 X2 hQ2 => ?_)
  obtain ⟨rfl, N2q, K2, V_t⟩ := hQ2
  have N2 := Fr.app N1 N2q
  have V_t : Arv Z T2.heap t kT .byte (22 : Int32) [(.int (own_lo c0)), (.int (own_hi c0)), (.int (0 : Int32)), (.int (0 : Int32)), (.int (0 : Int32)), (.int (0 : Int32)), (.int (0 : Int32)), (.int (0 : Int32)), (.int (0 : Int32)), (.int (0 : Int32)), (.int (0 : Int32)), (.int (0 : Int32)), (.int (0 : Int32)), (.int (0 : Int32)), (.int (0 : Int32)), (.int (0 : Int32)), (.int (0 : Int32)), (.int (0 : Int32)), (.int (0 : Int32)), (.int (0 : Int32)), (.int (0 : Int32)), (.int (0 : Int32))] (.int (0 : Int32)) := V_t
  have KK2 := K1.trans K2 (allS (Or.inr hst) all0)
  have Z2 := Nat.le_trans Z1 K2.1
  refine g_iinc X2 hx 26 (1 : Int32) #[.val (.ref b), .val (.int (1 : Int32)), .val (.int (11 : Int32)), .val (.ref t), .val (.int (0 : Int32))] (hb hby d11_23) rfl (by decide) rfl rfl ?_
  refine g_iinc X2 hx 29 (1 : Int32) #[.val (.ref b), .val (.int (1 : Int32)), .val (.int (11 : Int32)), .val (.ref t), .val (.int (1 : Int32))] (hb hby d11_26) rfl (by decide) rfl rfl ?_
  refine g_goto X2 hx 8 (hb hby d11_29) (by decide) (by decide) ?_
  refine g_iload X2 hx 10 (hb hby d11_8) rfl rfl ?_
  refine g_iloadN X2 hx 11 (hb hby d11_10) rfl rfl ?_
  refine g_icF X2 hx 14 (hb hby d11_11) (by decide) rfl ?_
  refine g_aloadN X2 hx 15 (hb hby d11_14) rfl rfl rfl ?_
  refine g_iload X2 hx 17 (hb hby d11_15) rfl rfl ?_
  refine g_aloadN X2 hx 18 (hb hby d11_17) rfl rfl rfl ?_
  refine g_iloadN X2 hx 19 (hb hby d11_18) rfl rfl ?_
  refine g_caload X2 hx 20 hZ rfl (V_b.keep KK2 nin0) ⟨by decide, by decide⟩ (show _ = (.int c1) from rfl) (hb hby d11_19) rfl ?_
  refine g_callS X2 hx 23 hZ hown (own_w hw 65 rfl) (own_w hw 66 rfl) (own_w hw 21 rfl) (own_w hw 67 rfl) (by decide) [(.ref t), (.int (1 : Int32)), (.int c1)] [] (ru_put l Z a0 hw t (1 : Int32) (22 : Int32) c1 2 3 22 _ kT T2.heap n0 Z2 g_t V_t (own_sta_keep S_ad KK2) (own_sta_keep S_hi KK2) (own_sta_keep S_lo KK2) (by decide) rfl) rfl 0 (by decide) (by decide) (by decide) (by decide) (by rw [hml]; rfl) (lenOf own_pd8 rfl) (hb hby d11_20) rfl (Nat.le_of_eq rfl) rfl (fun v3 T3 L3 X3 hQ3 => ?_)
  obtain ⟨rfl, N3q, K3, V_t⟩ := hQ3
  have N3 := Fr.app N2 N3q
  have V_t : Arv Z T3.heap t kT .byte (22 : Int32) [(.int (own_lo c0)), (.int (own_hi c0)), (.int (own_lo c1)), (.int (own_hi c1)), (.int (0 : Int32)), (.int (0 : Int32)), (.int (0 : Int32)), (.int (0 : Int32)), (.int (0 : Int32)), (.int (0 : Int32)), (.int (0 : Int32)), (.int (0 : Int32)), (.int (0 : Int32)), (.int (0 : Int32)), (.int (0 : Int32)), (.int (0 : Int32)), (.int (0 : Int32)), (.int (0 : Int32)), (.int (0 : Int32)), (.int (0 : Int32)), (.int (0 : Int32)), (.int (0 : Int32))] (.int (0 : Int32)) := V_t
  have KK3 := KK2.trans K3 (allS (Or.inr hst) all0)
  have Z3 := Nat.le_trans Z2 K3.1
  refine g_iinc X3 hx 26 (2 : Int32) #[.val (.ref b), .val (.int (2 : Int32)), .val (.int (11 : Int32)), .val (.ref t), .val (.int (1 : Int32))] (hb hby d11_23) rfl (by decide) rfl rfl ?_
  refine g_iinc X3 hx 29 (2 : Int32) #[.val (.ref b), .val (.int (2 : Int32)), .val (.int (11 : Int32)), .val (.ref t), .val (.int (2 : Int32))] (hb hby d11_26) rfl (by decide) rfl rfl ?_
  refine g_goto X3 hx 8 (hb hby d11_29) (by decide) (by decide) ?_
  refine g_iload X3 hx 10 (hb hby d11_8) rfl rfl ?_
  refine g_iloadN X3 hx 11 (hb hby d11_10) rfl rfl ?_
  refine g_icF X3 hx 14 (hb hby d11_11) (by decide) rfl ?_
  refine g_aloadN X3 hx 15 (hb hby d11_14) rfl rfl rfl ?_
  refine g_iload X3 hx 17 (hb hby d11_15) rfl rfl ?_
  refine g_aloadN X3 hx 18 (hb hby d11_17) rfl rfl rfl ?_
  refine g_iloadN X3 hx 19 (hb hby d11_18) rfl rfl ?_
  refine g_caload X3 hx 20 hZ rfl (V_b.keep KK3 nin0) ⟨by decide, by decide⟩ (show _ = (.int c2) from rfl) (hb hby d11_19) rfl ?_
  refine g_callS X3 hx 23 hZ hown (own_w hw 65 rfl) (own_w hw 66 rfl) (own_w hw 21 rfl) (own_w hw 67 rfl) (by decide) [(.ref t), (.int (2 : Int32)), (.int c2)] [] (ru_put l Z a0 hw t (2 : Int32) (22 : Int32) c2 4 5 22 _ kT T3.heap n0 Z3 g_t V_t (own_sta_keep S_ad KK3) (own_sta_keep S_hi KK3) (own_sta_keep S_lo KK3) (by decide) rfl) rfl 0 (by decide) (by decide) (by decide) (by decide) (by rw [hml]; rfl) (lenOf own_pd8 rfl) (hb hby d11_20) rfl (Nat.le_of_eq rfl) rfl (fun v4 T4 L4 X4 hQ4 => ?_)
  obtain ⟨rfl, N4q, K4, V_t⟩ := hQ4
  have N4 := Fr.app N3 N4q
  have V_t : Arv Z T4.heap t kT .byte (22 : Int32) [(.int (own_lo c0)), (.int (own_hi c0)), (.int (own_lo c1)), (.int (own_hi c1)), (.int (own_lo c2)), (.int (own_hi c2)), (.int (0 : Int32)), (.int (0 : Int32)), (.int (0 : Int32)), (.int (0 : Int32)), (.int (0 : Int32)), (.int (0 : Int32)), (.int (0 : Int32)), (.int (0 : Int32)), (.int (0 : Int32)), (.int (0 : Int32)), (.int (0 : Int32)), (.int (0 : Int32)), (.int (0 : Int32)), (.int (0 : Int32)), (.int (0 : Int32)), (.int (0 : Int32))] (.int (0 : Int32)) := V_t
  have KK4 := KK3.trans K4 (allS (Or.inr hst) all0)
  have Z4 := Nat.le_trans Z3 K4.1
  refine g_iinc X4 hx 26 (3 : Int32) #[.val (.ref b), .val (.int (3 : Int32)), .val (.int (11 : Int32)), .val (.ref t), .val (.int (2 : Int32))] (hb hby d11_23) rfl (by decide) rfl rfl ?_
  refine g_iinc X4 hx 29 (3 : Int32) #[.val (.ref b), .val (.int (3 : Int32)), .val (.int (11 : Int32)), .val (.ref t), .val (.int (3 : Int32))] (hb hby d11_26) rfl (by decide) rfl rfl ?_
  refine g_goto X4 hx 8 (hb hby d11_29) (by decide) (by decide) ?_
  refine g_iload X4 hx 10 (hb hby d11_8) rfl rfl ?_
  refine g_iloadN X4 hx 11 (hb hby d11_10) rfl rfl ?_
  refine g_icF X4 hx 14 (hb hby d11_11) (by decide) rfl ?_
  refine g_aloadN X4 hx 15 (hb hby d11_14) rfl rfl rfl ?_
  refine g_iload X4 hx 17 (hb hby d11_15) rfl rfl ?_
  refine g_aloadN X4 hx 18 (hb hby d11_17) rfl rfl rfl ?_
  refine g_iloadN X4 hx 19 (hb hby d11_18) rfl rfl ?_
  refine g_caload X4 hx 20 hZ rfl (V_b.keep KK4 nin0) ⟨by decide, by decide⟩ (show _ = (.int c3) from rfl) (hb hby d11_19) rfl ?_
  refine g_callS X4 hx 23 hZ hown (own_w hw 65 rfl) (own_w hw 66 rfl) (own_w hw 21 rfl) (own_w hw 67 rfl) (by decide) [(.ref t), (.int (3 : Int32)), (.int c3)] [] (ru_put l Z a0 hw t (3 : Int32) (22 : Int32) c3 6 7 22 _ kT T4.heap n0 Z4 g_t V_t (own_sta_keep S_ad KK4) (own_sta_keep S_hi KK4) (own_sta_keep S_lo KK4) (by decide) rfl) rfl 0 (by decide) (by decide) (by decide) (by decide) (by rw [hml]; rfl) (lenOf own_pd8 rfl) (hb hby d11_20) rfl (Nat.le_of_eq rfl) rfl (fun v5 T5 L5 X5 hQ5 => ?_)
  obtain ⟨rfl, N5q, K5, V_t⟩ := hQ5
  have N5 := Fr.app N4 N5q
  have V_t : Arv Z T5.heap t kT .byte (22 : Int32) [(.int (own_lo c0)), (.int (own_hi c0)), (.int (own_lo c1)), (.int (own_hi c1)), (.int (own_lo c2)), (.int (own_hi c2)), (.int (own_lo c3)), (.int (own_hi c3)), (.int (0 : Int32)), (.int (0 : Int32)), (.int (0 : Int32)), (.int (0 : Int32)), (.int (0 : Int32)), (.int (0 : Int32)), (.int (0 : Int32)), (.int (0 : Int32)), (.int (0 : Int32)), (.int (0 : Int32)), (.int (0 : Int32)), (.int (0 : Int32)), (.int (0 : Int32)), (.int (0 : Int32))] (.int (0 : Int32)) := V_t
  have KK5 := KK4.trans K5 (allS (Or.inr hst) all0)
  have Z5 := Nat.le_trans Z4 K5.1
  refine g_iinc X5 hx 26 (4 : Int32) #[.val (.ref b), .val (.int (4 : Int32)), .val (.int (11 : Int32)), .val (.ref t), .val (.int (3 : Int32))] (hb hby d11_23) rfl (by decide) rfl rfl ?_
  refine g_iinc X5 hx 29 (4 : Int32) #[.val (.ref b), .val (.int (4 : Int32)), .val (.int (11 : Int32)), .val (.ref t), .val (.int (4 : Int32))] (hb hby d11_26) rfl (by decide) rfl rfl ?_
  refine g_goto X5 hx 8 (hb hby d11_29) (by decide) (by decide) ?_
  refine g_iload X5 hx 10 (hb hby d11_8) rfl rfl ?_
  refine g_iloadN X5 hx 11 (hb hby d11_10) rfl rfl ?_
  refine g_icF X5 hx 14 (hb hby d11_11) (by decide) rfl ?_
  refine g_aloadN X5 hx 15 (hb hby d11_14) rfl rfl rfl ?_
  refine g_iload X5 hx 17 (hb hby d11_15) rfl rfl ?_
  refine g_aloadN X5 hx 18 (hb hby d11_17) rfl rfl rfl ?_
  refine g_iloadN X5 hx 19 (hb hby d11_18) rfl rfl ?_
  refine g_caload X5 hx 20 hZ rfl (V_b.keep KK5 nin0) ⟨by decide, by decide⟩ (show _ = (.int c4) from rfl) (hb hby d11_19) rfl ?_
  refine g_callS X5 hx 23 hZ hown (own_w hw 65 rfl) (own_w hw 66 rfl) (own_w hw 21 rfl) (own_w hw 67 rfl) (by decide) [(.ref t), (.int (4 : Int32)), (.int c4)] [] (ru_put l Z a0 hw t (4 : Int32) (22 : Int32) c4 8 9 22 _ kT T5.heap n0 Z5 g_t V_t (own_sta_keep S_ad KK5) (own_sta_keep S_hi KK5) (own_sta_keep S_lo KK5) (by decide) rfl) rfl 0 (by decide) (by decide) (by decide) (by decide) (by rw [hml]; rfl) (lenOf own_pd8 rfl) (hb hby d11_20) rfl (Nat.le_of_eq rfl) rfl (fun v6 T6 L6 X6 hQ6 => ?_)
  obtain ⟨rfl, N6q, K6, V_t⟩ := hQ6
  have N6 := Fr.app N5 N6q
  have V_t : Arv Z T6.heap t kT .byte (22 : Int32) [(.int (own_lo c0)), (.int (own_hi c0)), (.int (own_lo c1)), (.int (own_hi c1)), (.int (own_lo c2)), (.int (own_hi c2)), (.int (own_lo c3)), (.int (own_hi c3)), (.int (own_lo c4)), (.int (own_hi c4)), (.int (0 : Int32)), (.int (0 : Int32)), (.int (0 : Int32)), (.int (0 : Int32)), (.int (0 : Int32)), (.int (0 : Int32)), (.int (0 : Int32)), (.int (0 : Int32)), (.int (0 : Int32)), (.int (0 : Int32)), (.int (0 : Int32)), (.int (0 : Int32))] (.int (0 : Int32)) := V_t
  have KK6 := KK5.trans K6 (allS (Or.inr hst) all0)
  have Z6 := Nat.le_trans Z5 K6.1
  refine g_iinc X6 hx 26 (5 : Int32) #[.val (.ref b), .val (.int (5 : Int32)), .val (.int (11 : Int32)), .val (.ref t), .val (.int (4 : Int32))] (hb hby d11_23) rfl (by decide) rfl rfl ?_
  refine g_iinc X6 hx 29 (5 : Int32) #[.val (.ref b), .val (.int (5 : Int32)), .val (.int (11 : Int32)), .val (.ref t), .val (.int (5 : Int32))] (hb hby d11_26) rfl (by decide) rfl rfl ?_
  refine g_goto X6 hx 8 (hb hby d11_29) (by decide) (by decide) ?_
  refine g_iload X6 hx 10 (hb hby d11_8) rfl rfl ?_
  refine g_iloadN X6 hx 11 (hb hby d11_10) rfl rfl ?_
  refine g_icF X6 hx 14 (hb hby d11_11) (by decide) rfl ?_
  refine g_aloadN X6 hx 15 (hb hby d11_14) rfl rfl rfl ?_
  refine g_iload X6 hx 17 (hb hby d11_15) rfl rfl ?_
  refine g_aloadN X6 hx 18 (hb hby d11_17) rfl rfl rfl ?_
  refine g_iloadN X6 hx 19 (hb hby d11_18) rfl rfl ?_
  refine g_caload X6 hx 20 hZ rfl (V_b.keep KK6 nin0) ⟨by decide, by decide⟩ (show _ = (.int c5) from rfl) (hb hby d11_19) rfl ?_
  refine g_callS X6 hx 23 hZ hown (own_w hw 65 rfl) (own_w hw 66 rfl) (own_w hw 21 rfl) (own_w hw 67 rfl) (by decide) [(.ref t), (.int (5 : Int32)), (.int c5)] [] (ru_put l Z a0 hw t (5 : Int32) (22 : Int32) c5 10 11 22 _ kT T6.heap n0 Z6 g_t V_t (own_sta_keep S_ad KK6) (own_sta_keep S_hi KK6) (own_sta_keep S_lo KK6) (by decide) rfl) rfl 0 (by decide) (by decide) (by decide) (by decide) (by rw [hml]; rfl) (lenOf own_pd8 rfl) (hb hby d11_20) rfl (Nat.le_of_eq rfl) rfl (fun v7 T7 L7 X7 hQ7 => ?_)
  obtain ⟨rfl, N7q, K7, V_t⟩ := hQ7
  have N7 := Fr.app N6 N7q
  have V_t : Arv Z T7.heap t kT .byte (22 : Int32) [(.int (own_lo c0)), (.int (own_hi c0)), (.int (own_lo c1)), (.int (own_hi c1)), (.int (own_lo c2)), (.int (own_hi c2)), (.int (own_lo c3)), (.int (own_hi c3)), (.int (own_lo c4)), (.int (own_hi c4)), (.int (own_lo c5)), (.int (own_hi c5)), (.int (0 : Int32)), (.int (0 : Int32)), (.int (0 : Int32)), (.int (0 : Int32)), (.int (0 : Int32)), (.int (0 : Int32)), (.int (0 : Int32)), (.int (0 : Int32)), (.int (0 : Int32)), (.int (0 : Int32))] (.int (0 : Int32)) := V_t
  have KK7 := KK6.trans K7 (allS (Or.inr hst) all0)
  have Z7 := Nat.le_trans Z6 K7.1
  refine g_iinc X7 hx 26 (6 : Int32) #[.val (.ref b), .val (.int (6 : Int32)), .val (.int (11 : Int32)), .val (.ref t), .val (.int (5 : Int32))] (hb hby d11_23) rfl (by decide) rfl rfl ?_
  refine g_iinc X7 hx 29 (6 : Int32) #[.val (.ref b), .val (.int (6 : Int32)), .val (.int (11 : Int32)), .val (.ref t), .val (.int (6 : Int32))] (hb hby d11_26) rfl (by decide) rfl rfl ?_
  refine g_goto X7 hx 8 (hb hby d11_29) (by decide) (by decide) ?_
  refine g_iload X7 hx 10 (hb hby d11_8) rfl rfl ?_
  refine g_iloadN X7 hx 11 (hb hby d11_10) rfl rfl ?_
  refine g_icF X7 hx 14 (hb hby d11_11) (by decide) rfl ?_
  refine g_aloadN X7 hx 15 (hb hby d11_14) rfl rfl rfl ?_
  refine g_iload X7 hx 17 (hb hby d11_15) rfl rfl ?_
  refine g_aloadN X7 hx 18 (hb hby d11_17) rfl rfl rfl ?_
  refine g_iloadN X7 hx 19 (hb hby d11_18) rfl rfl ?_
  refine g_caload X7 hx 20 hZ rfl (V_b.keep KK7 nin0) ⟨by decide, by decide⟩ (show _ = (.int c6) from rfl) (hb hby d11_19) rfl ?_
  refine g_callS X7 hx 23 hZ hown (own_w hw 65 rfl) (own_w hw 66 rfl) (own_w hw 21 rfl) (own_w hw 67 rfl) (by decide) [(.ref t), (.int (6 : Int32)), (.int c6)] [] (ru_put l Z a0 hw t (6 : Int32) (22 : Int32) c6 12 13 22 _ kT T7.heap n0 Z7 g_t V_t (own_sta_keep S_ad KK7) (own_sta_keep S_hi KK7) (own_sta_keep S_lo KK7) (by decide) rfl) rfl 0 (by decide) (by decide) (by decide) (by decide) (by rw [hml]; rfl) (lenOf own_pd8 rfl) (hb hby d11_20) rfl (Nat.le_of_eq rfl) rfl (fun v8 T8 L8 X8 hQ8 => ?_)
  obtain ⟨rfl, N8q, K8, V_t⟩ := hQ8
  have N8 := Fr.app N7 N8q
  have V_t : Arv Z T8.heap t kT .byte (22 : Int32) [(.int (own_lo c0)), (.int (own_hi c0)), (.int (own_lo c1)), (.int (own_hi c1)), (.int (own_lo c2)), (.int (own_hi c2)), (.int (own_lo c3)), (.int (own_hi c3)), (.int (own_lo c4)), (.int (own_hi c4)), (.int (own_lo c5)), (.int (own_hi c5)), (.int (own_lo c6)), (.int (own_hi c6)), (.int (0 : Int32)), (.int (0 : Int32)), (.int (0 : Int32)), (.int (0 : Int32)), (.int (0 : Int32)), (.int (0 : Int32)), (.int (0 : Int32)), (.int (0 : Int32))] (.int (0 : Int32)) := V_t
  have KK8 := KK7.trans K8 (allS (Or.inr hst) all0)
  have Z8 := Nat.le_trans Z7 K8.1
  refine g_iinc X8 hx 26 (7 : Int32) #[.val (.ref b), .val (.int (7 : Int32)), .val (.int (11 : Int32)), .val (.ref t), .val (.int (6 : Int32))] (hb hby d11_23) rfl (by decide) rfl rfl ?_
  refine g_iinc X8 hx 29 (7 : Int32) #[.val (.ref b), .val (.int (7 : Int32)), .val (.int (11 : Int32)), .val (.ref t), .val (.int (7 : Int32))] (hb hby d11_26) rfl (by decide) rfl rfl ?_
  refine g_goto X8 hx 8 (hb hby d11_29) (by decide) (by decide) ?_
  refine g_iload X8 hx 10 (hb hby d11_8) rfl rfl ?_
  refine g_iloadN X8 hx 11 (hb hby d11_10) rfl rfl ?_
  refine g_icF X8 hx 14 (hb hby d11_11) (by decide) rfl ?_
  refine g_aloadN X8 hx 15 (hb hby d11_14) rfl rfl rfl ?_
  refine g_iload X8 hx 17 (hb hby d11_15) rfl rfl ?_
  refine g_aloadN X8 hx 18 (hb hby d11_17) rfl rfl rfl ?_
  refine g_iloadN X8 hx 19 (hb hby d11_18) rfl rfl ?_
  refine g_caload X8 hx 20 hZ rfl (V_b.keep KK8 nin0) ⟨by decide, by decide⟩ (show _ = (.int c7) from rfl) (hb hby d11_19) rfl ?_
  refine g_callS X8 hx 23 hZ hown (own_w hw 65 rfl) (own_w hw 66 rfl) (own_w hw 21 rfl) (own_w hw 67 rfl) (by decide) [(.ref t), (.int (7 : Int32)), (.int c7)] [] (ru_put l Z a0 hw t (7 : Int32) (22 : Int32) c7 14 15 22 _ kT T8.heap n0 Z8 g_t V_t (own_sta_keep S_ad KK8) (own_sta_keep S_hi KK8) (own_sta_keep S_lo KK8) (by decide) rfl) rfl 0 (by decide) (by decide) (by decide) (by decide) (by rw [hml]; rfl) (lenOf own_pd8 rfl) (hb hby d11_20) rfl (Nat.le_of_eq rfl) rfl (fun v9 T9 L9 X9 hQ9 => ?_)
  obtain ⟨rfl, N9q, K9, V_t⟩ := hQ9
  have N9 := Fr.app N8 N9q
  have V_t : Arv Z T9.heap t kT .byte (22 : Int32) [(.int (own_lo c0)), (.int (own_hi c0)), (.int (own_lo c1)), (.int (own_hi c1)), (.int (own_lo c2)), (.int (own_hi c2)), (.int (own_lo c3)), (.int (own_hi c3)), (.int (own_lo c4)), (.int (own_hi c4)), (.int (own_lo c5)), (.int (own_hi c5)), (.int (own_lo c6)), (.int (own_hi c6)), (.int (own_lo c7)), (.int (own_hi c7)), (.int (0 : Int32)), (.int (0 : Int32)), (.int (0 : Int32)), (.int (0 : Int32)), (.int (0 : Int32)), (.int (0 : Int32))] (.int (0 : Int32)) := V_t
  have KK9 := KK8.trans K9 (allS (Or.inr hst) all0)
  have Z9 := Nat.le_trans Z8 K9.1
  refine g_iinc X9 hx 26 (8 : Int32) #[.val (.ref b), .val (.int (8 : Int32)), .val (.int (11 : Int32)), .val (.ref t), .val (.int (7 : Int32))] (hb hby d11_23) rfl (by decide) rfl rfl ?_
  refine g_iinc X9 hx 29 (8 : Int32) #[.val (.ref b), .val (.int (8 : Int32)), .val (.int (11 : Int32)), .val (.ref t), .val (.int (8 : Int32))] (hb hby d11_26) rfl (by decide) rfl rfl ?_
  refine g_goto X9 hx 8 (hb hby d11_29) (by decide) (by decide) ?_
  refine g_iload X9 hx 10 (hb hby d11_8) rfl rfl ?_
  refine g_iloadN X9 hx 11 (hb hby d11_10) rfl rfl ?_
  refine g_icF X9 hx 14 (hb hby d11_11) (by decide) rfl ?_
  refine g_aloadN X9 hx 15 (hb hby d11_14) rfl rfl rfl ?_
  refine g_iload X9 hx 17 (hb hby d11_15) rfl rfl ?_
  refine g_aloadN X9 hx 18 (hb hby d11_17) rfl rfl rfl ?_
  refine g_iloadN X9 hx 19 (hb hby d11_18) rfl rfl ?_
  refine g_caload X9 hx 20 hZ rfl (V_b.keep KK9 nin0) ⟨by decide, by decide⟩ (show _ = (.int c8) from rfl) (hb hby d11_19) rfl ?_
  refine g_callS X9 hx 23 hZ hown (own_w hw 65 rfl) (own_w hw 66 rfl) (own_w hw 21 rfl) (own_w hw 67 rfl) (by decide) [(.ref t), (.int (8 : Int32)), (.int c8)] [] (ru_put l Z a0 hw t (8 : Int32) (22 : Int32) c8 16 17 22 _ kT T9.heap n0 Z9 g_t V_t (own_sta_keep S_ad KK9) (own_sta_keep S_hi KK9) (own_sta_keep S_lo KK9) (by decide) rfl) rfl 0 (by decide) (by decide) (by decide) (by decide) (by rw [hml]; rfl) (lenOf own_pd8 rfl) (hb hby d11_20) rfl (Nat.le_of_eq rfl) rfl (fun v10 T10 L10 X10 hQ10 => ?_)
  obtain ⟨rfl, N10q, K10, V_t⟩ := hQ10
  have N10 := Fr.app N9 N10q
  have V_t : Arv Z T10.heap t kT .byte (22 : Int32) [(.int (own_lo c0)), (.int (own_hi c0)), (.int (own_lo c1)), (.int (own_hi c1)), (.int (own_lo c2)), (.int (own_hi c2)), (.int (own_lo c3)), (.int (own_hi c3)), (.int (own_lo c4)), (.int (own_hi c4)), (.int (own_lo c5)), (.int (own_hi c5)), (.int (own_lo c6)), (.int (own_hi c6)), (.int (own_lo c7)), (.int (own_hi c7)), (.int (own_lo c8)), (.int (own_hi c8)), (.int (0 : Int32)), (.int (0 : Int32)), (.int (0 : Int32)), (.int (0 : Int32))] (.int (0 : Int32)) := V_t
  have KK10 := KK9.trans K10 (allS (Or.inr hst) all0)
  have Z10 := Nat.le_trans Z9 K10.1
  refine g_iinc X10 hx 26 (9 : Int32) #[.val (.ref b), .val (.int (9 : Int32)), .val (.int (11 : Int32)), .val (.ref t), .val (.int (8 : Int32))] (hb hby d11_23) rfl (by decide) rfl rfl ?_
  refine g_iinc X10 hx 29 (9 : Int32) #[.val (.ref b), .val (.int (9 : Int32)), .val (.int (11 : Int32)), .val (.ref t), .val (.int (9 : Int32))] (hb hby d11_26) rfl (by decide) rfl rfl ?_
  refine g_goto X10 hx 8 (hb hby d11_29) (by decide) (by decide) ?_
  refine g_iload X10 hx 10 (hb hby d11_8) rfl rfl ?_
  refine g_iloadN X10 hx 11 (hb hby d11_10) rfl rfl ?_
  refine g_icF X10 hx 14 (hb hby d11_11) (by decide) rfl ?_
  refine g_aloadN X10 hx 15 (hb hby d11_14) rfl rfl rfl ?_
  refine g_iload X10 hx 17 (hb hby d11_15) rfl rfl ?_
  refine g_aloadN X10 hx 18 (hb hby d11_17) rfl rfl rfl ?_
  refine g_iloadN X10 hx 19 (hb hby d11_18) rfl rfl ?_
  refine g_caload X10 hx 20 hZ rfl (V_b.keep KK10 nin0) ⟨by decide, by decide⟩ (show _ = (.int c9) from rfl) (hb hby d11_19) rfl ?_
  refine g_callS X10 hx 23 hZ hown (own_w hw 65 rfl) (own_w hw 66 rfl) (own_w hw 21 rfl) (own_w hw 67 rfl) (by decide) [(.ref t), (.int (9 : Int32)), (.int c9)] [] (ru_put l Z a0 hw t (9 : Int32) (22 : Int32) c9 18 19 22 _ kT T10.heap n0 Z10 g_t V_t (own_sta_keep S_ad KK10) (own_sta_keep S_hi KK10) (own_sta_keep S_lo KK10) (by decide) rfl) rfl 0 (by decide) (by decide) (by decide) (by decide) (by rw [hml]; rfl) (lenOf own_pd8 rfl) (hb hby d11_20) rfl (Nat.le_of_eq rfl) rfl (fun v11 T11 L11 X11 hQ11 => ?_)
  obtain ⟨rfl, N11q, K11, V_t⟩ := hQ11
  have N11 := Fr.app N10 N11q
  have V_t : Arv Z T11.heap t kT .byte (22 : Int32) [(.int (own_lo c0)), (.int (own_hi c0)), (.int (own_lo c1)), (.int (own_hi c1)), (.int (own_lo c2)), (.int (own_hi c2)), (.int (own_lo c3)), (.int (own_hi c3)), (.int (own_lo c4)), (.int (own_hi c4)), (.int (own_lo c5)), (.int (own_hi c5)), (.int (own_lo c6)), (.int (own_hi c6)), (.int (own_lo c7)), (.int (own_hi c7)), (.int (own_lo c8)), (.int (own_hi c8)), (.int (own_lo c9)), (.int (own_hi c9)), (.int (0 : Int32)), (.int (0 : Int32))] (.int (0 : Int32)) := V_t
  have KK11 := KK10.trans K11 (allS (Or.inr hst) all0)
  have Z11 := Nat.le_trans Z10 K11.1
  refine g_iinc X11 hx 26 (10 : Int32) #[.val (.ref b), .val (.int (10 : Int32)), .val (.int (11 : Int32)), .val (.ref t), .val (.int (9 : Int32))] (hb hby d11_23) rfl (by decide) rfl rfl ?_
  refine g_iinc X11 hx 29 (10 : Int32) #[.val (.ref b), .val (.int (10 : Int32)), .val (.int (11 : Int32)), .val (.ref t), .val (.int (10 : Int32))] (hb hby d11_26) rfl (by decide) rfl rfl ?_
  refine g_goto X11 hx 8 (hb hby d11_29) (by decide) (by decide) ?_
  refine g_iload X11 hx 10 (hb hby d11_8) rfl rfl ?_
  refine g_iloadN X11 hx 11 (hb hby d11_10) rfl rfl ?_
  refine g_icF X11 hx 14 (hb hby d11_11) (by decide) rfl ?_
  refine g_aloadN X11 hx 15 (hb hby d11_14) rfl rfl rfl ?_
  refine g_iload X11 hx 17 (hb hby d11_15) rfl rfl ?_
  refine g_aloadN X11 hx 18 (hb hby d11_17) rfl rfl rfl ?_
  refine g_iloadN X11 hx 19 (hb hby d11_18) rfl rfl ?_
  refine g_caload X11 hx 20 hZ rfl (V_b.keep KK11 nin0) ⟨by decide, by decide⟩ (show _ = (.int c10) from rfl) (hb hby d11_19) rfl ?_
  refine g_callS X11 hx 23 hZ hown (own_w hw 65 rfl) (own_w hw 66 rfl) (own_w hw 21 rfl) (own_w hw 67 rfl) (by decide) [(.ref t), (.int (10 : Int32)), (.int c10)] [] (ru_put l Z a0 hw t (10 : Int32) (22 : Int32) c10 20 21 22 _ kT T11.heap n0 Z11 g_t V_t (own_sta_keep S_ad KK11) (own_sta_keep S_hi KK11) (own_sta_keep S_lo KK11) (by decide) rfl) rfl 0 (by decide) (by decide) (by decide) (by decide) (by rw [hml]; rfl) (lenOf own_pd8 rfl) (hb hby d11_20) rfl (Nat.le_of_eq rfl) rfl (fun v12 T12 L12 X12 hQ12 => ?_)
  obtain ⟨rfl, N12q, K12, V_t⟩ := hQ12
  have N12 := Fr.app N11 N12q
  have V_t : Arv Z T12.heap t kT .byte (22 : Int32) [(.int (own_lo c0)), (.int (own_hi c0)), (.int (own_lo c1)), (.int (own_hi c1)), (.int (own_lo c2)), (.int (own_hi c2)), (.int (own_lo c3)), (.int (own_hi c3)), (.int (own_lo c4)), (.int (own_hi c4)), (.int (own_lo c5)), (.int (own_hi c5)), (.int (own_lo c6)), (.int (own_hi c6)), (.int (own_lo c7)), (.int (own_hi c7)), (.int (own_lo c8)), (.int (own_hi c8)), (.int (own_lo c9)), (.int (own_hi c9)), (.int (own_lo c10)), (.int (own_hi c10))] (.int (0 : Int32)) := V_t
  have KK12 := KK11.trans K12 (allS (Or.inr hst) all0)
  have Z12 := Nat.le_trans Z11 K12.1
  refine g_iinc X12 hx 26 (11 : Int32) #[.val (.ref b), .val (.int (11 : Int32)), .val (.int (11 : Int32)), .val (.ref t), .val (.int (10 : Int32))] (hb hby d11_23) rfl (by decide) rfl rfl ?_
  refine g_iinc X12 hx 29 (11 : Int32) #[.val (.ref b), .val (.int (11 : Int32)), .val (.int (11 : Int32)), .val (.ref t), .val (.int (11 : Int32))] (hb hby d11_26) rfl (by decide) rfl rfl ?_
  refine g_goto X12 hx 8 (hb hby d11_29) (by decide) (by decide) ?_
  refine g_iload X12 hx 10 (hb hby d11_8) rfl rfl ?_
  refine g_iloadN X12 hx 11 (hb hby d11_10) rfl rfl ?_
  refine g_icT X12 hx 32 (hb hby d11_11) (by decide) (by decide) (by decide) ?_
  refine g_aloadN X12 hx 33 (hb hby d11_32) rfl rfl rfl ?_
  exact g_retA X12 hx hret hlk rfl rfl rfl (hb hby d11_33) (by decide) (by decide) ⟨t, kT, rfl, N12, KK12, hst, V_t⟩
set_option maxRecDepth 65536 in
set_option maxHeartbeats 40000000 in
theorem ru11_coder (l : Launch) (Z : State) (a0 : Array Value) (hw : ∀ d ∈ tables_1, d.before a0 Z = true) (t : Addr) (kT : ClassId) (vs : List Value) (h0 : Heap) (n0 : Nat) (Z0 : n0 ≤ h0.size) (V_t : Arv Z h0 t kT .byte (22 : Int32) vs (.int (0 : Int32))) :
    OwnMet l Z (⟨"java/lang/StringUTF16", "coderFromArrayLen", "([BI)B"⟩ : MethodName) jdk_52_method_15_code 2 (some .byte) [] ({ frames := 0, cells := 0, slots := 0, locals := 0 } : Room) [(.ref t), (.int (11 : Int32))] h0 (fun v h L => v = some (.int 1) ∧ Fr n0 L ∧ h = h0) := by
  refine own_body (Ls := #[.val (.ref t), .val (.int (11 : Int32))]) (plainFor_of_name own_pn0) (fun m => by first | (simp [entryFrame, mkF, argsToLocals, Value.category]; done) | rfl) (fun p e s m below meth cO T0 hx hby hml hown hnm hret hlk hZ X0 e0 => ?_)
  have hown : s.vm.findClass "java/lang/StringUTF16" = some m.cls := hown
  have N0 := Fr.nil n0
  refine g_iloadN X0 hx 1 (hb hby d7_0) rfl rfl ?_
  refine g_aloadN X0 hx 2 (hb hby d7_1) rfl rfl rfl ?_
  refine g_arraylength X0 hx 3 hZ e0 V_t (hb hby d7_2) rfl ?_
  refine g_isub X0 hx 4 (-11 : Int32) (hb hby d7_3) (by decide) rfl ?_
  refine g_bipush X0 hx 6 (31 : Int32) (hb hby d7_4) (by decide) rfl ?_
  refine g_iushr X0 hx 7 (1 : Int32) (hb hby d7_6) (by decide) rfl ?_
  refine g_i2b X0 hx 8 (1 : Int32) (hb hby d7_7) (by decide) rfl ?_
  exact g_retB X0 hx hret hlk rfl (hb hby d7_8) (by decide) (by decide) ⟨rfl, N0, e0⟩
set_option maxRecDepth 65536 in
set_option maxHeartbeats 40000000 in
theorem ru12_nbl (l : Launch) (Z : State) (a0 : Array Value) (hw : ∀ d ∈ tables_1, d.before a0 Z = true)  (h0 : Heap) (n0 : Nat) (Z0 : n0 ≤ h0.size)  :
    OwnMet l Z (⟨"java/lang/StringUTF16", "newBytesLength", "(I)I"⟩ : MethodName) jdk_52_method_3_code 1 (some .int) [] ({ frames := 0, cells := 0, slots := 0, locals := 0 } : Room) [(.int (12 : Int32))] h0 (fun v h L => v = some (.int (24 : Int32)) ∧ Fr n0 L ∧ h = h0) := by
  refine own_body (Ls := #[.val (.int (12 : Int32))]) (plainFor_of_name own_pn0) (fun m => by first | (simp [entryFrame, mkF, argsToLocals, Value.category]; done) | rfl) (fun p e s m below meth cO T0 hx hby hml hown hnm hret hlk hZ X0 e0 => ?_)
  have hown : s.vm.findClass "java/lang/StringUTF16" = some m.cls := hown
  have N0 := Fr.nil n0
  refine g_iloadN X0 hx 1 (hb hby d13_0) rfl rfl ?_
  refine g_ifT X0 hx 12 (hb hby d13_1) (by decide) (by decide) (by decide) ?_
  refine g_iloadN X0 hx 13 (hb hby d13_12) rfl rfl ?_
  refine g_ldcI X0 hx 15 hZ hown (own_w hw 64 rfl) (hb hby d13_13) rfl ?_
  refine g_icT X0 hx 55 (hb hby d13_15) (by decide) (by decide) (by decide) ?_
  refine g_iloadN X0 hx 56 (hb hby d13_55) rfl rfl ?_
  refine g_iconst X0 hx 57 (1 : Int32) (hb hby d13_56) (by decide) rfl ?_
  refine g_ishl X0 hx 58 (24 : Int32) (hb hby d13_57) (by decide) rfl ?_
  exact g_retI X0 hx hret hlk (hb hby d13_58) (by decide) (by decide) ⟨rfl, N0, e0⟩
set_option maxRecDepth 65536 in
set_option maxHeartbeats 40000000 in
theorem ru12_nbf (l : Launch) (Z : State) (a0 : Array Value) (hw : ∀ d ∈ tables_1, d.before a0 Z = true)  (h0 : Heap) (n0 : Nat) (Z0 : n0 ≤ h0.size)  :
    OwnMet l Z (⟨"java/lang/StringUTF16", "newBytesFor", "(I)[B"⟩ : MethodName) jdk_52_method_2_code 1 (some (.array .byte)) [] ({ frames := 1, cells := 1, slots := 24, locals := 12 } : Room) [(.int (12 : Int32))] h0 (fun v h L => ∃ (t : Addr) (kT : ClassId), v = some (.ref t) ∧ Fr n0 L ∧ Keep h0 h [] ∧ h0.size ≤ t ∧ Arv Z h t kT .byte (24 : Int32) [(.int (0 : Int32)), (.int (0 : Int32)), (.int (0 : Int32)), (.int (0 : Int32)), (.int (0 : Int32)), (.int (0 : Int32)), (.int (0 : Int32)), (.int (0 : Int32)), (.int (0 : Int32)), (.int (0 : Int32)), (.int (0 : Int32)), (.int (0 : Int32)), (.int (0 : Int32)), (.int (0 : Int32)), (.int (0 : Int32)), (.int (0 : Int32)), (.int (0 : Int32)), (.int (0 : Int32)), (.int (0 : Int32)), (.int (0 : Int32)), (.int (0 : Int32)), (.int (0 : Int32)), (.int (0 : Int32)), (.int (0 : Int32))] (.int (0 : Int32))) := by
  refine own_body (Ls := #[.val (.int (12 : Int32))]) (plainFor_of_name own_pn0) (fun m => by first | (simp [entryFrame, mkF, argsToLocals, Value.category]; done) | rfl) (fun p e s m below meth cO T0 hx hby hml hown hnm hret hlk hZ X0 e0 => ?_)
  have hown : s.vm.findClass "java/lang/StringUTF16" = some m.cls := hown
  have N0 := Fr.nil n0
  have K0 := Keep.refl h0 []
  refine g_iloadN X0 hx 1 (hb hby d12_0) rfl rfl ?_
  refine g_callS X0 hx 4 hZ hown (own_w hw 61 rfl) (own_w hw 62 rfl) (own_w hw 21 rfl) (own_w hw 63 rfl) (by decide) [(.int (12 : Int32))] [] (ru12_nbl l Z a0 hw h0 n0 Z0) e0 0 (by decide) (by decide) (by decide) (by decide) (by rw [hml]; rfl) (lenOf own_pd6 rfl) (hb hby d12_1) rfl (Nat.le_of_eq rfl) rfl (fun v1 T1 L1 X1 hQ1 => ?_)
  obtain ⟨rfl, N1q, e1⟩ := hQ1
  have N1 := Fr.app N0 N1q
  refine g_newP X1 hx 6 hZ (own_w hw 23 rfl) e1 (hb hby d12_4) (by decide) 24 (by decide) (by decide) (by decide) (by decide) rfl (fun T2 h2 b2 kl2 g2 X2 e2 E2 A2 => ?_)
  have G_b2 : n0 ≤ b2 := Nat.le_trans Z0 (Nat.le_of_eq g2.symm)
  have Z2 : n0 ≤ h2.size := Nat.le_trans Z0 E2.1
  have SZ_b2 : h0.size ≤ b2 := Nat.le_trans K0.1 (Nat.le_of_eq g2.symm)
  have K2 := K0.ext E2
  have V_b2 : Arv Z h2 b2 kl2 .byte (24 : Int32) [(.int (0 : Int32)), (.int (0 : Int32)), (.int (0 : Int32)), (.int (0 : Int32)), (.int (0 : Int32)), (.int (0 : Int32)), (.int (0 : Int32)), (.int (0 : Int32)), (.int (0 : Int32)), (.int (0 : Int32)), (.int (0 : Int32)), (.int (0 : Int32)), (.int (0 : Int32)), (.int (0 : Int32)), (.int (0 : Int32)), (.int (0 : Int32)), (.int (0 : Int32)), (.int (0 : Int32)), (.int (0 : Int32)), (.int (0 : Int32)), (.int (0 : Int32)), (.int (0 : Int32)), (.int (0 : Int32)), (.int (0 : Int32))] (.int (0 : Int32)) := A2.pad (pad_rep [] (.int (0 : Int32)) 24)
  exact g_retA X2 hx hret hlk rfl rfl rfl (hb hby d12_6) (by decide) (by decide) (by rw [e2]; exact ⟨_, _, rfl, N1, K2, SZ_b2, V_b2⟩)
set_option maxRecDepth 65536 in
set_option maxHeartbeats 40000000 in
theorem ru12_tob (l : Launch) (Z : State) (a0 : Array Value) (hw : ∀ d ∈ tables_1, d.before a0 Z = true) (b : Addr) (c0 c1 c2 c3 c4 c5 c6 c7 c8 c9 c10 c11 : Int32) (kB : ClassId) (h0 : Heap) (n0 : Nat) (Z0 : n0 ≤ h0.size) (V_b : Arv Z h0 b kB .char (12 : Int32) [(.int c0), (.int c1), (.int c2), (.int c3), (.int c4), (.int c5), (.int c6), (.int c7), (.int c8), (.int c9), (.int c10), (.int c11)] (.int (0 : Int32))) (S_ad : Sta Z h0 "java/lang/StringUTF16" "$assertionsDisabled" "Z" (.int 1)) (S_hi : Sta Z h0 "java/lang/StringUTF16" "HI_BYTE_SHIFT" "I" (.int 0)) (S_lo : Sta Z h0 "java/lang/StringUTF16" "LO_BYTE_SHIFT" "I" (.int 8)) :
    OwnMet l Z (⟨"java/lang/StringUTF16", "toBytes", "([CII)[B"⟩ : MethodName) jdk_52_method_14_code 5 (some (.array .byte)) [] ({ frames := 2, cells := 1, slots := 24, locals := 24 } : Room) [(.ref b), (.int (0 : Int32)), (.int (12 : Int32))] h0 (fun v h L => ∃ (t : Addr) (kT : ClassId), v = some (.ref t) ∧ Fr n0 L ∧ Keep h0 h [] ∧ h0.size ≤ t ∧ Arv Z h t kT .byte (24 : Int32) [(.int (own_lo c0)), (.int (own_hi c0)), (.int (own_lo c1)), (.int (own_hi c1)), (.int (own_lo c2)), (.int (own_hi c2)), (.int (own_lo c3)), (.int (own_hi c3)), (.int (own_lo c4)), (.int (own_hi c4)), (.int (own_lo c5)), (.int (own_hi c5)), (.int (own_lo c6)), (.int (own_hi c6)), (.int (own_lo c7)), (.int (own_hi c7)), (.int (own_lo c8)), (.int (own_hi c8)), (.int (own_lo c9)), (.int (own_hi c9)), (.int (own_lo c10)), (.int (own_hi c10)), (.int (own_lo c11)), (.int (own_hi c11))] (.int (0 : Int32))) := by
  refine own_body (Ls := #[.val (.ref b), .val (.int (0 : Int32)), .val (.int (12 : Int32)), .unset, .unset]) (plainFor_of_name own_pn0) (fun m => by first | (simp [entryFrame, mkF, argsToLocals, Value.category]; done) | rfl) (fun p e s m below meth cO T0 hx hby hml hown hnm hret hlk hZ X0 e0 => ?_)
  have hown : s.vm.findClass "java/lang/StringUTF16" = some m.cls := hown
  have N0 := Fr.nil n0
  have K0 := Keep.refl h0 []
  refine g_iloadN X0 hx 1 (hb hby d11_0) rfl rfl ?_
  refine g_callS X0 hx 4 hZ hown (own_w hw 58 rfl) (own_w hw 59 rfl) (own_w hw 21 rfl) (own_w hw 60 rfl) (by decide) [(.int (12 : Int32))] [] (ru12_nbf l Z a0 hw h0 n0 Z0) e0 0 (by decide) (by decide) (by decide) (by decide) (by rw [hml]; rfl) (lenOf own_pd7 rfl) (hb hby d11_1) rfl (Nat.le_of_eq rfl) rfl (fun v1 T1 L1 X1 hQ1 => ?_)
  obtain ⟨t, kT, rfl, N1q, K1, hst, V_t⟩ := hQ1
  have N1 := Fr.app N0 N1q
  have g_t := Nat.le_trans Z0 hst
  have Z1 := Nat.le_trans Z0 K1.1
  refine g_astoreN X1 hx 5 #[.val (.ref b), .val (.int (0 : Int32)), .val (.int (12 : Int32)), .val (.ref t), .unset] (hb hby d11_4) rfl rfl rfl ?_
  refine g_iconst X1 hx 6 (0 : Int32) (hb hby d11_5) (by decide) rfl ?_
  refine g_istore X1 hx 8 #[.val (.ref b), .val (.int (0 : Int32)), .val (.int (12 : Int32)), .val (.ref t), .val (.int (0 : Int32))] (hb hby d11_6) rfl rfl ?_
  refine g_iload X1 hx 10 (hb hby d11_8) rfl rfl ?_
  refine g_iloadN X1 hx 11 (hb hby d11_10) rfl rfl ?_
  refine g_icF X1 hx 14 (hb hby d11_11) (by decide) rfl ?_
  refine g_aloadN X1 hx 15 (hb hby d11_14) rfl rfl rfl ?_
  refine g_iload X1 hx 17 (hb hby d11_15) rfl rfl ?_
  refine g_aloadN X1 hx 18 (hb hby d11_17) rfl rfl rfl ?_
  refine g_iloadN X1 hx 19 (hb hby d11_18) rfl rfl ?_
  refine g_caload X1 hx 20 hZ rfl (V_b.keep K1 nin0) ⟨by decide, by decide⟩ (show _ = (.int c0) from rfl) (hb hby d11_19) rfl ?_
  refine g_callS X1 hx 23 hZ hown (own_w hw 65 rfl) (own_w hw 66 rfl) (own_w hw 21 rfl) (own_w hw 67 rfl) (by decide) [(.ref t), (.int (0 : Int32)), (.int c0)] [] (ru_put l Z a0 hw t (0 : Int32) (24 : Int32) c0 0 1 24 _ kT T1.heap n0 Z1 g_t V_t (own_sta_keep S_ad K1) (own_sta_keep S_hi K1) (own_sta_keep S_lo K1) (by decide) rfl) rfl 0 (by decide) (by decide) (by decide) (by decide) (by rw [hml]; rfl) (lenOf own_pd8 rfl) (hb hby d11_20) rfl (Nat.le_of_eq rfl) rfl (fun v2 T2 L2 X2 hQ2 => ?_)
  obtain ⟨rfl, N2q, K2, V_t⟩ := hQ2
  have N2 := Fr.app N1 N2q
  have V_t : Arv Z T2.heap t kT .byte (24 : Int32) [(.int (own_lo c0)), (.int (own_hi c0)), (.int (0 : Int32)), (.int (0 : Int32)), (.int (0 : Int32)), (.int (0 : Int32)), (.int (0 : Int32)), (.int (0 : Int32)), (.int (0 : Int32)), (.int (0 : Int32)), (.int (0 : Int32)), (.int (0 : Int32)), (.int (0 : Int32)), (.int (0 : Int32)), (.int (0 : Int32)), (.int (0 : Int32)), (.int (0 : Int32)), (.int (0 : Int32)), (.int (0 : Int32)), (.int (0 : Int32)), (.int (0 : Int32)), (.int (0 : Int32)), (.int (0 : Int32)), (.int (0 : Int32))] (.int (0 : Int32)) := V_t
  have KK2 := K1.trans K2 (allS (Or.inr hst) all0)
  have Z2 := Nat.le_trans Z1 K2.1
  refine g_iinc X2 hx 26 (1 : Int32) #[.val (.ref b), .val (.int (1 : Int32)), .val (.int (12 : Int32)), .val (.ref t), .val (.int (0 : Int32))] (hb hby d11_23) rfl (by decide) rfl rfl ?_
  refine g_iinc X2 hx 29 (1 : Int32) #[.val (.ref b), .val (.int (1 : Int32)), .val (.int (12 : Int32)), .val (.ref t), .val (.int (1 : Int32))] (hb hby d11_26) rfl (by decide) rfl rfl ?_
  refine g_goto X2 hx 8 (hb hby d11_29) (by decide) (by decide) ?_
  refine g_iload X2 hx 10 (hb hby d11_8) rfl rfl ?_
  refine g_iloadN X2 hx 11 (hb hby d11_10) rfl rfl ?_
  refine g_icF X2 hx 14 (hb hby d11_11) (by decide) rfl ?_
  refine g_aloadN X2 hx 15 (hb hby d11_14) rfl rfl rfl ?_
  refine g_iload X2 hx 17 (hb hby d11_15) rfl rfl ?_
  refine g_aloadN X2 hx 18 (hb hby d11_17) rfl rfl rfl ?_
  refine g_iloadN X2 hx 19 (hb hby d11_18) rfl rfl ?_
  refine g_caload X2 hx 20 hZ rfl (V_b.keep KK2 nin0) ⟨by decide, by decide⟩ (show _ = (.int c1) from rfl) (hb hby d11_19) rfl ?_
  refine g_callS X2 hx 23 hZ hown (own_w hw 65 rfl) (own_w hw 66 rfl) (own_w hw 21 rfl) (own_w hw 67 rfl) (by decide) [(.ref t), (.int (1 : Int32)), (.int c1)] [] (ru_put l Z a0 hw t (1 : Int32) (24 : Int32) c1 2 3 24 _ kT T2.heap n0 Z2 g_t V_t (own_sta_keep S_ad KK2) (own_sta_keep S_hi KK2) (own_sta_keep S_lo KK2) (by decide) rfl) rfl 0 (by decide) (by decide) (by decide) (by decide) (by rw [hml]; rfl) (lenOf own_pd8 rfl) (hb hby d11_20) rfl (Nat.le_of_eq rfl) rfl (fun v3 T3 L3 X3 hQ3 => ?_)
  obtain ⟨rfl, N3q, K3, V_t⟩ := hQ3
  have N3 := Fr.app N2 N3q
  have V_t : Arv Z T3.heap t kT .byte (24 : Int32) [(.int (own_lo c0)), (.int (own_hi c0)), (.int (own_lo c1)), (.int (own_hi c1)), (.int (0 : Int32)), (.int (0 : Int32)), (.int (0 : Int32)), (.int (0 : Int32)), (.int (0 : Int32)), (.int (0 : Int32)), (.int (0 : Int32)), (.int (0 : Int32)), (.int (0 : Int32)), (.int (0 : Int32)), (.int (0 : Int32)), (.int (0 : Int32)), (.int (0 : Int32)), (.int (0 : Int32)), (.int (0 : Int32)), (.int (0 : Int32)), (.int (0 : Int32)), (.int (0 : Int32)), (.int (0 : Int32)), (.int (0 : Int32))] (.int (0 : Int32)) := V_t
  have KK3 := KK2.trans K3 (allS (Or.inr hst) all0)
  have Z3 := Nat.le_trans Z2 K3.1
  refine g_iinc X3 hx 26 (2 : Int32) #[.val (.ref b), .val (.int (2 : Int32)), .val (.int (12 : Int32)), .val (.ref t), .val (.int (1 : Int32))] (hb hby d11_23) rfl (by decide) rfl rfl ?_
  refine g_iinc X3 hx 29 (2 : Int32) #[.val (.ref b), .val (.int (2 : Int32)), .val (.int (12 : Int32)), .val (.ref t), .val (.int (2 : Int32))] (hb hby d11_26) rfl (by decide) rfl rfl ?_
  refine g_goto X3 hx 8 (hb hby d11_29) (by decide) (by decide) ?_
  refine g_iload X3 hx 10 (hb hby d11_8) rfl rfl ?_
  refine g_iloadN X3 hx 11 (hb hby d11_10) rfl rfl ?_
  refine g_icF X3 hx 14 (hb hby d11_11) (by decide) rfl ?_
  refine g_aloadN X3 hx 15 (hb hby d11_14) rfl rfl rfl ?_
  refine g_iload X3 hx 17 (hb hby d11_15) rfl rfl ?_
  refine g_aloadN X3 hx 18 (hb hby d11_17) rfl rfl rfl ?_
  refine g_iloadN X3 hx 19 (hb hby d11_18) rfl rfl ?_
  refine g_caload X3 hx 20 hZ rfl (V_b.keep KK3 nin0) ⟨by decide, by decide⟩ (show _ = (.int c2) from rfl) (hb hby d11_19) rfl ?_
  refine g_callS X3 hx 23 hZ hown (own_w hw 65 rfl) (own_w hw 66 rfl) (own_w hw 21 rfl) (own_w hw 67 rfl) (by decide) [(.ref t), (.int (2 : Int32)), (.int c2)] [] (ru_put l Z a0 hw t (2 : Int32) (24 : Int32) c2 4 5 24 _ kT T3.heap n0 Z3 g_t V_t (own_sta_keep S_ad KK3) (own_sta_keep S_hi KK3) (own_sta_keep S_lo KK3) (by decide) rfl) rfl 0 (by decide) (by decide) (by decide) (by decide) (by rw [hml]; rfl) (lenOf own_pd8 rfl) (hb hby d11_20) rfl (Nat.le_of_eq rfl) rfl (fun v4 T4 L4 X4 hQ4 => ?_)
  obtain ⟨rfl, N4q, K4, V_t⟩ := hQ4
  have N4 := Fr.app N3 N4q
  have V_t : Arv Z T4.heap t kT .byte (24 : Int32) [(.int (own_lo c0)), (.int (own_hi c0)), (.int (own_lo c1)), (.int (own_hi c1)), (.int (own_lo c2)), (.int (own_hi c2)), (.int (0 : Int32)), (.int (0 : Int32)), (.int (0 : Int32)), (.int (0 : Int32)), (.int (0 : Int32)), (.int (0 : Int32)), (.int (0 : Int32)), (.int (0 : Int32)), (.int (0 : Int32)), (.int (0 : Int32)), (.int (0 : Int32)), (.int (0 : Int32)), (.int (0 : Int32)), (.int (0 : Int32)), (.int (0 : Int32)), (.int (0 : Int32)), (.int (0 : Int32)), (.int (0 : Int32))] (.int (0 : Int32)) := V_t
  have KK4 := KK3.trans K4 (allS (Or.inr hst) all0)
  have Z4 := Nat.le_trans Z3 K4.1
  refine g_iinc X4 hx 26 (3 : Int32) #[.val (.ref b), .val (.int (3 : Int32)), .val (.int (12 : Int32)), .val (.ref t), .val (.int (2 : Int32))] (hb hby d11_23) rfl (by decide) rfl rfl ?_
  refine g_iinc X4 hx 29 (3 : Int32) #[.val (.ref b), .val (.int (3 : Int32)), .val (.int (12 : Int32)), .val (.ref t), .val (.int (3 : Int32))] (hb hby d11_26) rfl (by decide) rfl rfl ?_
  refine g_goto X4 hx 8 (hb hby d11_29) (by decide) (by decide) ?_
  refine g_iload X4 hx 10 (hb hby d11_8) rfl rfl ?_
  refine g_iloadN X4 hx 11 (hb hby d11_10) rfl rfl ?_
  refine g_icF X4 hx 14 (hb hby d11_11) (by decide) rfl ?_
  refine g_aloadN X4 hx 15 (hb hby d11_14) rfl rfl rfl ?_
  refine g_iload X4 hx 17 (hb hby d11_15) rfl rfl ?_
  refine g_aloadN X4 hx 18 (hb hby d11_17) rfl rfl rfl ?_
  refine g_iloadN X4 hx 19 (hb hby d11_18) rfl rfl ?_
  refine g_caload X4 hx 20 hZ rfl (V_b.keep KK4 nin0) ⟨by decide, by decide⟩ (show _ = (.int c3) from rfl) (hb hby d11_19) rfl ?_
  refine g_callS X4 hx 23 hZ hown (own_w hw 65 rfl) (own_w hw 66 rfl) (own_w hw 21 rfl) (own_w hw 67 rfl) (by decide) [(.ref t), (.int (3 : Int32)), (.int c3)] [] (ru_put l Z a0 hw t (3 : Int32) (24 : Int32) c3 6 7 24 _ kT T4.heap n0 Z4 g_t V_t (own_sta_keep S_ad KK4) (own_sta_keep S_hi KK4) (own_sta_keep S_lo KK4) (by decide) rfl) rfl 0 (by decide) (by decide) (by decide) (by decide) (by rw [hml]; rfl) (lenOf own_pd8 rfl) (hb hby d11_20) rfl (Nat.le_of_eq rfl) rfl (fun v5 T5 L5 X5 hQ5 => ?_)
  obtain ⟨rfl, N5q, K5, V_t⟩ := hQ5
  have N5 := Fr.app N4 N5q
  have V_t : Arv Z T5.heap t kT .byte (24 : Int32) [(.int (own_lo c0)), (.int (own_hi c0)), (.int (own_lo c1)), (.int (own_hi c1)), (.int (own_lo c2)), (.int (own_hi c2)), (.int (own_lo c3)), (.int (own_hi c3)), (.int (0 : Int32)), (.int (0 : Int32)), (.int (0 : Int32)), (.int (0 : Int32)), (.int (0 : Int32)), (.int (0 : Int32)), (.int (0 : Int32)), (.int (0 : Int32)), (.int (0 : Int32)), (.int (0 : Int32)), (.int (0 : Int32)), (.int (0 : Int32)), (.int (0 : Int32)), (.int (0 : Int32)), (.int (0 : Int32)), (.int (0 : Int32))] (.int (0 : Int32)) := V_t
  have KK5 := KK4.trans K5 (allS (Or.inr hst) all0)
  have Z5 := Nat.le_trans Z4 K5.1
  refine g_iinc X5 hx 26 (4 : Int32) #[.val (.ref b), .val (.int (4 : Int32)), .val (.int (12 : Int32)), .val (.ref t), .val (.int (3 : Int32))] (hb hby d11_23) rfl (by decide) rfl rfl ?_
  refine g_iinc X5 hx 29 (4 : Int32) #[.val (.ref b), .val (.int (4 : Int32)), .val (.int (12 : Int32)), .val (.ref t), .val (.int (4 : Int32))] (hb hby d11_26) rfl (by decide) rfl rfl ?_
  refine g_goto X5 hx 8 (hb hby d11_29) (by decide) (by decide) ?_
  refine g_iload X5 hx 10 (hb hby d11_8) rfl rfl ?_
  refine g_iloadN X5 hx 11 (hb hby d11_10) rfl rfl ?_
  refine g_icF X5 hx 14 (hb hby d11_11) (by decide) rfl ?_
  refine g_aloadN X5 hx 15 (hb hby d11_14) rfl rfl rfl ?_
  refine g_iload X5 hx 17 (hb hby d11_15) rfl rfl ?_
  refine g_aloadN X5 hx 18 (hb hby d11_17) rfl rfl rfl ?_
  refine g_iloadN X5 hx 19 (hb hby d11_18) rfl rfl ?_
  refine g_caload X5 hx 20 hZ rfl (V_b.keep KK5 nin0) ⟨by decide, by decide⟩ (show _ = (.int c4) from rfl) (hb hby d11_19) rfl ?_
  refine g_callS X5 hx 23 hZ hown (own_w hw 65 rfl) (own_w hw 66 rfl) (own_w hw 21 rfl) (own_w hw 67 rfl) (by decide) [(.ref t), (.int (4 : Int32)), (.int c4)] [] (ru_put l Z a0 hw t (4 : Int32) (24 : Int32) c4 8 9 24 _ kT T5.heap n0 Z5 g_t V_t (own_sta_keep S_ad KK5) (own_sta_keep S_hi KK5) (own_sta_keep S_lo KK5) (by decide) rfl) rfl 0 (by decide) (by decide) (by decide) (by decide) (by rw [hml]; rfl) (lenOf own_pd8 rfl) (hb hby d11_20) rfl (Nat.le_of_eq rfl) rfl (fun v6 T6 L6 X6 hQ6 => ?_)
  obtain ⟨rfl, N6q, K6, V_t⟩ := hQ6
  have N6 := Fr.app N5 N6q
  have V_t : Arv Z T6.heap t kT .byte (24 : Int32) [(.int (own_lo c0)), (.int (own_hi c0)), (.int (own_lo c1)), (.int (own_hi c1)), (.int (own_lo c2)), (.int (own_hi c2)), (.int (own_lo c3)), (.int (own_hi c3)), (.int (own_lo c4)), (.int (own_hi c4)), (.int (0 : Int32)), (.int (0 : Int32)), (.int (0 : Int32)), (.int (0 : Int32)), (.int (0 : Int32)), (.int (0 : Int32)), (.int (0 : Int32)), (.int (0 : Int32)), (.int (0 : Int32)), (.int (0 : Int32)), (.int (0 : Int32)), (.int (0 : Int32)), (.int (0 : Int32)), (.int (0 : Int32))] (.int (0 : Int32)) := V_t
  have KK6 := KK5.trans K6 (allS (Or.inr hst) all0)
  have Z6 := Nat.le_trans Z5 K6.1
  refine g_iinc X6 hx 26 (5 : Int32) #[.val (.ref b), .val (.int (5 : Int32)), .val (.int (12 : Int32)), .val (.ref t), .val (.int (4 : Int32))] (hb hby d11_23) rfl (by decide) rfl rfl ?_
  refine g_iinc X6 hx 29 (5 : Int32) #[.val (.ref b), .val (.int (5 : Int32)), .val (.int (12 : Int32)), .val (.ref t), .val (.int (5 : Int32))] (hb hby d11_26) rfl (by decide) rfl rfl ?_
  refine g_goto X6 hx 8 (hb hby d11_29) (by decide) (by decide) ?_
  refine g_iload X6 hx 10 (hb hby d11_8) rfl rfl ?_
  refine g_iloadN X6 hx 11 (hb hby d11_10) rfl rfl ?_
  refine g_icF X6 hx 14 (hb hby d11_11) (by decide) rfl ?_
  refine g_aloadN X6 hx 15 (hb hby d11_14) rfl rfl rfl ?_
  refine g_iload X6 hx 17 (hb hby d11_15) rfl rfl ?_
  refine g_aloadN X6 hx 18 (hb hby d11_17) rfl rfl rfl ?_
  refine g_iloadN X6 hx 19 (hb hby d11_18) rfl rfl ?_
  refine g_caload X6 hx 20 hZ rfl (V_b.keep KK6 nin0) ⟨by decide, by decide⟩ (show _ = (.int c5) from rfl) (hb hby d11_19) rfl ?_
  refine g_callS X6 hx 23 hZ hown (own_w hw 65 rfl) (own_w hw 66 rfl) (own_w hw 21 rfl) (own_w hw 67 rfl) (by decide) [(.ref t), (.int (5 : Int32)), (.int c5)] [] (ru_put l Z a0 hw t (5 : Int32) (24 : Int32) c5 10 11 24 _ kT T6.heap n0 Z6 g_t V_t (own_sta_keep S_ad KK6) (own_sta_keep S_hi KK6) (own_sta_keep S_lo KK6) (by decide) rfl) rfl 0 (by decide) (by decide) (by decide) (by decide) (by rw [hml]; rfl) (lenOf own_pd8 rfl) (hb hby d11_20) rfl (Nat.le_of_eq rfl) rfl (fun v7 T7 L7 X7 hQ7 => ?_)
  obtain ⟨rfl, N7q, K7, V_t⟩ := hQ7
  have N7 := Fr.app N6 N7q
  have V_t : Arv Z T7.heap t kT .byte (24 : Int32) [(.int (own_lo c0)), (.int (own_hi c0)), (.int (own_lo c1)), (.int (own_hi c1)), (.int (own_lo c2)), (.int (own_hi c2)), (.int (own_lo c3)), (.int (own_hi c3)), (.int (own_lo c4)), (.int (own_hi c4)), (.int (own_lo c5)), (.int (own_hi c5)), (.int (0 : Int32)), (.int (0 : Int32)), (.int (0 : Int32)), (.int (0 : Int32)), (.int (0 : Int32)), (.int (0 : Int32)), (.int (0 : Int32)), (.int (0 : Int32)), (.int (0 : Int32)), (.int (0 : Int32)), (.int (0 : Int32)), (.int (0 : Int32))] (.int (0 : Int32)) := V_t
  have KK7 := KK6.trans K7 (allS (Or.inr hst) all0)
  have Z7 := Nat.le_trans Z6 K7.1
  refine g_iinc X7 hx 26 (6 : Int32) #[.val (.ref b), .val (.int (6 : Int32)), .val (.int (12 : Int32)), .val (.ref t), .val (.int (5 : Int32))] (hb hby d11_23) rfl (by decide) rfl rfl ?_
  refine g_iinc X7 hx 29 (6 : Int32) #[.val (.ref b), .val (.int (6 : Int32)), .val (.int (12 : Int32)), .val (.ref t), .val (.int (6 : Int32))] (hb hby d11_26) rfl (by decide) rfl rfl ?_
  refine g_goto X7 hx 8 (hb hby d11_29) (by decide) (by decide) ?_
  refine g_iload X7 hx 10 (hb hby d11_8) rfl rfl ?_
  refine g_iloadN X7 hx 11 (hb hby d11_10) rfl rfl ?_
  refine g_icF X7 hx 14 (hb hby d11_11) (by decide) rfl ?_
  refine g_aloadN X7 hx 15 (hb hby d11_14) rfl rfl rfl ?_
  refine g_iload X7 hx 17 (hb hby d11_15) rfl rfl ?_
  refine g_aloadN X7 hx 18 (hb hby d11_17) rfl rfl rfl ?_
  refine g_iloadN X7 hx 19 (hb hby d11_18) rfl rfl ?_
  refine g_caload X7 hx 20 hZ rfl (V_b.keep KK7 nin0) ⟨by decide, by decide⟩ (show _ = (.int c6) from rfl) (hb hby d11_19) rfl ?_
  refine g_callS X7 hx 23 hZ hown (own_w hw 65 rfl) (own_w hw 66 rfl) (own_w hw 21 rfl) (own_w hw 67 rfl) (by decide) [(.ref t), (.int (6 : Int32)), (.int c6)] [] (ru_put l Z a0 hw t (6 : Int32) (24 : Int32) c6 12 13 24 _ kT T7.heap n0 Z7 g_t V_t (own_sta_keep S_ad KK7) (own_sta_keep S_hi KK7) (own_sta_keep S_lo KK7) (by decide) rfl) rfl 0 (by decide) (by decide) (by decide) (by decide) (by rw [hml]; rfl) (lenOf own_pd8 rfl) (hb hby d11_20) rfl (Nat.le_of_eq rfl) rfl (fun v8 T8 L8 X8 hQ8 => ?_)
  obtain ⟨rfl, N8q, K8, V_t⟩ := hQ8
  have N8 := Fr.app N7 N8q
  have V_t : Arv Z T8.heap t kT .byte (24 : Int32) [(.int (own_lo c0)), (.int (own_hi c0)), (.int (own_lo c1)), (.int (own_hi c1)), (.int (own_lo c2)), (.int (own_hi c2)), (.int (own_lo c3)), (.int (own_hi c3)), (.int (own_lo c4)), (.int (own_hi c4)), (.int (own_lo c5)), (.int (own_hi c5)), (.int (own_lo c6)), (.int (own_hi c6)), (.int (0 : Int32)), (.int (0 : Int32)), (.int (0 : Int32)), (.int (0 : Int32)), (.int (0 : Int32)), (.int (0 : Int32)), (.int (0 : Int32)), (.int (0 : Int32)), (.int (0 : Int32)), (.int (0 : Int32))] (.int (0 : Int32)) := V_t
  have KK8 := KK7.trans K8 (allS (Or.inr hst) all0)
  have Z8 := Nat.le_trans Z7 K8.1
  refine g_iinc X8 hx 26 (7 : Int32) #[.val (.ref b), .val (.int (7 : Int32)), .val (.int (12 : Int32)), .val (.ref t), .val (.int (6 : Int32))] (hb hby d11_23) rfl (by decide) rfl rfl ?_
  refine g_iinc X8 hx 29 (7 : Int32) #[.val (.ref b), .val (.int (7 : Int32)), .val (.int (12 : Int32)), .val (.ref t), .val (.int (7 : Int32))] (hb hby d11_26) rfl (by decide) rfl rfl ?_
  refine g_goto X8 hx 8 (hb hby d11_29) (by decide) (by decide) ?_
  refine g_iload X8 hx 10 (hb hby d11_8) rfl rfl ?_
  refine g_iloadN X8 hx 11 (hb hby d11_10) rfl rfl ?_
  refine g_icF X8 hx 14 (hb hby d11_11) (by decide) rfl ?_
  refine g_aloadN X8 hx 15 (hb hby d11_14) rfl rfl rfl ?_
  refine g_iload X8 hx 17 (hb hby d11_15) rfl rfl ?_
  refine g_aloadN X8 hx 18 (hb hby d11_17) rfl rfl rfl ?_
  refine g_iloadN X8 hx 19 (hb hby d11_18) rfl rfl ?_
  refine g_caload X8 hx 20 hZ rfl (V_b.keep KK8 nin0) ⟨by decide, by decide⟩ (show _ = (.int c7) from rfl) (hb hby d11_19) rfl ?_
  refine g_callS X8 hx 23 hZ hown (own_w hw 65 rfl) (own_w hw 66 rfl) (own_w hw 21 rfl) (own_w hw 67 rfl) (by decide) [(.ref t), (.int (7 : Int32)), (.int c7)] [] (ru_put l Z a0 hw t (7 : Int32) (24 : Int32) c7 14 15 24 _ kT T8.heap n0 Z8 g_t V_t (own_sta_keep S_ad KK8) (own_sta_keep S_hi KK8) (own_sta_keep S_lo KK8) (by decide) rfl) rfl 0 (by decide) (by decide) (by decide) (by decide) (by rw [hml]; rfl) (lenOf own_pd8 rfl) (hb hby d11_20) rfl (Nat.le_of_eq rfl) rfl (fun v9 T9 L9 X9 hQ9 => ?_)
  obtain ⟨rfl, N9q, K9, V_t⟩ := hQ9
  have N9 := Fr.app N8 N9q
  have V_t : Arv Z T9.heap t kT .byte (24 : Int32) [(.int (own_lo c0)), (.int (own_hi c0)), (.int (own_lo c1)), (.int (own_hi c1)), (.int (own_lo c2)), (.int (own_hi c2)), (.int (own_lo c3)), (.int (own_hi c3)), (.int (own_lo c4)), (.int (own_hi c4)), (.int (own_lo c5)), (.int (own_hi c5)), (.int (own_lo c6)), (.int (own_hi c6)), (.int (own_lo c7)), (.int (own_hi c7)), (.int (0 : Int32)), (.int (0 : Int32)), (.int (0 : Int32)), (.int (0 : Int32)), (.int (0 : Int32)), (.int (0 : Int32)), (.int (0 : Int32)), (.int (0 : Int32))] (.int (0 : Int32)) := V_t
  have KK9 := KK8.trans K9 (allS (Or.inr hst) all0)
  have Z9 := Nat.le_trans Z8 K9.1
  refine g_iinc X9 hx 26 (8 : Int32) #[.val (.ref b), .val (.int (8 : Int32)), .val (.int (12 : Int32)), .val (.ref t), .val (.int (7 : Int32))] (hb hby d11_23) rfl (by decide) rfl rfl ?_
  refine g_iinc X9 hx 29 (8 : Int32) #[.val (.ref b), .val (.int (8 : Int32)), .val (.int (12 : Int32)), .val (.ref t), .val (.int (8 : Int32))] (hb hby d11_26) rfl (by decide) rfl rfl ?_
  refine g_goto X9 hx 8 (hb hby d11_29) (by decide) (by decide) ?_
  refine g_iload X9 hx 10 (hb hby d11_8) rfl rfl ?_
  refine g_iloadN X9 hx 11 (hb hby d11_10) rfl rfl ?_
  refine g_icF X9 hx 14 (hb hby d11_11) (by decide) rfl ?_
  refine g_aloadN X9 hx 15 (hb hby d11_14) rfl rfl rfl ?_
  refine g_iload X9 hx 17 (hb hby d11_15) rfl rfl ?_
  refine g_aloadN X9 hx 18 (hb hby d11_17) rfl rfl rfl ?_
  refine g_iloadN X9 hx 19 (hb hby d11_18) rfl rfl ?_
  refine g_caload X9 hx 20 hZ rfl (V_b.keep KK9 nin0) ⟨by decide, by decide⟩ (show _ = (.int c8) from rfl) (hb hby d11_19) rfl ?_
  refine g_callS X9 hx 23 hZ hown (own_w hw 65 rfl) (own_w hw 66 rfl) (own_w hw 21 rfl) (own_w hw 67 rfl) (by decide) [(.ref t), (.int (8 : Int32)), (.int c8)] [] (ru_put l Z a0 hw t (8 : Int32) (24 : Int32) c8 16 17 24 _ kT T9.heap n0 Z9 g_t V_t (own_sta_keep S_ad KK9) (own_sta_keep S_hi KK9) (own_sta_keep S_lo KK9) (by decide) rfl) rfl 0 (by decide) (by decide) (by decide) (by decide) (by rw [hml]; rfl) (lenOf own_pd8 rfl) (hb hby d11_20) rfl (Nat.le_of_eq rfl) rfl (fun v10 T10 L10 X10 hQ10 => ?_)
  obtain ⟨rfl, N10q, K10, V_t⟩ := hQ10
  have N10 := Fr.app N9 N10q
  have V_t : Arv Z T10.heap t kT .byte (24 : Int32) [(.int (own_lo c0)), (.int (own_hi c0)), (.int (own_lo c1)), (.int (own_hi c1)), (.int (own_lo c2)), (.int (own_hi c2)), (.int (own_lo c3)), (.int (own_hi c3)), (.int (own_lo c4)), (.int (own_hi c4)), (.int (own_lo c5)), (.int (own_hi c5)), (.int (own_lo c6)), (.int (own_hi c6)), (.int (own_lo c7)), (.int (own_hi c7)), (.int (own_lo c8)), (.int (own_hi c8)), (.int (0 : Int32)), (.int (0 : Int32)), (.int (0 : Int32)), (.int (0 : Int32)), (.int (0 : Int32)), (.int (0 : Int32))] (.int (0 : Int32)) := V_t
  have KK10 := KK9.trans K10 (allS (Or.inr hst) all0)
  have Z10 := Nat.le_trans Z9 K10.1
  refine g_iinc X10 hx 26 (9 : Int32) #[.val (.ref b), .val (.int (9 : Int32)), .val (.int (12 : Int32)), .val (.ref t), .val (.int (8 : Int32))] (hb hby d11_23) rfl (by decide) rfl rfl ?_
  refine g_iinc X10 hx 29 (9 : Int32) #[.val (.ref b), .val (.int (9 : Int32)), .val (.int (12 : Int32)), .val (.ref t), .val (.int (9 : Int32))] (hb hby d11_26) rfl (by decide) rfl rfl ?_
  refine g_goto X10 hx 8 (hb hby d11_29) (by decide) (by decide) ?_
  refine g_iload X10 hx 10 (hb hby d11_8) rfl rfl ?_
  refine g_iloadN X10 hx 11 (hb hby d11_10) rfl rfl ?_
  refine g_icF X10 hx 14 (hb hby d11_11) (by decide) rfl ?_
  refine g_aloadN X10 hx 15 (hb hby d11_14) rfl rfl rfl ?_
  refine g_iload X10 hx 17 (hb hby d11_15) rfl rfl ?_
  refine g_aloadN X10 hx 18 (hb hby d11_17) rfl rfl rfl ?_
  refine g_iloadN X10 hx 19 (hb hby d11_18) rfl rfl ?_
  refine g_caload X10 hx 20 hZ rfl (V_b.keep KK10 nin0) ⟨by decide, by decide⟩ (show _ = (.int c9) from rfl) (hb hby d11_19) rfl ?_
  refine g_callS X10 hx 23 hZ hown (own_w hw 65 rfl) (own_w hw 66 rfl) (own_w hw 21 rfl) (own_w hw 67 rfl) (by decide) [(.ref t), (.int (9 : Int32)), (.int c9)] [] (ru_put l Z a0 hw t (9 : Int32) (24 : Int32) c9 18 19 24 _ kT T10.heap n0 Z10 g_t V_t (own_sta_keep S_ad KK10) (own_sta_keep S_hi KK10) (own_sta_keep S_lo KK10) (by decide) rfl) rfl 0 (by decide) (by decide) (by decide) (by decide) (by rw [hml]; rfl) (lenOf own_pd8 rfl) (hb hby d11_20) rfl (Nat.le_of_eq rfl) rfl (fun v11 T11 L11 X11 hQ11 => ?_)
  obtain ⟨rfl, N11q, K11, V_t⟩ := hQ11
  have N11 := Fr.app N10 N11q
  have V_t : Arv Z T11.heap t kT .byte (24 : Int32) [(.int (own_lo c0)), (.int (own_hi c0)), (.int (own_lo c1)), (.int (own_hi c1)), (.int (own_lo c2)), (.int (own_hi c2)), (.int (own_lo c3)), (.int (own_hi c3)), (.int (own_lo c4)), (.int (own_hi c4)), (.int (own_lo c5)), (.int (own_hi c5)), (.int (own_lo c6)), (.int (own_hi c6)), (.int (own_lo c7)), (.int (own_hi c7)), (.int (own_lo c8)), (.int (own_hi c8)), (.int (own_lo c9)), (.int (own_hi c9)), (.int (0 : Int32)), (.int (0 : Int32)), (.int (0 : Int32)), (.int (0 : Int32))] (.int (0 : Int32)) := V_t
  have KK11 := KK10.trans K11 (allS (Or.inr hst) all0)
  have Z11 := Nat.le_trans Z10 K11.1
  refine g_iinc X11 hx 26 (10 : Int32) #[.val (.ref b), .val (.int (10 : Int32)), .val (.int (12 : Int32)), .val (.ref t), .val (.int (9 : Int32))] (hb hby d11_23) rfl (by decide) rfl rfl ?_
  refine g_iinc X11 hx 29 (10 : Int32) #[.val (.ref b), .val (.int (10 : Int32)), .val (.int (12 : Int32)), .val (.ref t), .val (.int (10 : Int32))] (hb hby d11_26) rfl (by decide) rfl rfl ?_
  refine g_goto X11 hx 8 (hb hby d11_29) (by decide) (by decide) ?_
  refine g_iload X11 hx 10 (hb hby d11_8) rfl rfl ?_
  refine g_iloadN X11 hx 11 (hb hby d11_10) rfl rfl ?_
  refine g_icF X11 hx 14 (hb hby d11_11) (by decide) rfl ?_
  refine g_aloadN X11 hx 15 (hb hby d11_14) rfl rfl rfl ?_
  refine g_iload X11 hx 17 (hb hby d11_15) rfl rfl ?_
  refine g_aloadN X11 hx 18 (hb hby d11_17) rfl rfl rfl ?_
  refine g_iloadN X11 hx 19 (hb hby d11_18) rfl rfl ?_
  refine g_caload X11 hx 20 hZ rfl (V_b.keep KK11 nin0) ⟨by decide, by decide⟩ (show _ = (.int c10) from rfl) (hb hby d11_19) rfl ?_
  refine g_callS X11 hx 23 hZ hown (own_w hw 65 rfl) (own_w hw 66 rfl) (own_w hw 21 rfl) (own_w hw 67 rfl) (by decide) [(.ref t), (.int (10 : Int32)), (.int c10)] [] (ru_put l Z a0 hw t (10 : Int32) (24 : Int32) c10 20 21 24 _ kT T11.heap n0 Z11 g_t V_t (own_sta_keep S_ad KK11) (own_sta_keep S_hi KK11) (own_sta_keep S_lo KK11) (by decide) rfl) rfl 0 (by decide) (by decide) (by decide) (by decide) (by rw [hml]; rfl) (lenOf own_pd8 rfl) (hb hby d11_20) rfl (Nat.le_of_eq rfl) rfl (fun v12 T12 L12 X12 hQ12 => ?_)
  obtain ⟨rfl, N12q, K12, V_t⟩ := hQ12
  have N12 := Fr.app N11 N12q
  have V_t : Arv Z T12.heap t kT .byte (24 : Int32) [(.int (own_lo c0)), (.int (own_hi c0)), (.int (own_lo c1)), (.int (own_hi c1)), (.int (own_lo c2)), (.int (own_hi c2)), (.int (own_lo c3)), (.int (own_hi c3)), (.int (own_lo c4)), (.int (own_hi c4)), (.int (own_lo c5)), (.int (own_hi c5)), (.int (own_lo c6)), (.int (own_hi c6)), (.int (own_lo c7)), (.int (own_hi c7)), (.int (own_lo c8)), (.int (own_hi c8)), (.int (own_lo c9)), (.int (own_hi c9)), (.int (own_lo c10)), (.int (own_hi c10)), (.int (0 : Int32)), (.int (0 : Int32))] (.int (0 : Int32)) := V_t
  have KK12 := KK11.trans K12 (allS (Or.inr hst) all0)
  have Z12 := Nat.le_trans Z11 K12.1
  refine g_iinc X12 hx 26 (11 : Int32) #[.val (.ref b), .val (.int (11 : Int32)), .val (.int (12 : Int32)), .val (.ref t), .val (.int (10 : Int32))] (hb hby d11_23) rfl (by decide) rfl rfl ?_
  refine g_iinc X12 hx 29 (11 : Int32) #[.val (.ref b), .val (.int (11 : Int32)), .val (.int (12 : Int32)), .val (.ref t), .val (.int (11 : Int32))] (hb hby d11_26) rfl (by decide) rfl rfl ?_
  refine g_goto X12 hx 8 (hb hby d11_29) (by decide) (by decide) ?_
  refine g_iload X12 hx 10 (hb hby d11_8) rfl rfl ?_
  refine g_iloadN X12 hx 11 (hb hby d11_10) rfl rfl ?_
  refine g_icF X12 hx 14 (hb hby d11_11) (by decide) rfl ?_
  refine g_aloadN X12 hx 15 (hb hby d11_14) rfl rfl rfl ?_
  refine g_iload X12 hx 17 (hb hby d11_15) rfl rfl ?_
  refine g_aloadN X12 hx 18 (hb hby d11_17) rfl rfl rfl ?_
  refine g_iloadN X12 hx 19 (hb hby d11_18) rfl rfl ?_
  refine g_caload X12 hx 20 hZ rfl (V_b.keep KK12 nin0) ⟨by decide, by decide⟩ (show _ = (.int c11) from rfl) (hb hby d11_19) rfl ?_
  refine g_callS X12 hx 23 hZ hown (own_w hw 65 rfl) (own_w hw 66 rfl) (own_w hw 21 rfl) (own_w hw 67 rfl) (by decide) [(.ref t), (.int (11 : Int32)), (.int c11)] [] (ru_put l Z a0 hw t (11 : Int32) (24 : Int32) c11 22 23 24 _ kT T12.heap n0 Z12 g_t V_t (own_sta_keep S_ad KK12) (own_sta_keep S_hi KK12) (own_sta_keep S_lo KK12) (by decide) rfl) rfl 0 (by decide) (by decide) (by decide) (by decide) (by rw [hml]; rfl) (lenOf own_pd8 rfl) (hb hby d11_20) rfl (Nat.le_of_eq rfl) rfl (fun v13 T13 L13 X13 hQ13 => ?_)
  obtain ⟨rfl, N13q, K13, V_t⟩ := hQ13
  have N13 := Fr.app N12 N13q
  have V_t : Arv Z T13.heap t kT .byte (24 : Int32) [(.int (own_lo c0)), (.int (own_hi c0)), (.int (own_lo c1)), (.int (own_hi c1)), (.int (own_lo c2)), (.int (own_hi c2)), (.int (own_lo c3)), (.int (own_hi c3)), (.int (own_lo c4)), (.int (own_hi c4)), (.int (own_lo c5)), (.int (own_hi c5)), (.int (own_lo c6)), (.int (own_hi c6)), (.int (own_lo c7)), (.int (own_hi c7)), (.int (own_lo c8)), (.int (own_hi c8)), (.int (own_lo c9)), (.int (own_hi c9)), (.int (own_lo c10)), (.int (own_hi c10)), (.int (own_lo c11)), (.int (own_hi c11))] (.int (0 : Int32)) := V_t
  have KK13 := KK12.trans K13 (allS (Or.inr hst) all0)
  have Z13 := Nat.le_trans Z12 K13.1
  refine g_iinc X13 hx 26 (12 : Int32) #[.val (.ref b), .val (.int (12 : Int32)), .val (.int (12 : Int32)), .val (.ref t), .val (.int (11 : Int32))] (hb hby d11_23) rfl (by decide) rfl rfl ?_
  refine g_iinc X13 hx 29 (12 : Int32) #[.val (.ref b), .val (.int (12 : Int32)), .val (.int (12 : Int32)), .val (.ref t), .val (.int (12 : Int32))] (hb hby d11_26) rfl (by decide) rfl rfl ?_
  refine g_goto X13 hx 8 (hb hby d11_29) (by decide) (by decide) ?_
  refine g_iload X13 hx 10 (hb hby d11_8) rfl rfl ?_
  refine g_iloadN X13 hx 11 (hb hby d11_10) rfl rfl ?_
  refine g_icT X13 hx 32 (hb hby d11_11) (by decide) (by decide) (by decide) ?_
  refine g_aloadN X13 hx 33 (hb hby d11_32) rfl rfl rfl ?_
  exact g_retA X13 hx hret hlk rfl rfl rfl (hb hby d11_33) (by decide) (by decide) ⟨t, kT, rfl, N13, KK13, hst, V_t⟩
set_option maxRecDepth 65536 in
set_option maxHeartbeats 40000000 in
theorem ru12_coder (l : Launch) (Z : State) (a0 : Array Value) (hw : ∀ d ∈ tables_1, d.before a0 Z = true) (t : Addr) (kT : ClassId) (vs : List Value) (h0 : Heap) (n0 : Nat) (Z0 : n0 ≤ h0.size) (V_t : Arv Z h0 t kT .byte (24 : Int32) vs (.int (0 : Int32))) :
    OwnMet l Z (⟨"java/lang/StringUTF16", "coderFromArrayLen", "([BI)B"⟩ : MethodName) jdk_52_method_15_code 2 (some .byte) [] ({ frames := 0, cells := 0, slots := 0, locals := 0 } : Room) [(.ref t), (.int (12 : Int32))] h0 (fun v h L => v = some (.int 1) ∧ Fr n0 L ∧ h = h0) := by
  refine own_body (Ls := #[.val (.ref t), .val (.int (12 : Int32))]) (plainFor_of_name own_pn0) (fun m => by first | (simp [entryFrame, mkF, argsToLocals, Value.category]; done) | rfl) (fun p e s m below meth cO T0 hx hby hml hown hnm hret hlk hZ X0 e0 => ?_)
  have hown : s.vm.findClass "java/lang/StringUTF16" = some m.cls := hown
  have N0 := Fr.nil n0
  refine g_iloadN X0 hx 1 (hb hby d7_0) rfl rfl ?_
  refine g_aloadN X0 hx 2 (hb hby d7_1) rfl rfl rfl ?_
  refine g_arraylength X0 hx 3 hZ e0 V_t (hb hby d7_2) rfl ?_
  refine g_isub X0 hx 4 (-12 : Int32) (hb hby d7_3) (by decide) rfl ?_
  refine g_bipush X0 hx 6 (31 : Int32) (hb hby d7_4) (by decide) rfl ?_
  refine g_iushr X0 hx 7 (1 : Int32) (hb hby d7_6) (by decide) rfl ?_
  refine g_i2b X0 hx 8 (1 : Int32) (hb hby d7_7) (by decide) rfl ?_
  exact g_retB X0 hx hret hlk rfl (hb hby d7_8) (by decide) (by decide) ⟨rfl, N0, e0⟩
/-- the char at kk is ch, over 255; the ones ahead aren't -/
def own_bad10 (c0 c1 c2 c3 c4 c5 c6 c7 c8 c9 kk ch : Int32) (ja jb : Nat) : Prop := own_fst10 c0 c1 c2 c3 c4 c5 c6 c7 c8 c9 = kk ∧ ¬ kk = (10 : Int32) ∧ own_pl kk (20 : Int32) ja jb 20 ∧ ([(.int (own_lo c0)), (.int (own_hi c0)), (.int (own_lo c1)), (.int (own_hi c1)), (.int (own_lo c2)), (.int (own_hi c2)), (.int (own_lo c3)), (.int (own_hi c3)), (.int (own_lo c4)), (.int (own_hi c4)), (.int (own_lo c5)), (.int (own_hi c5)), (.int (own_lo c6)), (.int (own_hi c6)), (.int (own_lo c7)), (.int (own_hi c7)), (.int (own_lo c8)), (.int (own_hi c8)), (.int (own_lo c9)), (.int (own_hi c9))] : List Value).getD ja (.int (0 : Int32)) = .int (own_lo ch) ∧ ([(.int (own_lo c0)), (.int (own_hi c0)), (.int (own_lo c1)), (.int (own_hi c1)), (.int (own_lo c2)), (.int (own_hi c2)), (.int (own_lo c3)), (.int (own_hi c3)), (.int (own_lo c4)), (.int (own_hi c4)), (.int (own_lo c5)), (.int (own_hi c5)), (.int (own_lo c6)), (.int (own_hi c6)), (.int (own_lo c7)), (.int (own_hi c7)), (.int (own_lo c8)), (.int (own_hi c8)), (.int (own_lo c9)), (.int (own_hi c9))] : List Value).getD jb (.int (0 : Int32)) = .int (own_hi ch) ∧ 255 < ch ∧ nar .char ch = ch
theorem d5_20 : decode jdk_52_method_16_code 20 = .ok (.aload_n 0, 1) := by decide +kernel
theorem d5_21 : decode jdk_52_method_16_code 21 = .ok (.iload_n 1, 1) := by decide +kernel
theorem d5_22 : decode jdk_52_method_16_code 22 = .ok (.iload_n 2, 1) := by decide +kernel
theorem d5_23 : decode jdk_52_method_16_code 23 = .ok (.invokestatic 119, 3) := by decide +kernel
theorem d5_26 : decode jdk_52_method_16_code 26 = .ok (.astore 5, 2) := by decide +kernel
theorem d5_28 : decode jdk_52_method_16_code 28 = .ok (.aload 5, 2) := by decide +kernel
theorem d5_30 : decode jdk_52_method_16_code 30 = .ok (.iload 4, 2) := by decide +kernel
theorem d5_32 : decode jdk_52_method_16_code 32 = .ok (.invokestatic 71, 3) := by decide +kernel
theorem own_pd9 : parseMethodDescriptor "([BI)C" = some ⟨[(.array .byte), .int], some .char⟩ := by decide +kernel
theorem d5_35 : decode jdk_52_method_16_code 35 = .ok (.sipush 255, 3) := by decide +kernel
theorem d5_38 : decode jdk_52_method_16_code 38 = .ok (.if_icmp .gt 16, 3) := by decide +kernel
theorem d5_54 : decode jdk_52_method_16_code 54 = .ok (.aload 5, 2) := by decide +kernel
theorem d5_56 : decode jdk_52_method_16_code 56 = .ok (.areturn, 1) := by decide +kernel
set_option maxRecDepth 65536 in
set_option maxHeartbeats 40000000 in
theorem ru10_outer (l : Launch) (Z : State) (a0 : Array Value) (hw : ∀ d ∈ tables_1, d.before a0 Z = true) (b : Addr) (c0 c1 c2 c3 c4 c5 c6 c7 c8 c9 kk ch : Int32) (ja jb : Nat) (kB : ClassId) (h0 : Heap) (n0 : Nat) (Z0 : n0 ≤ h0.size) (V_b : Arv Z h0 b kB .char (10 : Int32) [(.int c0), (.int c1), (.int c2), (.int c3), (.int c4), (.int c5), (.int c6), (.int c7), (.int c8), (.int c9)] (.int (0 : Int32))) (hB : own_bad10 c0 c1 c2 c3 c4 c5 c6 c7 c8 c9 kk ch ja jb) (S_ad : Sta Z h0 "java/lang/StringUTF16" "$assertionsDisabled" "Z" (.int 1)) (S_hi : Sta Z h0 "java/lang/StringUTF16" "HI_BYTE_SHIFT" "I" (.int 0)) (S_lo : Sta Z h0 "java/lang/StringUTF16" "LO_BYTE_SHIFT" "I" (.int 8)) :
    OwnMet l Z (⟨"java/lang/StringUTF16", "compress", "([CII)[B"⟩ : MethodName) jdk_52_method_16_code 6 (some (.array .byte)) [] ({ frames := 3, cells := 2, slots := 30, locals := 40 } : Room) [(.ref b), (.int (0 : Int32)), (.int (10 : Int32))] h0 (fun v h L => ∃ (t : Addr) (kT : ClassId) (vs : List Value), v = some (.ref t) ∧ Fr n0 L ∧ Keep h0 h [] ∧ h0.size ≤ t ∧ Arv Z h t kT .byte (20 : Int32) vs (.int (0 : Int32))) := by
  refine own_body (Ls := #[.val (.ref b), .val (.int (0 : Int32)), .val (.int (10 : Int32)), .unset, .unset, .unset]) (plainFor_of_name own_pn0) (fun m => by first | (simp [entryFrame, mkF, argsToLocals, Value.category]; done) | rfl) (fun p e s m below meth cO T0 hx hby hml hown hnm hret hlk hZ X0 e0 => ?_)
  have hown : s.vm.findClass "java/lang/StringUTF16" = some m.cls := hown
  have N0 := Fr.nil n0
  have K0 := Keep.refl h0 []
  obtain ⟨hkk, hkn, hp, hya, hyb, hbad, hnk⟩ := hB
  refine g_iloadN X0 hx 1 (hb hby d5_0) rfl rfl ?_
  refine g_newP X0 hx 3 hZ (own_w hw 23 rfl) e0 (hb hby d5_1) (by decide) 10 (by decide) (by decide) (by decide) (by decide) rfl (fun T1 h1 b1 kl1 g1 X1 e1 E1 A1 => ?_)
  have G_b1 : n0 ≤ b1 := Nat.le_trans Z0 (Nat.le_of_eq g1.symm)
  have Z1 : n0 ≤ h1.size := Nat.le_trans Z0 E1.1
  have SZ_b1 : h0.size ≤ b1 := Nat.le_trans K0.1 (Nat.le_of_eq g1.symm)
  have K1 := K0.ext E1
  have V_b1 : Arv Z h1 b1 kl1 .byte (10 : Int32) [(.int (0 : Int32)), (.int (0 : Int32)), (.int (0 : Int32)), (.int (0 : Int32)), (.int (0 : Int32)), (.int (0 : Int32)), (.int (0 : Int32)), (.int (0 : Int32)), (.int (0 : Int32)), (.int (0 : Int32))] (.int (0 : Int32)) := A1.pad (pad_rep [] (.int (0 : Int32)) 10)
  refine g_astoreN X1 hx 4 #[.val (.ref b), .val (.int (0 : Int32)), .val (.int (10 : Int32)), .val (.ref b1), .unset, .unset] (hb hby d5_3) rfl rfl rfl ?_
  refine g_aloadN X1 hx 5 (hb hby d5_4) rfl rfl rfl ?_
  refine g_iloadN X1 hx 6 (hb hby d5_5) rfl rfl ?_
  refine g_aloadN X1 hx 7 (hb hby d5_6) rfl rfl rfl ?_
  refine g_iconst X1 hx 8 (0 : Int32) (hb hby d5_7) (by decide) rfl ?_
  refine g_iloadN X1 hx 9 (hb hby d5_8) rfl rfl ?_
  refine g_callS X1 hx 12 hZ hown (own_w hw 24 rfl) (own_w hw 25 rfl) (own_w hw 21 rfl) (own_w hw 26 rfl) (by decide) [(.ref b), (.int (0 : Int32)), (.ref b1), (.int (0 : Int32)), (.int (10 : Int32))] [] ((by have q := ru10_inner l Z a0 hw b b1 c0 c1 c2 c3 c4 c5 c6 c7 c8 c9 kB kl1 h1 n0 Z1 G_b1 (V_b.keep K1 nin0) V_b1 (Nat.ne_of_gt (Nat.lt_of_lt_of_le V_b.lt SZ_b1)); rw [hkk] at q; exact q)) e1 0 (by decide) (by decide) (by decide) (by decide) (by rw [hml]; rfl) (lenOf own_pd0 rfl) (hb hby d5_9) rfl (Nat.le_of_eq rfl) rfl (fun v2 T2 L2 X2 hQ2 => ?_)
  obtain ⟨rfl, N2q, K2, -⟩ := hQ2
  have N2 := Fr.app N0 N2q
  have KK2 : Keep h0 T2.heap [] := K1.trans K2 (allS (Or.inr SZ_b1) all0)
  have Z2 := Nat.le_trans Z1 K2.1
  refine g_istore X2 hx 14 #[.val (.ref b), .val (.int (0 : Int32)), .val (.int (10 : Int32)), .val (.ref b1), .val (.int kk), .unset] (hb hby d5_12) rfl rfl ?_
  refine g_iload X2 hx 16 (hb hby d5_14) rfl rfl ?_
  refine g_iloadN X2 hx 17 (hb hby d5_16) rfl rfl ?_
  have hk3 : ¬ (kk = (10 : Int32)) := hkn
  refine g_icF X2 hx 20 (hb hby d5_17) (feq hk3).1 rfl ?_
  refine g_aloadN X2 hx 21 (hb hby d5_20) rfl rfl rfl ?_
  refine g_iloadN X2 hx 22 (hb hby d5_21) rfl rfl ?_
  refine g_iloadN X2 hx 23 (hb hby d5_22) rfl rfl ?_
  refine g_callS X2 hx 26 hZ hown (own_w hw 55 rfl) (own_w hw 56 rfl) (own_w hw 21 rfl) (own_w hw 57 rfl) (by decide) [(.ref b), (.int (0 : Int32)), (.int (10 : Int32))] [] (ru10_tob l Z a0 hw b c0 c1 c2 c3 c4 c5 c6 c7 c8 c9 kB T2.heap n0 Z2 (V_b.keep KK2 nin0) (own_sta_keep S_ad KK2) (own_sta_keep S_hi KK2) (own_sta_keep S_lo KK2)) rfl 0 (by decide) (by decide) (by decide) (by decide) (by rw [hml]; rfl) (lenOf own_pd1 rfl) (hb hby d5_23) rfl (Nat.le_of_eq rfl) rfl (fun v4 T4 L4 X4 hQ4 => ?_)
  obtain ⟨t, kT, rfl, N4q, K4, hst, V_t⟩ := hQ4
  have N4 := Fr.app N2 N4q
  have hst := Nat.le_trans KK2.1 hst
  have KK4 := KK2.trans K4 all0
  have Z4 := Nat.le_trans Z2 K4.1
  refine g_astore X4 hx 28 #[.val (.ref b), .val (.int (0 : Int32)), .val (.int (10 : Int32)), .val (.ref b1), .val (.int kk), .val (.ref t)] (hb hby d5_26) rfl rfl rfl ?_
  refine g_aload X4 hx 30 (hb hby d5_28) rfl rfl rfl ?_
  refine g_iload X4 hx 32 (hb hby d5_30) rfl rfl ?_
  refine g_callS X4 hx 35 hZ hown (own_w hw 71 rfl) (own_w hw 72 rfl) (own_w hw 21 rfl) (own_w hw 73 rfl) (by decide) [(.ref t), (.int kk)] [] (ru_get l Z a0 hw t kk (20 : Int32) _ _ ja jb 20 _ kT T4.heap n0 Z4 V_t (own_sta_keep S_ad KK4) (own_sta_keep S_hi KK4) (own_sta_keep S_lo KK4) hp hya hyb) rfl 0 (by decide) (by decide) (by decide) (by decide) (by rw [hml]; rfl) (lenOf own_pd9 rfl) (hb hby d5_32) rfl (Nat.le_of_eq rfl) rfl (fun v5 T5 L5 X5 hQ5 => ?_)
  obtain ⟨rfl, N5q, e5⟩ := hQ5
  have N5 := Fr.app N4 N5q
  refine g_sipush X5 hx 38 (255 : Int32) (hb hby d5_35) (by decide) rfl ?_
  have hk6 : (255 : Int32) < (own_gc (own_lo ch) (own_hi ch)) := own_gcb _ hnk hbad
  refine g_icT X5 hx 54 (hb hby d5_38) (tlt hk6).2.2.1 (by decide) (by decide) ?_
  refine g_aload X5 hx 56 (hb hby d5_54) rfl rfl rfl ?_
  exact g_retA X5 hx hret hlk rfl rfl rfl (hb hby d5_56) (by decide) (by decide) (by rw [e5]; exact ⟨t, kT, _, rfl, N5, KK4, hst, V_t⟩)
set_option maxRecDepth 65536 in
set_option maxHeartbeats 40000000 in
theorem ru10_init2 (l : Launch) (Z : State) (a0 : Array Value) (hw : ∀ d ∈ tables_1, d.before a0 Z = true) (a b : Addr) (cs : Int32) (c0 c1 c2 c3 c4 c5 c6 c7 c8 c9 kk ch : Int32) (ja jb : Nat) (kB : ClassId) (u1 u2 : Value) (h0 : Heap) (n0 : Nat) (Z0 : n0 ≤ h0.size) (g_a : n0 ≤ a) (S_cs : Sta Z h0 "java/lang/String" "COMPACT_STRINGS" "Z" (.int cs)) (hcs : ¬ cs = 0) (S_ad : Sta Z h0 "java/lang/StringUTF16" "$assertionsDisabled" "Z" (.int 1)) (S_hi : Sta Z h0 "java/lang/StringUTF16" "HI_BYTE_SHIFT" "I" (.int 0)) (S_lo : Sta Z h0 "java/lang/StringUTF16" "LO_BYTE_SHIFT" "I" (.int 8)) (E_a : Exa Z h0 a "java/lang/String") (F_v : Fld Z h0 a "java/lang/String" "value" "[B" u1) (F_c : Fld Z h0 a "java/lang/String" "coder" "B" u2) (V_b : Arv Z h0 b kB .char (10 : Int32) [(.int c0), (.int c1), (.int c2), (.int c3), (.int c4), (.int c5), (.int c6), (.int c7), (.int c8), (.int c9)] (.int (0 : Int32))) (hB : own_bad10 c0 c1 c2 c3 c4 c5 c6 c7 c8 c9 kk ch ja jb) :
    OwnMet l Z (⟨"java/lang/String", "<init>", "([CIILjava/lang/Void;)V"⟩ : MethodName) jdk_42_method_149_code 6 none [] ({ frames := 4, cells := 2, slots := 30, locals := 58 } : Room) [(.ref a), (.ref b), (.int (0 : Int32)), (.int (10 : Int32)), .null] h0 (fun v h L => v = none ∧ Fr n0 L ∧ Keep h0 h [a] ∧ Exa Z h a "java/lang/String" ∧ Fld Z h a "java/lang/String" "coder" "B" (.int 1)) := by
  refine own_body (Ls := #[.val (.ref a), .val (.ref b), .val (.int (0 : Int32)), .val (.int (10 : Int32)), .val .null, .unset]) (plainFor_of_name own_pn1) (fun m => by first | (simp [entryFrame, mkF, argsToLocals, Value.category]; done) | rfl) (fun p e s m below meth cO T0 hx hby hml hown hnm hret hlk hZ X0 e0 => ?_)
  have hown : s.vm.findClass "java/lang/String" = some m.cls := hown
  have N0 := Fr.nil n0
  have K0 := Keep.refl h0 [a]
  refine g_aloadN X0 hx 1 (hb hby d3_0) rfl rfl rfl ?_
  refine g_initO X0 hx 4 hZ hown (own_w hw 15 rfl) (own_w hw 16 rfl) (own_w hw 17 rfl) e0 (by rw [hml]; rfl) (hb hby d3_1) (by decide) 0 (Nat.le_of_eq rfl) (by decide) rfl (fun T1 X1 e1 => ?_)
  refine g_iloadN X1 hx 5 (hb hby d3_4) rfl rfl ?_
  refine g_ifT X1 hx 27 (hb hby d3_5) (by decide) (by decide) (by decide) ?_
  refine g_getS X1 hx 30 hZ hown (host := "") (Or.inl (own_w hw 18 rfl)) Via.refl e1 S_cs (hb hby d3_27) rfl (fun T2 X2 e2 => ?_)
  have hk3 : ¬ (cs = (0 : Int32)) := hcs
  refine g_ifF X2 hx 33 (hb hby d3_30) ((if0 _ _).trans (feq hk3).1) rfl ?_
  refine g_aloadN X2 hx 34 (hb hby d3_33) rfl rfl rfl ?_
  refine g_iloadN X2 hx 35 (hb hby d3_34) rfl rfl ?_
  refine g_iloadN X2 hx 36 (hb hby d3_35) rfl rfl ?_
  refine g_callS X2 hx 39 hZ hown (own_w hw 19 rfl) (own_w hw 20 rfl) (own_w hw 21 rfl) (own_w hw 22 rfl) (by decide) [(.ref b), (.int (0 : Int32)), (.int (10 : Int32))] [] (ru10_outer l Z a0 hw b c0 c1 c2 c3 c4 c5 c6 c7 c8 c9 kk ch ja jb kB h0 n0 Z0 V_b hB S_ad S_hi S_lo) e2 0 (by decide) (by decide) (by decide) (by decide) (by rw [hml]; rfl) (lenOf own_pd1 rfl) (hb hby d3_36) rfl (Nat.le_of_eq rfl) rfl (fun v4 T4 L4 X4 hQ4 => ?_)
  obtain ⟨t, kT, vs, rfl, N4q, K4, hst, V_t⟩ := hQ4
  have N4 := Fr.app N0 N4q
  have E_a := E_a.keep K4
  have F_v := F_v.keep K4 nin0
  have F_c := F_c.keep K4 nin0
  have KK4 := K0.trans K4 all0
  have Z4 := Nat.le_trans Z0 K4.1
  have ne_t_a : t ≠ a := Ne.symm (Exa.neArv E_a V_t (own_w hw 6 rfl))
  refine g_astore X4 hx 41 #[.val (.ref a), .val (.ref b), .val (.int (0 : Int32)), .val (.int (10 : Int32)), .val .null, .val (.ref t)] (hb hby d3_39) rfl rfl rfl ?_
  refine g_aloadN X4 hx 42 (hb hby d3_41) rfl rfl rfl ?_
  refine g_aload X4 hx 44 (hb hby d3_42) rfl rfl rfl ?_
  refine g_iloadN X4 hx 45 (hb hby d3_44) rfl rfl ?_
  refine g_callS X4 hx 48 hZ hown (own_w hw 27 rfl) (own_w hw 28 rfl) (own_w hw 21 rfl) (own_w hw 29 rfl) (by decide) [(.ref t), (.int (10 : Int32))] [(.ref a)] (ru10_coder l Z a0 hw t kT _ T4.heap n0 Z4 V_t) rfl 1 (by decide) (by decide) (by decide) (by decide) (by rw [hml]; rfl) (lenOf own_pd2 rfl) (hb hby d3_45) rfl (Nat.le_of_eq rfl) rfl (fun v5 T5 L5 X5 hQ5 => ?_)
  obtain ⟨rfl, N5q, e5⟩ := hQ5
  have N5 := Fr.app N4 N5q
  refine g_putF X5 hx 51 hZ hown (host := "") (Or.inl (own_w hw 30 rfl)) Via.refl e5 F_c E_a (Or.inr ⟨(own_w hw 31 rfl), rfl, hnm⟩) (own_w hw 6 rfl) (ty := .byte) (by decide) rfl rfl (hb hby d3_48) rfl (fun T6 h6 X6 e6 W6 => ?_)
  have E_a := E_a.wr W6
  have F_v := F_v.other W6 (Or.inr (slot_ne (Or.inr (own_w hw 33 rfl)) (Or.inr (own_w hw 31 rfl)) (by decide) (t := (.array .byte)) (t' := .byte) (by decide) (by decide)))
  have F_c := F_c.same W6
  have V_t := V_t.other W6 ne_t_a
  have N6 := Fr.snoc X6 N5 g_a
  have Z6 : n0 ≤ h6.size := by rw [W6.size]; exact Z4
  have K6 := KK4.wr W6 (Or.inl (List.mem_of_getElem? (i := 0) rfl))
  refine g_aloadN X6 hx 52 (hb hby d3_51) rfl rfl rfl ?_
  refine g_aload X6 hx 54 (hb hby d3_52) rfl rfl rfl ?_
  refine g_putF X6 hx 57 hZ hown (host := "") (Or.inl (own_w hw 32 rfl)) Via.refl e6 F_v E_a (Or.inr ⟨(own_w hw 33 rfl), rfl, hnm⟩) (own_w hw 6 rfl) (ty := (.array .byte)) (by decide) rfl rfl (hb hby d3_54) rfl (fun T7 h7 X7 e7 W7 => ?_)
  have E_a := E_a.wr W7
  have F_v := F_v.same W7
  have F_c := F_c.other W7 (Or.inr (slot_ne (Or.inr (own_w hw 31 rfl)) (Or.inr (own_w hw 33 rfl)) (by decide) (t := .byte) (t' := (.array .byte)) (by decide) (by decide)))
  have V_t := V_t.other W7 ne_t_a
  have N7 := Fr.snoc X7 N6 g_a
  have Z7 : n0 ≤ h7.size := by rw [W7.size]; exact Z6
  have K7 := K6.wr W7 (Or.inl (List.mem_of_getElem? (i := 0) rfl))
  exact g_retV X7 hx hret hlk (hb hby d3_57) (by decide) (by decide) (by rw [e7]; exact ⟨rfl, N7, K7, E_a, F_c⟩)
set_option maxRecDepth 65536 in
set_option maxHeartbeats 40000000 in
theorem ru10_init1 (l : Launch) (Z : State) (a0 : Array Value) (hw : ∀ d ∈ tables_1, d.before a0 Z = true) (a b : Addr) (cs : Int32) (c0 c1 c2 c3 c4 c5 c6 c7 c8 c9 kk ch : Int32) (ja jb : Nat) (kB : ClassId) (u1 u2 : Value) (h0 : Heap) (n0 : Nat) (Z0 : n0 ≤ h0.size) (g_a : n0 ≤ a) (S_cs : Sta Z h0 "java/lang/String" "COMPACT_STRINGS" "Z" (.int cs)) (hcs : ¬ cs = 0) (S_ad : Sta Z h0 "java/lang/StringUTF16" "$assertionsDisabled" "Z" (.int 1)) (S_hi : Sta Z h0 "java/lang/StringUTF16" "HI_BYTE_SHIFT" "I" (.int 0)) (S_lo : Sta Z h0 "java/lang/StringUTF16" "LO_BYTE_SHIFT" "I" (.int 8)) (E_a : Exa Z h0 a "java/lang/String") (F_v : Fld Z h0 a "java/lang/String" "value" "[B" u1) (F_c : Fld Z h0 a "java/lang/String" "coder" "B" u2) (V_b : Arv Z h0 b kB .char (10 : Int32) [(.int c0), (.int c1), (.int c2), (.int c3), (.int c4), (.int c5), (.int c6), (.int c7), (.int c8), (.int c9)] (.int (0 : Int32))) (hB : own_bad10 c0 c1 c2 c3 c4 c5 c6 c7 c8 c9 kk ch ja jb) :
    OwnMet l Z (⟨"java/lang/String", "<init>", "([C)V"⟩ : MethodName) jdk_42_method_3_code 2 none [] ({ frames := 5, cells := 2, slots := 30, locals := 76 } : Room) [(.ref a), (.ref b)] h0 (fun v h L => v = none ∧ Fr n0 L ∧ Keep h0 h [a] ∧ Exa Z h a "java/lang/String" ∧ Fld Z h a "java/lang/String" "coder" "B" (.int 1)) := by
  refine own_body (Ls := #[.val (.ref a), .val (.ref b)]) (plainFor_of_name own_pn1) (fun m => by first | (simp [entryFrame, mkF, argsToLocals, Value.category]; done) | rfl) (fun p e s m below meth cO T0 hx hby hml hown hnm hret hlk hZ X0 e0 => ?_)
  have hown : s.vm.findClass "java/lang/String" = some m.cls := hown
  have N0 := Fr.nil n0
  refine g_aloadN X0 hx 1 (hb hby d2_0) rfl rfl rfl ?_
  refine g_aloadN X0 hx 2 (hb hby d2_1) rfl rfl rfl ?_
  refine g_iconst X0 hx 3 (0 : Int32) (hb hby d2_2) (by decide) rfl ?_
  refine g_aloadN X0 hx 4 (hb hby d2_3) rfl rfl rfl ?_
  refine g_arraylength X0 hx 5 hZ e0 V_b (hb hby d2_4) rfl ?_
  refine g_aconst_null X0 hx 6 (hb hby d2_5) rfl ?_
  refine g_callI X0 hx 9 hZ rfl hown (own_w hw 11 rfl) (own_w hw 12 rfl) (own_w hw 7 rfl) (own_w hw 14 rfl) (by decide) a [(.ref b), (.int (0 : Int32)), (.int (10 : Int32)), .null] [] (ru10_init2 l Z a0 hw a b cs c0 c1 c2 c3 c4 c5 c6 c7 c8 c9 kk ch ja jb kB u1 u2 h0 n0 Z0 g_a S_cs hcs S_ad S_hi S_lo E_a F_v F_c V_b hB) e0 0 (by decide) (by decide) (by decide) (by decide) (by rw [hml]; rfl) (lenOf own_pd3 rfl) (hb hby d2_6) rfl (Nat.le_of_eq rfl) rfl (fun v1 T1 L1 X1 hQ1 => ?_)
  obtain ⟨rfl, N1q, hR1⟩ := hQ1
  have N1 := Fr.app N0 N1q
  exact g_retV X1 hx hret hlk (hb hby d2_9) (by decide) (by decide) ⟨rfl, N1, hR1⟩
/-- the char at kk is ch, over 255; the ones ahead aren't -/
def own_bad11 (c0 c1 c2 c3 c4 c5 c6 c7 c8 c9 c10 kk ch : Int32) (ja jb : Nat) : Prop := own_fst11 c0 c1 c2 c3 c4 c5 c6 c7 c8 c9 c10 = kk ∧ ¬ kk = (11 : Int32) ∧ own_pl kk (22 : Int32) ja jb 22 ∧ ([(.int (own_lo c0)), (.int (own_hi c0)), (.int (own_lo c1)), (.int (own_hi c1)), (.int (own_lo c2)), (.int (own_hi c2)), (.int (own_lo c3)), (.int (own_hi c3)), (.int (own_lo c4)), (.int (own_hi c4)), (.int (own_lo c5)), (.int (own_hi c5)), (.int (own_lo c6)), (.int (own_hi c6)), (.int (own_lo c7)), (.int (own_hi c7)), (.int (own_lo c8)), (.int (own_hi c8)), (.int (own_lo c9)), (.int (own_hi c9)), (.int (own_lo c10)), (.int (own_hi c10))] : List Value).getD ja (.int (0 : Int32)) = .int (own_lo ch) ∧ ([(.int (own_lo c0)), (.int (own_hi c0)), (.int (own_lo c1)), (.int (own_hi c1)), (.int (own_lo c2)), (.int (own_hi c2)), (.int (own_lo c3)), (.int (own_hi c3)), (.int (own_lo c4)), (.int (own_hi c4)), (.int (own_lo c5)), (.int (own_hi c5)), (.int (own_lo c6)), (.int (own_hi c6)), (.int (own_lo c7)), (.int (own_hi c7)), (.int (own_lo c8)), (.int (own_hi c8)), (.int (own_lo c9)), (.int (own_hi c9)), (.int (own_lo c10)), (.int (own_hi c10))] : List Value).getD jb (.int (0 : Int32)) = .int (own_hi ch) ∧ 255 < ch ∧ nar .char ch = ch
set_option maxRecDepth 65536 in
set_option maxHeartbeats 40000000 in
theorem ru11_outer (l : Launch) (Z : State) (a0 : Array Value) (hw : ∀ d ∈ tables_1, d.before a0 Z = true) (b : Addr) (c0 c1 c2 c3 c4 c5 c6 c7 c8 c9 c10 kk ch : Int32) (ja jb : Nat) (kB : ClassId) (h0 : Heap) (n0 : Nat) (Z0 : n0 ≤ h0.size) (V_b : Arv Z h0 b kB .char (11 : Int32) [(.int c0), (.int c1), (.int c2), (.int c3), (.int c4), (.int c5), (.int c6), (.int c7), (.int c8), (.int c9), (.int c10)] (.int (0 : Int32))) (hB : own_bad11 c0 c1 c2 c3 c4 c5 c6 c7 c8 c9 c10 kk ch ja jb) (S_ad : Sta Z h0 "java/lang/StringUTF16" "$assertionsDisabled" "Z" (.int 1)) (S_hi : Sta Z h0 "java/lang/StringUTF16" "HI_BYTE_SHIFT" "I" (.int 0)) (S_lo : Sta Z h0 "java/lang/StringUTF16" "LO_BYTE_SHIFT" "I" (.int 8)) :
    OwnMet l Z (⟨"java/lang/StringUTF16", "compress", "([CII)[B"⟩ : MethodName) jdk_52_method_16_code 6 (some (.array .byte)) [] ({ frames := 3, cells := 2, slots := 33, locals := 40 } : Room) [(.ref b), (.int (0 : Int32)), (.int (11 : Int32))] h0 (fun v h L => ∃ (t : Addr) (kT : ClassId) (vs : List Value), v = some (.ref t) ∧ Fr n0 L ∧ Keep h0 h [] ∧ h0.size ≤ t ∧ Arv Z h t kT .byte (22 : Int32) vs (.int (0 : Int32))) := by
  refine own_body (Ls := #[.val (.ref b), .val (.int (0 : Int32)), .val (.int (11 : Int32)), .unset, .unset, .unset]) (plainFor_of_name own_pn0) (fun m => by first | (simp [entryFrame, mkF, argsToLocals, Value.category]; done) | rfl) (fun p e s m below meth cO T0 hx hby hml hown hnm hret hlk hZ X0 e0 => ?_)
  have hown : s.vm.findClass "java/lang/StringUTF16" = some m.cls := hown
  have N0 := Fr.nil n0
  have K0 := Keep.refl h0 []
  obtain ⟨hkk, hkn, hp, hya, hyb, hbad, hnk⟩ := hB
  refine g_iloadN X0 hx 1 (hb hby d5_0) rfl rfl ?_
  refine g_newP X0 hx 3 hZ (own_w hw 23 rfl) e0 (hb hby d5_1) (by decide) 11 (by decide) (by decide) (by decide) (by decide) rfl (fun T1 h1 b1 kl1 g1 X1 e1 E1 A1 => ?_)
  have G_b1 : n0 ≤ b1 := Nat.le_trans Z0 (Nat.le_of_eq g1.symm)
  have Z1 : n0 ≤ h1.size := Nat.le_trans Z0 E1.1
  have SZ_b1 : h0.size ≤ b1 := Nat.le_trans K0.1 (Nat.le_of_eq g1.symm)
  have K1 := K0.ext E1
  have V_b1 : Arv Z h1 b1 kl1 .byte (11 : Int32) [(.int (0 : Int32)), (.int (0 : Int32)), (.int (0 : Int32)), (.int (0 : Int32)), (.int (0 : Int32)), (.int (0 : Int32)), (.int (0 : Int32)), (.int (0 : Int32)), (.int (0 : Int32)), (.int (0 : Int32)), (.int (0 : Int32))] (.int (0 : Int32)) := A1.pad (pad_rep [] (.int (0 : Int32)) 11)
  refine g_astoreN X1 hx 4 #[.val (.ref b), .val (.int (0 : Int32)), .val (.int (11 : Int32)), .val (.ref b1), .unset, .unset] (hb hby d5_3) rfl rfl rfl ?_
  refine g_aloadN X1 hx 5 (hb hby d5_4) rfl rfl rfl ?_
  refine g_iloadN X1 hx 6 (hb hby d5_5) rfl rfl ?_
  refine g_aloadN X1 hx 7 (hb hby d5_6) rfl rfl rfl ?_
  refine g_iconst X1 hx 8 (0 : Int32) (hb hby d5_7) (by decide) rfl ?_
  refine g_iloadN X1 hx 9 (hb hby d5_8) rfl rfl ?_
  refine g_callS X1 hx 12 hZ hown (own_w hw 24 rfl) (own_w hw 25 rfl) (own_w hw 21 rfl) (own_w hw 26 rfl) (by decide) [(.ref b), (.int (0 : Int32)), (.ref b1), (.int (0 : Int32)), (.int (11 : Int32))] [] ((by have q := ru11_inner l Z a0 hw b b1 c0 c1 c2 c3 c4 c5 c6 c7 c8 c9 c10 kB kl1 h1 n0 Z1 G_b1 (V_b.keep K1 nin0) V_b1 (Nat.ne_of_gt (Nat.lt_of_lt_of_le V_b.lt SZ_b1)); rw [hkk] at q; exact q)) e1 0 (by decide) (by decide) (by decide) (by decide) (by rw [hml]; rfl) (lenOf own_pd0 rfl) (hb hby d5_9) rfl (Nat.le_of_eq rfl) rfl (fun v2 T2 L2 X2 hQ2 => ?_)
  obtain ⟨rfl, N2q, K2, -⟩ := hQ2
  have N2 := Fr.app N0 N2q
  have KK2 : Keep h0 T2.heap [] := K1.trans K2 (allS (Or.inr SZ_b1) all0)
  have Z2 := Nat.le_trans Z1 K2.1
  refine g_istore X2 hx 14 #[.val (.ref b), .val (.int (0 : Int32)), .val (.int (11 : Int32)), .val (.ref b1), .val (.int kk), .unset] (hb hby d5_12) rfl rfl ?_
  refine g_iload X2 hx 16 (hb hby d5_14) rfl rfl ?_
  refine g_iloadN X2 hx 17 (hb hby d5_16) rfl rfl ?_
  have hk3 : ¬ (kk = (11 : Int32)) := hkn
  refine g_icF X2 hx 20 (hb hby d5_17) (feq hk3).1 rfl ?_
  refine g_aloadN X2 hx 21 (hb hby d5_20) rfl rfl rfl ?_
  refine g_iloadN X2 hx 22 (hb hby d5_21) rfl rfl ?_
  refine g_iloadN X2 hx 23 (hb hby d5_22) rfl rfl ?_
  refine g_callS X2 hx 26 hZ hown (own_w hw 55 rfl) (own_w hw 56 rfl) (own_w hw 21 rfl) (own_w hw 57 rfl) (by decide) [(.ref b), (.int (0 : Int32)), (.int (11 : Int32))] [] (ru11_tob l Z a0 hw b c0 c1 c2 c3 c4 c5 c6 c7 c8 c9 c10 kB T2.heap n0 Z2 (V_b.keep KK2 nin0) (own_sta_keep S_ad KK2) (own_sta_keep S_hi KK2) (own_sta_keep S_lo KK2)) rfl 0 (by decide) (by decide) (by decide) (by decide) (by rw [hml]; rfl) (lenOf own_pd1 rfl) (hb hby d5_23) rfl (Nat.le_of_eq rfl) rfl (fun v4 T4 L4 X4 hQ4 => ?_)
  obtain ⟨t, kT, rfl, N4q, K4, hst, V_t⟩ := hQ4
  have N4 := Fr.app N2 N4q
  have hst := Nat.le_trans KK2.1 hst
  have KK4 := KK2.trans K4 all0
  have Z4 := Nat.le_trans Z2 K4.1
  refine g_astore X4 hx 28 #[.val (.ref b), .val (.int (0 : Int32)), .val (.int (11 : Int32)), .val (.ref b1), .val (.int kk), .val (.ref t)] (hb hby d5_26) rfl rfl rfl ?_
  refine g_aload X4 hx 30 (hb hby d5_28) rfl rfl rfl ?_
  refine g_iload X4 hx 32 (hb hby d5_30) rfl rfl ?_
  refine g_callS X4 hx 35 hZ hown (own_w hw 71 rfl) (own_w hw 72 rfl) (own_w hw 21 rfl) (own_w hw 73 rfl) (by decide) [(.ref t), (.int kk)] [] (ru_get l Z a0 hw t kk (22 : Int32) _ _ ja jb 22 _ kT T4.heap n0 Z4 V_t (own_sta_keep S_ad KK4) (own_sta_keep S_hi KK4) (own_sta_keep S_lo KK4) hp hya hyb) rfl 0 (by decide) (by decide) (by decide) (by decide) (by rw [hml]; rfl) (lenOf own_pd9 rfl) (hb hby d5_32) rfl (Nat.le_of_eq rfl) rfl (fun v5 T5 L5 X5 hQ5 => ?_)
  obtain ⟨rfl, N5q, e5⟩ := hQ5
  have N5 := Fr.app N4 N5q
  refine g_sipush X5 hx 38 (255 : Int32) (hb hby d5_35) (by decide) rfl ?_
  have hk6 : (255 : Int32) < (own_gc (own_lo ch) (own_hi ch)) := own_gcb _ hnk hbad
  refine g_icT X5 hx 54 (hb hby d5_38) (tlt hk6).2.2.1 (by decide) (by decide) ?_
  refine g_aload X5 hx 56 (hb hby d5_54) rfl rfl rfl ?_
  exact g_retA X5 hx hret hlk rfl rfl rfl (hb hby d5_56) (by decide) (by decide) (by rw [e5]; exact ⟨t, kT, _, rfl, N5, KK4, hst, V_t⟩)
set_option maxRecDepth 65536 in
set_option maxHeartbeats 40000000 in
theorem ru11_init2 (l : Launch) (Z : State) (a0 : Array Value) (hw : ∀ d ∈ tables_1, d.before a0 Z = true) (a b : Addr) (cs : Int32) (c0 c1 c2 c3 c4 c5 c6 c7 c8 c9 c10 kk ch : Int32) (ja jb : Nat) (kB : ClassId) (u1 u2 : Value) (h0 : Heap) (n0 : Nat) (Z0 : n0 ≤ h0.size) (g_a : n0 ≤ a) (S_cs : Sta Z h0 "java/lang/String" "COMPACT_STRINGS" "Z" (.int cs)) (hcs : ¬ cs = 0) (S_ad : Sta Z h0 "java/lang/StringUTF16" "$assertionsDisabled" "Z" (.int 1)) (S_hi : Sta Z h0 "java/lang/StringUTF16" "HI_BYTE_SHIFT" "I" (.int 0)) (S_lo : Sta Z h0 "java/lang/StringUTF16" "LO_BYTE_SHIFT" "I" (.int 8)) (E_a : Exa Z h0 a "java/lang/String") (F_v : Fld Z h0 a "java/lang/String" "value" "[B" u1) (F_c : Fld Z h0 a "java/lang/String" "coder" "B" u2) (V_b : Arv Z h0 b kB .char (11 : Int32) [(.int c0), (.int c1), (.int c2), (.int c3), (.int c4), (.int c5), (.int c6), (.int c7), (.int c8), (.int c9), (.int c10)] (.int (0 : Int32))) (hB : own_bad11 c0 c1 c2 c3 c4 c5 c6 c7 c8 c9 c10 kk ch ja jb) :
    OwnMet l Z (⟨"java/lang/String", "<init>", "([CIILjava/lang/Void;)V"⟩ : MethodName) jdk_42_method_149_code 6 none [] ({ frames := 4, cells := 2, slots := 33, locals := 58 } : Room) [(.ref a), (.ref b), (.int (0 : Int32)), (.int (11 : Int32)), .null] h0 (fun v h L => v = none ∧ Fr n0 L ∧ Keep h0 h [a] ∧ Exa Z h a "java/lang/String" ∧ Fld Z h a "java/lang/String" "coder" "B" (.int 1)) := by
  refine own_body (Ls := #[.val (.ref a), .val (.ref b), .val (.int (0 : Int32)), .val (.int (11 : Int32)), .val .null, .unset]) (plainFor_of_name own_pn1) (fun m => by first | (simp [entryFrame, mkF, argsToLocals, Value.category]; done) | rfl) (fun p e s m below meth cO T0 hx hby hml hown hnm hret hlk hZ X0 e0 => ?_)
  have hown : s.vm.findClass "java/lang/String" = some m.cls := hown
  have N0 := Fr.nil n0
  have K0 := Keep.refl h0 [a]
  refine g_aloadN X0 hx 1 (hb hby d3_0) rfl rfl rfl ?_
  refine g_initO X0 hx 4 hZ hown (own_w hw 15 rfl) (own_w hw 16 rfl) (own_w hw 17 rfl) e0 (by rw [hml]; rfl) (hb hby d3_1) (by decide) 0 (Nat.le_of_eq rfl) (by decide) rfl (fun T1 X1 e1 => ?_)
  refine g_iloadN X1 hx 5 (hb hby d3_4) rfl rfl ?_
  refine g_ifT X1 hx 27 (hb hby d3_5) (by decide) (by decide) (by decide) ?_
  refine g_getS X1 hx 30 hZ hown (host := "") (Or.inl (own_w hw 18 rfl)) Via.refl e1 S_cs (hb hby d3_27) rfl (fun T2 X2 e2 => ?_)
  have hk3 : ¬ (cs = (0 : Int32)) := hcs
  refine g_ifF X2 hx 33 (hb hby d3_30) ((if0 _ _).trans (feq hk3).1) rfl ?_
  refine g_aloadN X2 hx 34 (hb hby d3_33) rfl rfl rfl ?_
  refine g_iloadN X2 hx 35 (hb hby d3_34) rfl rfl ?_
  refine g_iloadN X2 hx 36 (hb hby d3_35) rfl rfl ?_
  refine g_callS X2 hx 39 hZ hown (own_w hw 19 rfl) (own_w hw 20 rfl) (own_w hw 21 rfl) (own_w hw 22 rfl) (by decide) [(.ref b), (.int (0 : Int32)), (.int (11 : Int32))] [] (ru11_outer l Z a0 hw b c0 c1 c2 c3 c4 c5 c6 c7 c8 c9 c10 kk ch ja jb kB h0 n0 Z0 V_b hB S_ad S_hi S_lo) e2 0 (by decide) (by decide) (by decide) (by decide) (by rw [hml]; rfl) (lenOf own_pd1 rfl) (hb hby d3_36) rfl (Nat.le_of_eq rfl) rfl (fun v4 T4 L4 X4 hQ4 => ?_)
  obtain ⟨t, kT, vs, rfl, N4q, K4, hst, V_t⟩ := hQ4
  have N4 := Fr.app N0 N4q
  have E_a := E_a.keep K4
  have F_v := F_v.keep K4 nin0
  have F_c := F_c.keep K4 nin0
  have KK4 := K0.trans K4 all0
  have Z4 := Nat.le_trans Z0 K4.1
  have ne_t_a : t ≠ a := Ne.symm (Exa.neArv E_a V_t (own_w hw 6 rfl))
  refine g_astore X4 hx 41 #[.val (.ref a), .val (.ref b), .val (.int (0 : Int32)), .val (.int (11 : Int32)), .val .null, .val (.ref t)] (hb hby d3_39) rfl rfl rfl ?_
  refine g_aloadN X4 hx 42 (hb hby d3_41) rfl rfl rfl ?_
  refine g_aload X4 hx 44 (hb hby d3_42) rfl rfl rfl ?_
  refine g_iloadN X4 hx 45 (hb hby d3_44) rfl rfl ?_
  refine g_callS X4 hx 48 hZ hown (own_w hw 27 rfl) (own_w hw 28 rfl) (own_w hw 21 rfl) (own_w hw 29 rfl) (by decide) [(.ref t), (.int (11 : Int32))] [(.ref a)] (ru11_coder l Z a0 hw t kT _ T4.heap n0 Z4 V_t) rfl 1 (by decide) (by decide) (by decide) (by decide) (by rw [hml]; rfl) (lenOf own_pd2 rfl) (hb hby d3_45) rfl (Nat.le_of_eq rfl) rfl (fun v5 T5 L5 X5 hQ5 => ?_)
  obtain ⟨rfl, N5q, e5⟩ := hQ5
  have N5 := Fr.app N4 N5q
  refine g_putF X5 hx 51 hZ hown (host := "") (Or.inl (own_w hw 30 rfl)) Via.refl e5 F_c E_a (Or.inr ⟨(own_w hw 31 rfl), rfl, hnm⟩) (own_w hw 6 rfl) (ty := .byte) (by decide) rfl rfl (hb hby d3_48) rfl (fun T6 h6 X6 e6 W6 => ?_)
  have E_a := E_a.wr W6
  have F_v := F_v.other W6 (Or.inr (slot_ne (Or.inr (own_w hw 33 rfl)) (Or.inr (own_w hw 31 rfl)) (by decide) (t := (.array .byte)) (t' := .byte) (by decide) (by decide)))
  have F_c := F_c.same W6
  have V_t := V_t.other W6 ne_t_a
  have N6 := Fr.snoc X6 N5 g_a
  have Z6 : n0 ≤ h6.size := by rw [W6.size]; exact Z4
  have K6 := KK4.wr W6 (Or.inl (List.mem_of_getElem? (i := 0) rfl))
  refine g_aloadN X6 hx 52 (hb hby d3_51) rfl rfl rfl ?_
  refine g_aload X6 hx 54 (hb hby d3_52) rfl rfl rfl ?_
  refine g_putF X6 hx 57 hZ hown (host := "") (Or.inl (own_w hw 32 rfl)) Via.refl e6 F_v E_a (Or.inr ⟨(own_w hw 33 rfl), rfl, hnm⟩) (own_w hw 6 rfl) (ty := (.array .byte)) (by decide) rfl rfl (hb hby d3_54) rfl (fun T7 h7 X7 e7 W7 => ?_)
  have E_a := E_a.wr W7
  have F_v := F_v.same W7
  have F_c := F_c.other W7 (Or.inr (slot_ne (Or.inr (own_w hw 31 rfl)) (Or.inr (own_w hw 33 rfl)) (by decide) (t := .byte) (t' := (.array .byte)) (by decide) (by decide)))
  have V_t := V_t.other W7 ne_t_a
  have N7 := Fr.snoc X7 N6 g_a
  have Z7 : n0 ≤ h7.size := by rw [W7.size]; exact Z6
  have K7 := K6.wr W7 (Or.inl (List.mem_of_getElem? (i := 0) rfl))
  exact g_retV X7 hx hret hlk (hb hby d3_57) (by decide) (by decide) (by rw [e7]; exact ⟨rfl, N7, K7, E_a, F_c⟩)
set_option maxRecDepth 65536 in
set_option maxHeartbeats 40000000 in
theorem ru11_init1 (l : Launch) (Z : State) (a0 : Array Value) (hw : ∀ d ∈ tables_1, d.before a0 Z = true) (a b : Addr) (cs : Int32) (c0 c1 c2 c3 c4 c5 c6 c7 c8 c9 c10 kk ch : Int32) (ja jb : Nat) (kB : ClassId) (u1 u2 : Value) (h0 : Heap) (n0 : Nat) (Z0 : n0 ≤ h0.size) (g_a : n0 ≤ a) (S_cs : Sta Z h0 "java/lang/String" "COMPACT_STRINGS" "Z" (.int cs)) (hcs : ¬ cs = 0) (S_ad : Sta Z h0 "java/lang/StringUTF16" "$assertionsDisabled" "Z" (.int 1)) (S_hi : Sta Z h0 "java/lang/StringUTF16" "HI_BYTE_SHIFT" "I" (.int 0)) (S_lo : Sta Z h0 "java/lang/StringUTF16" "LO_BYTE_SHIFT" "I" (.int 8)) (E_a : Exa Z h0 a "java/lang/String") (F_v : Fld Z h0 a "java/lang/String" "value" "[B" u1) (F_c : Fld Z h0 a "java/lang/String" "coder" "B" u2) (V_b : Arv Z h0 b kB .char (11 : Int32) [(.int c0), (.int c1), (.int c2), (.int c3), (.int c4), (.int c5), (.int c6), (.int c7), (.int c8), (.int c9), (.int c10)] (.int (0 : Int32))) (hB : own_bad11 c0 c1 c2 c3 c4 c5 c6 c7 c8 c9 c10 kk ch ja jb) :
    OwnMet l Z (⟨"java/lang/String", "<init>", "([C)V"⟩ : MethodName) jdk_42_method_3_code 2 none [] ({ frames := 5, cells := 2, slots := 33, locals := 76 } : Room) [(.ref a), (.ref b)] h0 (fun v h L => v = none ∧ Fr n0 L ∧ Keep h0 h [a] ∧ Exa Z h a "java/lang/String" ∧ Fld Z h a "java/lang/String" "coder" "B" (.int 1)) := by
  refine own_body (Ls := #[.val (.ref a), .val (.ref b)]) (plainFor_of_name own_pn1) (fun m => by first | (simp [entryFrame, mkF, argsToLocals, Value.category]; done) | rfl) (fun p e s m below meth cO T0 hx hby hml hown hnm hret hlk hZ X0 e0 => ?_)
  have hown : s.vm.findClass "java/lang/String" = some m.cls := hown
  have N0 := Fr.nil n0
  refine g_aloadN X0 hx 1 (hb hby d2_0) rfl rfl rfl ?_
  refine g_aloadN X0 hx 2 (hb hby d2_1) rfl rfl rfl ?_
  refine g_iconst X0 hx 3 (0 : Int32) (hb hby d2_2) (by decide) rfl ?_
  refine g_aloadN X0 hx 4 (hb hby d2_3) rfl rfl rfl ?_
  refine g_arraylength X0 hx 5 hZ e0 V_b (hb hby d2_4) rfl ?_
  refine g_aconst_null X0 hx 6 (hb hby d2_5) rfl ?_
  refine g_callI X0 hx 9 hZ rfl hown (own_w hw 11 rfl) (own_w hw 12 rfl) (own_w hw 7 rfl) (own_w hw 14 rfl) (by decide) a [(.ref b), (.int (0 : Int32)), (.int (11 : Int32)), .null] [] (ru11_init2 l Z a0 hw a b cs c0 c1 c2 c3 c4 c5 c6 c7 c8 c9 c10 kk ch ja jb kB u1 u2 h0 n0 Z0 g_a S_cs hcs S_ad S_hi S_lo E_a F_v F_c V_b hB) e0 0 (by decide) (by decide) (by decide) (by decide) (by rw [hml]; rfl) (lenOf own_pd3 rfl) (hb hby d2_6) rfl (Nat.le_of_eq rfl) rfl (fun v1 T1 L1 X1 hQ1 => ?_)
  obtain ⟨rfl, N1q, hR1⟩ := hQ1
  have N1 := Fr.app N0 N1q
  exact g_retV X1 hx hret hlk (hb hby d2_9) (by decide) (by decide) ⟨rfl, N1, hR1⟩
/-- the char at kk is ch, over 255; the ones ahead aren't -/
def own_bad12 (c0 c1 c2 c3 c4 c5 c6 c7 c8 c9 c10 c11 kk ch : Int32) (ja jb : Nat) : Prop := own_fst12 c0 c1 c2 c3 c4 c5 c6 c7 c8 c9 c10 c11 = kk ∧ ¬ kk = (12 : Int32) ∧ own_pl kk (24 : Int32) ja jb 24 ∧ ([(.int (own_lo c0)), (.int (own_hi c0)), (.int (own_lo c1)), (.int (own_hi c1)), (.int (own_lo c2)), (.int (own_hi c2)), (.int (own_lo c3)), (.int (own_hi c3)), (.int (own_lo c4)), (.int (own_hi c4)), (.int (own_lo c5)), (.int (own_hi c5)), (.int (own_lo c6)), (.int (own_hi c6)), (.int (own_lo c7)), (.int (own_hi c7)), (.int (own_lo c8)), (.int (own_hi c8)), (.int (own_lo c9)), (.int (own_hi c9)), (.int (own_lo c10)), (.int (own_hi c10)), (.int (own_lo c11)), (.int (own_hi c11))] : List Value).getD ja (.int (0 : Int32)) = .int (own_lo ch) ∧ ([(.int (own_lo c0)), (.int (own_hi c0)), (.int (own_lo c1)), (.int (own_hi c1)), (.int (own_lo c2)), (.int (own_hi c2)), (.int (own_lo c3)), (.int (own_hi c3)), (.int (own_lo c4)), (.int (own_hi c4)), (.int (own_lo c5)), (.int (own_hi c5)), (.int (own_lo c6)), (.int (own_hi c6)), (.int (own_lo c7)), (.int (own_hi c7)), (.int (own_lo c8)), (.int (own_hi c8)), (.int (own_lo c9)), (.int (own_hi c9)), (.int (own_lo c10)), (.int (own_hi c10)), (.int (own_lo c11)), (.int (own_hi c11))] : List Value).getD jb (.int (0 : Int32)) = .int (own_hi ch) ∧ 255 < ch ∧ nar .char ch = ch
set_option maxRecDepth 65536 in
set_option maxHeartbeats 40000000 in
theorem ru12_outer (l : Launch) (Z : State) (a0 : Array Value) (hw : ∀ d ∈ tables_1, d.before a0 Z = true) (b : Addr) (c0 c1 c2 c3 c4 c5 c6 c7 c8 c9 c10 c11 kk ch : Int32) (ja jb : Nat) (kB : ClassId) (h0 : Heap) (n0 : Nat) (Z0 : n0 ≤ h0.size) (V_b : Arv Z h0 b kB .char (12 : Int32) [(.int c0), (.int c1), (.int c2), (.int c3), (.int c4), (.int c5), (.int c6), (.int c7), (.int c8), (.int c9), (.int c10), (.int c11)] (.int (0 : Int32))) (hB : own_bad12 c0 c1 c2 c3 c4 c5 c6 c7 c8 c9 c10 c11 kk ch ja jb) (S_ad : Sta Z h0 "java/lang/StringUTF16" "$assertionsDisabled" "Z" (.int 1)) (S_hi : Sta Z h0 "java/lang/StringUTF16" "HI_BYTE_SHIFT" "I" (.int 0)) (S_lo : Sta Z h0 "java/lang/StringUTF16" "LO_BYTE_SHIFT" "I" (.int 8)) :
    OwnMet l Z (⟨"java/lang/StringUTF16", "compress", "([CII)[B"⟩ : MethodName) jdk_52_method_16_code 6 (some (.array .byte)) [] ({ frames := 3, cells := 2, slots := 36, locals := 40 } : Room) [(.ref b), (.int (0 : Int32)), (.int (12 : Int32))] h0 (fun v h L => ∃ (t : Addr) (kT : ClassId) (vs : List Value), v = some (.ref t) ∧ Fr n0 L ∧ Keep h0 h [] ∧ h0.size ≤ t ∧ Arv Z h t kT .byte (24 : Int32) vs (.int (0 : Int32))) := by
  refine own_body (Ls := #[.val (.ref b), .val (.int (0 : Int32)), .val (.int (12 : Int32)), .unset, .unset, .unset]) (plainFor_of_name own_pn0) (fun m => by first | (simp [entryFrame, mkF, argsToLocals, Value.category]; done) | rfl) (fun p e s m below meth cO T0 hx hby hml hown hnm hret hlk hZ X0 e0 => ?_)
  have hown : s.vm.findClass "java/lang/StringUTF16" = some m.cls := hown
  have N0 := Fr.nil n0
  have K0 := Keep.refl h0 []
  obtain ⟨hkk, hkn, hp, hya, hyb, hbad, hnk⟩ := hB
  refine g_iloadN X0 hx 1 (hb hby d5_0) rfl rfl ?_
  refine g_newP X0 hx 3 hZ (own_w hw 23 rfl) e0 (hb hby d5_1) (by decide) 12 (by decide) (by decide) (by decide) (by decide) rfl (fun T1 h1 b1 kl1 g1 X1 e1 E1 A1 => ?_)
  have G_b1 : n0 ≤ b1 := Nat.le_trans Z0 (Nat.le_of_eq g1.symm)
  have Z1 : n0 ≤ h1.size := Nat.le_trans Z0 E1.1
  have SZ_b1 : h0.size ≤ b1 := Nat.le_trans K0.1 (Nat.le_of_eq g1.symm)
  have K1 := K0.ext E1
  have V_b1 : Arv Z h1 b1 kl1 .byte (12 : Int32) [(.int (0 : Int32)), (.int (0 : Int32)), (.int (0 : Int32)), (.int (0 : Int32)), (.int (0 : Int32)), (.int (0 : Int32)), (.int (0 : Int32)), (.int (0 : Int32)), (.int (0 : Int32)), (.int (0 : Int32)), (.int (0 : Int32)), (.int (0 : Int32))] (.int (0 : Int32)) := A1.pad (pad_rep [] (.int (0 : Int32)) 12)
  refine g_astoreN X1 hx 4 #[.val (.ref b), .val (.int (0 : Int32)), .val (.int (12 : Int32)), .val (.ref b1), .unset, .unset] (hb hby d5_3) rfl rfl rfl ?_
  refine g_aloadN X1 hx 5 (hb hby d5_4) rfl rfl rfl ?_
  refine g_iloadN X1 hx 6 (hb hby d5_5) rfl rfl ?_
  refine g_aloadN X1 hx 7 (hb hby d5_6) rfl rfl rfl ?_
  refine g_iconst X1 hx 8 (0 : Int32) (hb hby d5_7) (by decide) rfl ?_
  refine g_iloadN X1 hx 9 (hb hby d5_8) rfl rfl ?_
  refine g_callS X1 hx 12 hZ hown (own_w hw 24 rfl) (own_w hw 25 rfl) (own_w hw 21 rfl) (own_w hw 26 rfl) (by decide) [(.ref b), (.int (0 : Int32)), (.ref b1), (.int (0 : Int32)), (.int (12 : Int32))] [] ((by have q := ru12_inner l Z a0 hw b b1 c0 c1 c2 c3 c4 c5 c6 c7 c8 c9 c10 c11 kB kl1 h1 n0 Z1 G_b1 (V_b.keep K1 nin0) V_b1 (Nat.ne_of_gt (Nat.lt_of_lt_of_le V_b.lt SZ_b1)); rw [hkk] at q; exact q)) e1 0 (by decide) (by decide) (by decide) (by decide) (by rw [hml]; rfl) (lenOf own_pd0 rfl) (hb hby d5_9) rfl (Nat.le_of_eq rfl) rfl (fun v2 T2 L2 X2 hQ2 => ?_)
  obtain ⟨rfl, N2q, K2, -⟩ := hQ2
  have N2 := Fr.app N0 N2q
  have KK2 : Keep h0 T2.heap [] := K1.trans K2 (allS (Or.inr SZ_b1) all0)
  have Z2 := Nat.le_trans Z1 K2.1
  refine g_istore X2 hx 14 #[.val (.ref b), .val (.int (0 : Int32)), .val (.int (12 : Int32)), .val (.ref b1), .val (.int kk), .unset] (hb hby d5_12) rfl rfl ?_
  refine g_iload X2 hx 16 (hb hby d5_14) rfl rfl ?_
  refine g_iloadN X2 hx 17 (hb hby d5_16) rfl rfl ?_
  have hk3 : ¬ (kk = (12 : Int32)) := hkn
  refine g_icF X2 hx 20 (hb hby d5_17) (feq hk3).1 rfl ?_
  refine g_aloadN X2 hx 21 (hb hby d5_20) rfl rfl rfl ?_
  refine g_iloadN X2 hx 22 (hb hby d5_21) rfl rfl ?_
  refine g_iloadN X2 hx 23 (hb hby d5_22) rfl rfl ?_
  refine g_callS X2 hx 26 hZ hown (own_w hw 55 rfl) (own_w hw 56 rfl) (own_w hw 21 rfl) (own_w hw 57 rfl) (by decide) [(.ref b), (.int (0 : Int32)), (.int (12 : Int32))] [] (ru12_tob l Z a0 hw b c0 c1 c2 c3 c4 c5 c6 c7 c8 c9 c10 c11 kB T2.heap n0 Z2 (V_b.keep KK2 nin0) (own_sta_keep S_ad KK2) (own_sta_keep S_hi KK2) (own_sta_keep S_lo KK2)) rfl 0 (by decide) (by decide) (by decide) (by decide) (by rw [hml]; rfl) (lenOf own_pd1 rfl) (hb hby d5_23) rfl (Nat.le_of_eq rfl) rfl (fun v4 T4 L4 X4 hQ4 => ?_)
  obtain ⟨t, kT, rfl, N4q, K4, hst, V_t⟩ := hQ4
  have N4 := Fr.app N2 N4q
  have hst := Nat.le_trans KK2.1 hst
  have KK4 := KK2.trans K4 all0
  have Z4 := Nat.le_trans Z2 K4.1
  refine g_astore X4 hx 28 #[.val (.ref b), .val (.int (0 : Int32)), .val (.int (12 : Int32)), .val (.ref b1), .val (.int kk), .val (.ref t)] (hb hby d5_26) rfl rfl rfl ?_
  refine g_aload X4 hx 30 (hb hby d5_28) rfl rfl rfl ?_
  refine g_iload X4 hx 32 (hb hby d5_30) rfl rfl ?_
  refine g_callS X4 hx 35 hZ hown (own_w hw 71 rfl) (own_w hw 72 rfl) (own_w hw 21 rfl) (own_w hw 73 rfl) (by decide) [(.ref t), (.int kk)] [] (ru_get l Z a0 hw t kk (24 : Int32) _ _ ja jb 24 _ kT T4.heap n0 Z4 V_t (own_sta_keep S_ad KK4) (own_sta_keep S_hi KK4) (own_sta_keep S_lo KK4) hp hya hyb) rfl 0 (by decide) (by decide) (by decide) (by decide) (by rw [hml]; rfl) (lenOf own_pd9 rfl) (hb hby d5_32) rfl (Nat.le_of_eq rfl) rfl (fun v5 T5 L5 X5 hQ5 => ?_)
  obtain ⟨rfl, N5q, e5⟩ := hQ5
  have N5 := Fr.app N4 N5q
  refine g_sipush X5 hx 38 (255 : Int32) (hb hby d5_35) (by decide) rfl ?_
  have hk6 : (255 : Int32) < (own_gc (own_lo ch) (own_hi ch)) := own_gcb _ hnk hbad
  refine g_icT X5 hx 54 (hb hby d5_38) (tlt hk6).2.2.1 (by decide) (by decide) ?_
  refine g_aload X5 hx 56 (hb hby d5_54) rfl rfl rfl ?_
  exact g_retA X5 hx hret hlk rfl rfl rfl (hb hby d5_56) (by decide) (by decide) (by rw [e5]; exact ⟨t, kT, _, rfl, N5, KK4, hst, V_t⟩)
set_option maxRecDepth 65536 in
set_option maxHeartbeats 40000000 in
theorem ru12_init2 (l : Launch) (Z : State) (a0 : Array Value) (hw : ∀ d ∈ tables_1, d.before a0 Z = true) (a b : Addr) (cs : Int32) (c0 c1 c2 c3 c4 c5 c6 c7 c8 c9 c10 c11 kk ch : Int32) (ja jb : Nat) (kB : ClassId) (u1 u2 : Value) (h0 : Heap) (n0 : Nat) (Z0 : n0 ≤ h0.size) (g_a : n0 ≤ a) (S_cs : Sta Z h0 "java/lang/String" "COMPACT_STRINGS" "Z" (.int cs)) (hcs : ¬ cs = 0) (S_ad : Sta Z h0 "java/lang/StringUTF16" "$assertionsDisabled" "Z" (.int 1)) (S_hi : Sta Z h0 "java/lang/StringUTF16" "HI_BYTE_SHIFT" "I" (.int 0)) (S_lo : Sta Z h0 "java/lang/StringUTF16" "LO_BYTE_SHIFT" "I" (.int 8)) (E_a : Exa Z h0 a "java/lang/String") (F_v : Fld Z h0 a "java/lang/String" "value" "[B" u1) (F_c : Fld Z h0 a "java/lang/String" "coder" "B" u2) (V_b : Arv Z h0 b kB .char (12 : Int32) [(.int c0), (.int c1), (.int c2), (.int c3), (.int c4), (.int c5), (.int c6), (.int c7), (.int c8), (.int c9), (.int c10), (.int c11)] (.int (0 : Int32))) (hB : own_bad12 c0 c1 c2 c3 c4 c5 c6 c7 c8 c9 c10 c11 kk ch ja jb) :
    OwnMet l Z (⟨"java/lang/String", "<init>", "([CIILjava/lang/Void;)V"⟩ : MethodName) jdk_42_method_149_code 6 none [] ({ frames := 4, cells := 2, slots := 36, locals := 58 } : Room) [(.ref a), (.ref b), (.int (0 : Int32)), (.int (12 : Int32)), .null] h0 (fun v h L => v = none ∧ Fr n0 L ∧ Keep h0 h [a] ∧ Exa Z h a "java/lang/String" ∧ Fld Z h a "java/lang/String" "coder" "B" (.int 1)) := by
  refine own_body (Ls := #[.val (.ref a), .val (.ref b), .val (.int (0 : Int32)), .val (.int (12 : Int32)), .val .null, .unset]) (plainFor_of_name own_pn1) (fun m => by first | (simp [entryFrame, mkF, argsToLocals, Value.category]; done) | rfl) (fun p e s m below meth cO T0 hx hby hml hown hnm hret hlk hZ X0 e0 => ?_)
  have hown : s.vm.findClass "java/lang/String" = some m.cls := hown
  have N0 := Fr.nil n0
  have K0 := Keep.refl h0 [a]
  refine g_aloadN X0 hx 1 (hb hby d3_0) rfl rfl rfl ?_
  refine g_initO X0 hx 4 hZ hown (own_w hw 15 rfl) (own_w hw 16 rfl) (own_w hw 17 rfl) e0 (by rw [hml]; rfl) (hb hby d3_1) (by decide) 0 (Nat.le_of_eq rfl) (by decide) rfl (fun T1 X1 e1 => ?_)
  refine g_iloadN X1 hx 5 (hb hby d3_4) rfl rfl ?_
  refine g_ifT X1 hx 27 (hb hby d3_5) (by decide) (by decide) (by decide) ?_
  refine g_getS X1 hx 30 hZ hown (host := "") (Or.inl (own_w hw 18 rfl)) Via.refl e1 S_cs (hb hby d3_27) rfl (fun T2 X2 e2 => ?_)
  have hk3 : ¬ (cs = (0 : Int32)) := hcs
  refine g_ifF X2 hx 33 (hb hby d3_30) ((if0 _ _).trans (feq hk3).1) rfl ?_
  refine g_aloadN X2 hx 34 (hb hby d3_33) rfl rfl rfl ?_
  refine g_iloadN X2 hx 35 (hb hby d3_34) rfl rfl ?_
  refine g_iloadN X2 hx 36 (hb hby d3_35) rfl rfl ?_
  refine g_callS X2 hx 39 hZ hown (own_w hw 19 rfl) (own_w hw 20 rfl) (own_w hw 21 rfl) (own_w hw 22 rfl) (by decide) [(.ref b), (.int (0 : Int32)), (.int (12 : Int32))] [] (ru12_outer l Z a0 hw b c0 c1 c2 c3 c4 c5 c6 c7 c8 c9 c10 c11 kk ch ja jb kB h0 n0 Z0 V_b hB S_ad S_hi S_lo) e2 0 (by decide) (by decide) (by decide) (by decide) (by rw [hml]; rfl) (lenOf own_pd1 rfl) (hb hby d3_36) rfl (Nat.le_of_eq rfl) rfl (fun v4 T4 L4 X4 hQ4 => ?_)
  obtain ⟨t, kT, vs, rfl, N4q, K4, hst, V_t⟩ := hQ4
  have N4 := Fr.app N0 N4q
  have E_a := E_a.keep K4
  have F_v := F_v.keep K4 nin0
  have F_c := F_c.keep K4 nin0
  have KK4 := K0.trans K4 all0
  have Z4 := Nat.le_trans Z0 K4.1
  have ne_t_a : t ≠ a := Ne.symm (Exa.neArv E_a V_t (own_w hw 6 rfl))
  refine g_astore X4 hx 41 #[.val (.ref a), .val (.ref b), .val (.int (0 : Int32)), .val (.int (12 : Int32)), .val .null, .val (.ref t)] (hb hby d3_39) rfl rfl rfl ?_
  refine g_aloadN X4 hx 42 (hb hby d3_41) rfl rfl rfl ?_
  refine g_aload X4 hx 44 (hb hby d3_42) rfl rfl rfl ?_
  refine g_iloadN X4 hx 45 (hb hby d3_44) rfl rfl ?_
  refine g_callS X4 hx 48 hZ hown (own_w hw 27 rfl) (own_w hw 28 rfl) (own_w hw 21 rfl) (own_w hw 29 rfl) (by decide) [(.ref t), (.int (12 : Int32))] [(.ref a)] (ru12_coder l Z a0 hw t kT _ T4.heap n0 Z4 V_t) rfl 1 (by decide) (by decide) (by decide) (by decide) (by rw [hml]; rfl) (lenOf own_pd2 rfl) (hb hby d3_45) rfl (Nat.le_of_eq rfl) rfl (fun v5 T5 L5 X5 hQ5 => ?_)
  obtain ⟨rfl, N5q, e5⟩ := hQ5
  have N5 := Fr.app N4 N5q
  refine g_putF X5 hx 51 hZ hown (host := "") (Or.inl (own_w hw 30 rfl)) Via.refl e5 F_c E_a (Or.inr ⟨(own_w hw 31 rfl), rfl, hnm⟩) (own_w hw 6 rfl) (ty := .byte) (by decide) rfl rfl (hb hby d3_48) rfl (fun T6 h6 X6 e6 W6 => ?_)
  have E_a := E_a.wr W6
  have F_v := F_v.other W6 (Or.inr (slot_ne (Or.inr (own_w hw 33 rfl)) (Or.inr (own_w hw 31 rfl)) (by decide) (t := (.array .byte)) (t' := .byte) (by decide) (by decide)))
  have F_c := F_c.same W6
  have V_t := V_t.other W6 ne_t_a
  have N6 := Fr.snoc X6 N5 g_a
  have Z6 : n0 ≤ h6.size := by rw [W6.size]; exact Z4
  have K6 := KK4.wr W6 (Or.inl (List.mem_of_getElem? (i := 0) rfl))
  refine g_aloadN X6 hx 52 (hb hby d3_51) rfl rfl rfl ?_
  refine g_aload X6 hx 54 (hb hby d3_52) rfl rfl rfl ?_
  refine g_putF X6 hx 57 hZ hown (host := "") (Or.inl (own_w hw 32 rfl)) Via.refl e6 F_v E_a (Or.inr ⟨(own_w hw 33 rfl), rfl, hnm⟩) (own_w hw 6 rfl) (ty := (.array .byte)) (by decide) rfl rfl (hb hby d3_54) rfl (fun T7 h7 X7 e7 W7 => ?_)
  have E_a := E_a.wr W7
  have F_v := F_v.same W7
  have F_c := F_c.other W7 (Or.inr (slot_ne (Or.inr (own_w hw 31 rfl)) (Or.inr (own_w hw 33 rfl)) (by decide) (t := .byte) (t' := (.array .byte)) (by decide) (by decide)))
  have V_t := V_t.other W7 ne_t_a
  have N7 := Fr.snoc X7 N6 g_a
  have Z7 : n0 ≤ h7.size := by rw [W7.size]; exact Z6
  have K7 := K6.wr W7 (Or.inl (List.mem_of_getElem? (i := 0) rfl))
  exact g_retV X7 hx hret hlk (hb hby d3_57) (by decide) (by decide) (by rw [e7]; exact ⟨rfl, N7, K7, E_a, F_c⟩)
set_option maxRecDepth 65536 in
set_option maxHeartbeats 40000000 in
theorem ru12_init1 (l : Launch) (Z : State) (a0 : Array Value) (hw : ∀ d ∈ tables_1, d.before a0 Z = true) (a b : Addr) (cs : Int32) (c0 c1 c2 c3 c4 c5 c6 c7 c8 c9 c10 c11 kk ch : Int32) (ja jb : Nat) (kB : ClassId) (u1 u2 : Value) (h0 : Heap) (n0 : Nat) (Z0 : n0 ≤ h0.size) (g_a : n0 ≤ a) (S_cs : Sta Z h0 "java/lang/String" "COMPACT_STRINGS" "Z" (.int cs)) (hcs : ¬ cs = 0) (S_ad : Sta Z h0 "java/lang/StringUTF16" "$assertionsDisabled" "Z" (.int 1)) (S_hi : Sta Z h0 "java/lang/StringUTF16" "HI_BYTE_SHIFT" "I" (.int 0)) (S_lo : Sta Z h0 "java/lang/StringUTF16" "LO_BYTE_SHIFT" "I" (.int 8)) (E_a : Exa Z h0 a "java/lang/String") (F_v : Fld Z h0 a "java/lang/String" "value" "[B" u1) (F_c : Fld Z h0 a "java/lang/String" "coder" "B" u2) (V_b : Arv Z h0 b kB .char (12 : Int32) [(.int c0), (.int c1), (.int c2), (.int c3), (.int c4), (.int c5), (.int c6), (.int c7), (.int c8), (.int c9), (.int c10), (.int c11)] (.int (0 : Int32))) (hB : own_bad12 c0 c1 c2 c3 c4 c5 c6 c7 c8 c9 c10 c11 kk ch ja jb) :
    OwnMet l Z (⟨"java/lang/String", "<init>", "([C)V"⟩ : MethodName) jdk_42_method_3_code 2 none [] ({ frames := 5, cells := 2, slots := 36, locals := 76 } : Room) [(.ref a), (.ref b)] h0 (fun v h L => v = none ∧ Fr n0 L ∧ Keep h0 h [a] ∧ Exa Z h a "java/lang/String" ∧ Fld Z h a "java/lang/String" "coder" "B" (.int 1)) := by
  refine own_body (Ls := #[.val (.ref a), .val (.ref b)]) (plainFor_of_name own_pn1) (fun m => by first | (simp [entryFrame, mkF, argsToLocals, Value.category]; done) | rfl) (fun p e s m below meth cO T0 hx hby hml hown hnm hret hlk hZ X0 e0 => ?_)
  have hown : s.vm.findClass "java/lang/String" = some m.cls := hown
  have N0 := Fr.nil n0
  refine g_aloadN X0 hx 1 (hb hby d2_0) rfl rfl rfl ?_
  refine g_aloadN X0 hx 2 (hb hby d2_1) rfl rfl rfl ?_
  refine g_iconst X0 hx 3 (0 : Int32) (hb hby d2_2) (by decide) rfl ?_
  refine g_aloadN X0 hx 4 (hb hby d2_3) rfl rfl rfl ?_
  refine g_arraylength X0 hx 5 hZ e0 V_b (hb hby d2_4) rfl ?_
  refine g_aconst_null X0 hx 6 (hb hby d2_5) rfl ?_
  refine g_callI X0 hx 9 hZ rfl hown (own_w hw 11 rfl) (own_w hw 12 rfl) (own_w hw 7 rfl) (own_w hw 14 rfl) (by decide) a [(.ref b), (.int (0 : Int32)), (.int (12 : Int32)), .null] [] (ru12_init2 l Z a0 hw a b cs c0 c1 c2 c3 c4 c5 c6 c7 c8 c9 c10 c11 kk ch ja jb kB u1 u2 h0 n0 Z0 g_a S_cs hcs S_ad S_hi S_lo E_a F_v F_c V_b hB) e0 0 (by decide) (by decide) (by decide) (by decide) (by rw [hml]; rfl) (lenOf own_pd3 rfl) (hb hby d2_6) rfl (Nat.le_of_eq rfl) rfl (fun v1 T1 L1 X1 hQ1 => ?_)
  obtain ⟨rfl, N1q, hR1⟩ := hQ1
  have N1 := Fr.app N0 N1q
  exact g_retV X1 hx hret hlk (hb hby d2_9) (by decide) (by decide) ⟨rfl, N1, hR1⟩
theorem own_iswb (c0 c1 c2 c3 c4 c5 c6 c7 c8 c9 c10 : Int32) (nc0 : nar .char c0 = c0) (hc0 : ¬ 255 < c0) (nc1 : nar .char c1 = c1) (hc1 : ¬ 255 < c1) (nc2 : nar .char c2 = c2) (hc2 : ¬ 255 < c2) (nc3 : nar .char c3 = c3) (hc3 : ¬ 255 < c3) (nc4 : nar .char c4 = c4) (hc4 : ¬ 255 < c4) (nc5 : nar .char c5 = c5) (hc5 : ¬ 255 < c5) (nc6 : nar .char c6 = c6) (hc6 : ¬ 255 < c6) (nc7 : nar .char c7 = c7) (hc7 : ¬ 255 < c7) (nc8 : nar .char c8 = c8) (hc8 : ¬ 255 < c8) (nc9 : nar .char c9 = c9) (hc9 : ¬ 255 < c9) (nc10 : nar .char c10 = c10) (hc10 : ¬ 255 < c10) : own_isw (own_bt c0) (own_bt c1) (own_bt c2) (own_bt c3) (own_bt c4) (own_bt c5) (own_bt c6) (own_bt c7) (own_bt c8) (own_bt c9) (own_bt c10) = own_isw c0 c1 c2 c3 c4 c5 c6 c7 c8 c9 c10 := by
  unfold own_isw
  simp only [own_bt_eq c0 105 nc0 hc0 (by decide) (by decide), own_bt_eq c1 115 nc1 hc1 (by decide) (by decide), own_bt_eq c2 69 nc2 hc2 (by decide) (by decide), own_bt_eq c3 120 nc3 hc3 (by decide) (by decide), own_bt_eq c4 104 nc4 hc4 (by decide) (by decide), own_bt_eq c5 97 nc5 hc5 (by decide) (by decide), own_bt_eq c6 117 nc6 hc6 (by decide) (by decide), own_bt_eq c7 115 nc7 hc7 (by decide) (by decide), own_bt_eq c8 116 nc8 hc8 (by decide) (by decide), own_bt_eq c9 101 nc9 hc9 (by decide) (by decide), own_bt_eq c10 100 nc10 hc10 (by decide) (by decide)]
section OwnWords
variable {args : Array Value} {first s : State} {o : Option Outcome} {idx : List Nat} {t u : Term} {Z : State} {a : Addr} {cl : Cell} {ty : FieldType}
theorem own_int_v {k : Int32} (h : (Jvm.Cond.eq t (.int k)).value args first o s idx = some true) : t.eval args first o idx s = some (.int k) := by
  simp only [Cond.value, Term.eval] at h
  cases ht : t.eval args first o idx s with
  | none => simp [ht] at h
  | some x => cases x <;> simp [ht] at h ⊢; exact h
theorem own_ref_v (h : (Jvm.Cond.eq t u).value args first o s idx = some true) (hu : u.eval args first o idx s = some (.ref a)) : t.eval args first o idx s = some (.ref a) := by
  simp only [Cond.value, hu] at h
  cases ht : t.eval args first o idx s with
  | none => simp [ht] at h
  | some x => cases x <;> simp [ht] at h ⊢; exact h
theorem own_fld {C n d : String} {k : Int32} (h : (Jvm.Cond.eq (.field t C n d) (.int k)).value args Z none Z [] = some true) (ht : t.eval args Z none [] Z = some (.ref a)) : Fld Z Z.heap a C n d (.int k) := Fld.start ((fld_at ht).symm.trans (own_int_v h))
theorem own_len {k : Int32} (h : (Jvm.Cond.eq (.length t) (.int k)).value args Z none Z [] = some true) (ht : t.eval args Z none [] Z = some (.ref a)) (A : Arr Z Z.heap a cl ty) : cl.slots.size < 2 ^ 31 ∧ cl.slots.size.toInt32 = k := by
  have h1 := own_int_v h
  have hA : Z.arrayAt? a = some cl := Arr.fin (Vm.Alike.refl _) A
  by_cases hl : cl.slots.size < 2 ^ 31
  · rw [len_f ht hA hl] at h1
    exact ⟨hl, by simpa using h1⟩
  · simp [Term.eval, ht, hA, hl] at h1
theorem own_elem {k : Int32} {v : Value} (h : (Term.elem t (.int k)).eval args Z none [] Z = some v) (ht : t.eval args Z none [] Z = some (.ref a)) (A : Arr Z Z.heap a cl ty) : cl.slots[k.toNatClampNeg]? = some v := (elem_in h ht (Term.int_eval k) A.1).2
end OwnWords
theorem own_pd10 : parseMethodDescriptor "()[C" = some ⟨[], some (.array .char)⟩ := by decide +kernel
theorem own_pd11 : parseMethodDescriptor "([C)V" = some ⟨[(.array .char)], none⟩ := by decide +kernel
theorem own_pd12 : parseMethodDescriptor "(Ljava/lang/String;)Ljava/lang/Object;" = some ⟨[(.object "java/lang/String")], some (.object "java/lang/Object")⟩ := by decide +kernel
theorem own_pd13 : parseMethodDescriptor "([C)Z" = some ⟨[(.array .char)], some .boolean⟩ := by decide +kernel
set_option maxRecDepth 65536 in
set_option maxHeartbeats 40000000 in
theorem rm0 (l : Launch) (Z : State) (a0 : Array Value) (hw : ∀ d ∈ tables_1, d.before a0 Z = true) (xa xb : Int64) (xm cs : Int32) (f : Addr) (h0 : Heap) (n0 : Nat) (Z0 : n0 ≤ h0.size) (S_cs : Sta Z h0 "java/lang/String" "COMPACT_STRINGS" "Z" (.int cs)) (hcs : ¬ cs = 0) (S_ad : Sta Z h0 "java/lang/StringUTF16" "$assertionsDisabled" "Z" (.int 1)) (S_hi : Sta Z h0 "java/lang/StringUTF16" "HI_BYTE_SHIFT" "I" (.int 0)) (S_lo : Sta Z h0 "java/lang/StringUTF16" "LO_BYTE_SHIFT" "I" (.int 8)) (S_f : Sta Z h0 "java/lang/Boolean" "FALSE" "Ljava/lang/Boolean;" (.ref f)) (hkp : ∀ (b : Addr) (cl : Cell), Z.heap[b]? = some cl → h0[b]? = some cl) (hld : Jvm.Lit.constHeld Z "com/example/kohortd/kohortd/member/Member" 168) (hcw : Jvm.Lit.compactW.before a0 Z = true) :
    OwnMetI l Z Jvm.Pilot.@@N@@.x code maxLocals ret tables_1 room_1 [(.long xa), (.long xb), (.int xm)] h0 (fun v h L => v = some (.int 1) ∧ Fr n0 L) := by
  refine own_bodyI (Ls := #[.val (.long xa), .second, .val (.long xb), .second, .val (.int xm), .unset, .unset, .unset, .unset, .unset, .unset, .unset]) (plainFor_of_name own_pn2) (fun m => by first | (simp [entryFrame, mkF, argsToLocals, Value.category, maxLocals]; done) | rfl) (fun p e s m below meth cO T0 hx hby hml hown hnm hret hlk hZ X0 e0 hh hI => ?_)
  have hml : cO.maxLocals = 12 := hml
  have hown : s.vm.findClass "com/example/kohortd/kohortd/member/MemberUnsetValuePinLaw" = some m.cls := hown
  have N0 := Fr.nil n0
  have X0 : Stand p l e room_1 (s.setVm s.vm) m ([(.long xa), (.long xb), (.int xm)] : List Value).toArray below meth cO T0 [] 0 0 := X0
  have hZ : Z.Warmed39 (s.setVm s.vm).vm := hZ
  have hown : (s.setVm s.vm).vm.findClass "com/example/kohortd/kohortd/member/MemberUnsetValuePinLaw" = some m.cls := hown
  have hS : s.Since s.vm 0 := (State.WarmedH.refl s).since 0
  have hk : 0 ≤ h0.size := Nat.zero_le _
  have hI : (s.setVm s.vm).vm.interned = Z.vm.interned := hI
  have K0 := Keep.refl h0 []
  refine g_iload X0 hx 2 (hb hby at_0) rfl rfl ?_
  refine g_iconst X0 hx 3 (3 : Int32) (hb hby at_2) (by decide) rfl ?_
  refine g_iand X0 hx 4 (xm &&& (3 : Int32)) (hb hby at_3) rfl rfl ?_
  refine g_istore X0 hx 6 #[.val (.long xa), .second, .val (.long xb), .second, .val (.int xm), .val (.int (xm &&& (3 : Int32))), .unset, .unset, .unset, .unset, .unset, .unset] (hb hby at_4) rfl rfl ?_
  refine g_callS X0 hx 9 hZ hown (own_w hw 0 rfl) (own_w hw 1 rfl) (own_w hw 2 rfl) (own_w hw 3 rfl) (by decide) [] [] (rm1 l Z a0 hw h0 n0 Z0) e0 0 (by decide) (by decide) (by decide) (by decide) (by rw [hml]; rfl) (lenOf own_pd10 rfl) (hb hby at_6) rfl (Nat.le_of_eq rfl) rfl (fun v1 T1 L1 X1 hQ1 => ?_)
  obtain ⟨wd, kw, rfl, N1q, K1, SZ_wd, V_wd⟩ := hQ1
  have N1 := Fr.app N0 N1q
  have g_wd := Nat.le_trans Z0 SZ_wd
  have Z1 := Nat.le_trans Z0 K1.1
  have hk := Nat.le_trans hk K1.1
  refine g_astore X1 hx 11 #[.val (.long xa), .second, .val (.long xb), .second, .val (.int xm), .val (.int (xm &&& (3 : Int32))), .val (.ref wd), .unset, .unset, .unset, .unset, .unset] (hb hby at_9) rfl rfl rfl ?_
  refine g_iload X1 hx 13 (hb hby at_11) rfl rfl ?_
  by_cases hc2 : (xm &&& (3 : Int32)) = (0 : Int32)
  · refine g_ifF X1 hx 16 (hb hby at_13) ((if0 _ _).trans (teq hc2).2) rfl ?_
    refine g_new X1 hx 19 hZ hown (own_w hw 5 rfl) (own_w hw 6 rfl) (own_w hw 7 rfl) rfl (hb hby at_16) (by decide) (by decide) rfl (fun T3 h3 b3 g3 X3 e3 E3 A3 D3 => ?_)
    have ne_wd_b3 : wd ≠ b3 := Nat.ne_of_lt (Nat.lt_of_lt_of_le V_wd.lt (Nat.le_of_eq g3.symm))
    have V_wd := V_wd.ext E3
    have G_b3 : n0 ≤ b3 := Nat.le_trans Z1 (Nat.le_of_eq g3.symm)
    have Z3 : n0 ≤ h3.size := Nat.le_trans Z1 E3.1
    have SZ_b3 : h0.size ≤ b3 := Nat.le_trans K1.1 (Nat.le_of_eq g3.symm)
    have K3 := K1.ext E3
    have hk := Nat.le_trans hk E3.1
    have E_b3 : Exa Z h3 b3 "java/lang/String" := A3
    have F_b3_coder : Fld Z h3 b3 "java/lang/String" "coder" "B" (.int (0 : Int32)) := D3 (Or.inr (own_w hw 31 rfl)) (ty := .byte) (by decide)
    have F_b3_value : Fld Z h3 b3 "java/lang/String" "value" "[B" .null := D3 (Or.inr (own_w hw 33 rfl)) (ty := (.array .byte)) (by decide)
    refine g_dup X3 hx 20 (hb hby at_19) rfl rfl ?_
    refine g_aload X3 hx 22 (hb hby at_20) rfl rfl rfl ?_
    refine g_callI X3 hx 25 hZ rfl hown (own_w hw 8 rfl) (own_w hw 9 rfl) (own_w hw 7 rfl) (own_w hw 10 rfl) (by decide) b3 [(.ref wd)] [(.ref b3)] (rs11_init1 l Z a0 hw b3 wd cs (105 : Int32) (115 : Int32) (69 : Int32) (120 : Int32) (104 : Int32) (97 : Int32) (117 : Int32) (115 : Int32) (116 : Int32) (101 : Int32) (100 : Int32) kw _ _ h3 n0 Z3 G_b3 (own_sta_keep S_cs K3) hcs E_b3 F_b3_value F_b3_coder V_wd (by decide) (by decide) (by decide) (by decide) (by decide) (by decide) (by decide) (by decide) (by decide) (by decide) (by decide)) e3 1 (by decide) (by decide) (by decide) (by decide) (by rw [hml]; rfl) (lenOf own_pd11 rfl) (hb hby at_22) rfl (Nat.le_of_eq rfl) rfl (fun v4 T4 L4 X4 hQ4 => ?_)
    obtain ⟨rfl, N4q, K4, t, kT, hst, E_a, G_a, C_a, V_t⟩ := hQ4
    have N4 := Fr.app N1 N4q
    have KK4 := K3.trans K4 (allS (Or.inr SZ_b3) all0)
    have Z4 := Nat.le_trans Z3 K4.1
    have hk := Nat.le_trans hk K4.1
    refine g_astore X4 hx 27 #[.val (.long xa), .second, .val (.long xb), .second, .val (.int xm), .val (.int (xm &&& (3 : Int32))), .val (.ref wd), .val (.ref b3), .unset, .unset, .unset, .unset] (hb hby at_25) rfl rfl rfl ?_
    refine g_iconst X4 hx 28 (1 : Int32) (hb hby at_27) (by decide) rfl ?_
    refine g_istore X4 hx 30 #[.val (.long xa), .second, .val (.long xb), .second, .val (.int xm), .val (.int (xm &&& (3 : Int32))), .val (.ref wd), .val (.ref b3), .val (.int (1 : Int32)), .unset, .unset, .unset] (hb hby at_28) rfl rfl ?_
    refine g_goto X4 hx 454 (hb hby at_30) (by decide) (by decide) ?_
    refine g_aload X4 hx 456 (hb hby at_454) rfl rfl rfl ?_
    refine g_callSW X4 hx 459 hZ hI hown (own_w hw 34 rfl) (own_w hw 35 rfl) (own_w hw 36 rfl) (own_w hw 37 rfl) (by decide) [(.ref b3)] [] (ruvE1 l Z a0 hw b3 f cs t _ _ _ _ _ _ _ _ _ _ _ kT T4.heap n0 Z4 (own_sta_keep S_cs KK4) hcs (own_sta_keep S_f KK4) (fun b cl q => KK4.2.1 b cl (hkp b cl q) nin0) hld hcw E_a C_a G_a V_t (by decide)) rfl 0 (by decide) (by decide) (by decide) (by decide) (by rw [hml]; rfl) (lenOf own_pd12 rfl) (hb hby at_456) rfl hS hk (Nat.le_of_eq rfl) rfl (fun v5 T5 L5 X5 hS hZ hown hQ5 => ?_)
    have hk := Nat.le_refl T5.heap.size
    obtain ⟨rfl, N5q, K5⟩ := hQ5
    have N5 := Fr.app N4 N5q
    have KK5 := KK4.trans K5 all0
    refine g_astore X5 hx 461 #[.val (.long xa), .second, .val (.long xb), .second, .val (.int xm), .val (.int (xm &&& (3 : Int32))), .val (.ref wd), .val (.ref b3), .val (.int (1 : Int32)), .val (.ref f), .unset, .unset] (hb hby at_459) rfl rfl rfl ?_
    refine g_iload X5 hx 463 (hb hby at_461) rfl rfl ?_
    refine g_ifF X5 hx 466 (hb hby at_463) (by decide) rfl ?_
    refine g_aload X5 hx 468 (hb hby at_466) rfl rfl rfl ?_
    refine g_getS X5 hx 471 hZ hown (host := "") (Or.inl (own_w hw 53 rfl)) Via.refl rfl (own_sta_keep S_f KK5) (hb hby at_468) rfl (fun T6 X6 e6 => ?_)
    refine g_ac X6 hx 474 true (hb hby at_471) rfl rfl (decide_eq_true rfl) (by decide) (by decide) ?_
    refine g_iconst X6 hx 475 (1 : Int32) (hb hby at_474) (by decide) rfl ?_
    refine g_goto X6 hx 479 (hb hby at_475) (by decide) (by decide) ?_
    exact g_retZW X6 hx hret hlk rfl (hb hby at_479) hS (Eq.subst (motive := fun z : Heap => _ ≤ z.size) (Eq.symm e6) hk) (by decide) (by decide) ⟨rfl, N5⟩
  · refine g_ifT X1 hx 33 (hb hby at_13) ((if0 _ _).trans (feq hc2).2) (by decide) (by decide) ?_
    refine g_iload X1 hx 35 (hb hby at_33) rfl rfl ?_
    refine g_iconst X1 hx 36 (1 : Int32) (hb hby at_35) (by decide) rfl ?_
    by_cases hc7 : (xm &&& (3 : Int32)) = (1 : Int32)
    · refine g_icF X1 hx 39 (hb hby at_36) (teq hc7).2 rfl ?_
      refine g_bipush X1 hx 41 (11 : Int32) (hb hby at_39) (by decide) rfl ?_
      refine g_newP X1 hx 43 hZ (own_w hw 4 rfl) rfl (hb hby at_41) (by decide) 11 (by decide) (by decide) (by decide) (by decide) rfl (fun T8 h8 b8 kl8 g8 X8 e8 E8 A8 => ?_)
      have ne_wd_b8 : wd ≠ b8 := Nat.ne_of_lt (Nat.lt_of_lt_of_le V_wd.lt (Nat.le_of_eq g8.symm))
      have V_wd := V_wd.ext E8
      have G_b8 : n0 ≤ b8 := Nat.le_trans Z1 (Nat.le_of_eq g8.symm)
      have Z8 : n0 ≤ h8.size := Nat.le_trans Z1 E8.1
      have SZ_b8 : h0.size ≤ b8 := Nat.le_trans K1.1 (Nat.le_of_eq g8.symm)
      have K8 := K1.ext E8
      have hk := Nat.le_trans hk E8.1
      have V_b8 : Arv Z h8 b8 kl8 .char (11 : Int32) [(.int (0 : Int32)), (.int (0 : Int32)), (.int (0 : Int32)), (.int (0 : Int32)), (.int (0 : Int32)), (.int (0 : Int32)), (.int (0 : Int32)), (.int (0 : Int32)), (.int (0 : Int32)), (.int (0 : Int32)), (.int (0 : Int32))] (.int (0 : Int32)) := A8.pad (pad_rep [] (.int (0 : Int32)) 11)
      refine g_astore X8 hx 45 #[.val (.long xa), .second, .val (.long xb), .second, .val (.int xm), .val (.int (xm &&& (3 : Int32))), .val (.ref wd), .unset, .unset, .val (.ref b8), .unset, .unset] (hb hby at_43) rfl rfl rfl ?_
      refine g_aload X8 hx 47 (hb hby at_45) rfl rfl rfl ?_
      refine g_iconst X8 hx 48 (0 : Int32) (hb hby at_47) (by decide) rfl ?_
      refine g_lloadN X8 hx 49 (hb hby at_48) rfl rfl ?_
      refine g_ldc2J X8 hx 52 hZ hown (own_w hw 74 rfl) (hb hby at_49) rfl ?_
      refine g_land X8 hx 53 (xa &&& (255 : Int64)) (hb hby at_52) rfl rfl ?_
      refine g_l2i X8 hx 54 ((xa &&& (255 : Int64)).toInt32) (hb hby at_53) rfl rfl ?_
      refine g_i2c X8 hx 55 (((xa &&& (255 : Int64)).toInt32).toUInt32.toUInt16.toUInt32.toInt32) (hb hby at_54) rfl rfl ?_
      refine g_castore X8 hx 56 hZ e8 V_b8 0 (by decide) ⟨by decide, by decide⟩ (Nat.le_of_ble_eq_true rfl) (hb hby at_55) rfl (fun T9 h9 X9 e9 W9 V9 => ?_)
      have V_wd := V_wd.other W9 ne_wd_b8
      have V_b8 : Arv Z h9 b8 kl8 .char (11 : Int32) [(.int (nar .char (((xa &&& (255 : Int64)).toInt32).toUInt32.toUInt16.toUInt32.toInt32))), (.int (0 : Int32)), (.int (0 : Int32)), (.int (0 : Int32)), (.int (0 : Int32)), (.int (0 : Int32)), (.int (0 : Int32)), (.int (0 : Int32)), (.int (0 : Int32)), (.int (0 : Int32)), (.int (0 : Int32))] (.int (0 : Int32)) := V9
      have N9 := Fr.snoc X9 N1 G_b8
      have Z9 : n0 ≤ h9.size := by rw [W9.size]; exact Z8
      have hk := Nat.le_trans hk (Nat.le_of_eq W9.size.symm)
      have K9 := K8.wr W9 (Or.inr SZ_b8)
      refine g_aload X9 hx 58 (hb hby at_56) rfl rfl rfl ?_
      refine g_iconst X9 hx 59 (1 : Int32) (hb hby at_58) (by decide) rfl ?_
      refine g_lloadN X9 hx 60 (hb hby at_59) rfl rfl ?_
      refine g_bipush X9 hx 62 (8 : Int32) (hb hby at_60) (by decide) rfl ?_
      refine g_lushr X9 hx 63 ((xa.toUInt64 >>> ((8 : Int32) &&& 0x3f).toInt64.toUInt64).toInt64) (hb hby at_62) rfl rfl ?_
      refine g_ldc2J X9 hx 66 hZ hown (own_w hw 74 rfl) (hb hby at_63) rfl ?_
      refine g_land X9 hx 67 (((xa.toUInt64 >>> ((8 : Int32) &&& 0x3f).toInt64.toUInt64).toInt64) &&& (255 : Int64)) (hb hby at_66) rfl rfl ?_
      refine g_l2i X9 hx 68 ((((xa.toUInt64 >>> ((8 : Int32) &&& 0x3f).toInt64.toUInt64).toInt64) &&& (255 : Int64)).toInt32) (hb hby at_67) rfl rfl ?_
      refine g_i2c X9 hx 69 (((((xa.toUInt64 >>> ((8 : Int32) &&& 0x3f).toInt64.toUInt64).toInt64) &&& (255 : Int64)).toInt32).toUInt32.toUInt16.toUInt32.toInt32) (hb hby at_68) rfl rfl ?_
      refine g_castore X9 hx 70 hZ e9 V_b8 1 (by decide) ⟨by decide, by decide⟩ (Nat.le_of_ble_eq_true rfl) (hb hby at_69) rfl (fun T10 h10 X10 e10 W10 V10 => ?_)
      have V_wd := V_wd.other W10 ne_wd_b8
      have V_b8 : Arv Z h10 b8 kl8 .char (11 : Int32) [(.int (nar .char (((xa &&& (255 : Int64)).toInt32).toUInt32.toUInt16.toUInt32.toInt32))), (.int (nar .char (((((xa.toUInt64 >>> ((8 : Int32) &&& 0x3f).toInt64.toUInt64).toInt64) &&& (255 : Int64)).toInt32).toUInt32.toUInt16.toUInt32.toInt32))), (.int (0 : Int32)), (.int (0 : Int32)), (.int (0 : Int32)), (.int (0 : Int32)), (.int (0 : Int32)), (.int (0 : Int32)), (.int (0 : Int32)), (.int (0 : Int32)), (.int (0 : Int32))] (.int (0 : Int32)) := V10
      have N10 := Fr.snoc X10 N9 G_b8
      have Z10 : n0 ≤ h10.size := by rw [W10.size]; exact Z9
      have hk := Nat.le_trans hk (Nat.le_of_eq W10.size.symm)
      have K10 := K9.wr W10 (Or.inr SZ_b8)
      refine g_aload X10 hx 72 (hb hby at_70) rfl rfl rfl ?_
      refine g_iconst X10 hx 73 (2 : Int32) (hb hby at_72) (by decide) rfl ?_
      refine g_lloadN X10 hx 74 (hb hby at_73) rfl rfl ?_
      refine g_bipush X10 hx 76 (16 : Int32) (hb hby at_74) (by decide) rfl ?_
      refine g_lushr X10 hx 77 ((xa.toUInt64 >>> ((16 : Int32) &&& 0x3f).toInt64.toUInt64).toInt64) (hb hby at_76) rfl rfl ?_
      refine g_ldc2J X10 hx 80 hZ hown (own_w hw 74 rfl) (hb hby at_77) rfl ?_
      refine g_land X10 hx 81 (((xa.toUInt64 >>> ((16 : Int32) &&& 0x3f).toInt64.toUInt64).toInt64) &&& (255 : Int64)) (hb hby at_80) rfl rfl ?_
      refine g_l2i X10 hx 82 ((((xa.toUInt64 >>> ((16 : Int32) &&& 0x3f).toInt64.toUInt64).toInt64) &&& (255 : Int64)).toInt32) (hb hby at_81) rfl rfl ?_
      refine g_i2c X10 hx 83 (((((xa.toUInt64 >>> ((16 : Int32) &&& 0x3f).toInt64.toUInt64).toInt64) &&& (255 : Int64)).toInt32).toUInt32.toUInt16.toUInt32.toInt32) (hb hby at_82) rfl rfl ?_
      refine g_castore X10 hx 84 hZ e10 V_b8 2 (by decide) ⟨by decide, by decide⟩ (Nat.le_of_ble_eq_true rfl) (hb hby at_83) rfl (fun T11 h11 X11 e11 W11 V11 => ?_)
      have V_wd := V_wd.other W11 ne_wd_b8
      have V_b8 : Arv Z h11 b8 kl8 .char (11 : Int32) [(.int (nar .char (((xa &&& (255 : Int64)).toInt32).toUInt32.toUInt16.toUInt32.toInt32))), (.int (nar .char (((((xa.toUInt64 >>> ((8 : Int32) &&& 0x3f).toInt64.toUInt64).toInt64) &&& (255 : Int64)).toInt32).toUInt32.toUInt16.toUInt32.toInt32))), (.int (nar .char (((((xa.toUInt64 >>> ((16 : Int32) &&& 0x3f).toInt64.toUInt64).toInt64) &&& (255 : Int64)).toInt32).toUInt32.toUInt16.toUInt32.toInt32))), (.int (0 : Int32)), (.int (0 : Int32)), (.int (0 : Int32)), (.int (0 : Int32)), (.int (0 : Int32)), (.int (0 : Int32)), (.int (0 : Int32)), (.int (0 : Int32))] (.int (0 : Int32)) := V11
      have N11 := Fr.snoc X11 N10 G_b8
      have Z11 : n0 ≤ h11.size := by rw [W11.size]; exact Z10
      have hk := Nat.le_trans hk (Nat.le_of_eq W11.size.symm)
      have K11 := K10.wr W11 (Or.inr SZ_b8)
      refine g_aload X11 hx 86 (hb hby at_84) rfl rfl rfl ?_
      refine g_iconst X11 hx 87 (3 : Int32) (hb hby at_86) (by decide) rfl ?_
      refine g_lloadN X11 hx 88 (hb hby at_87) rfl rfl ?_
      refine g_bipush X11 hx 90 (24 : Int32) (hb hby at_88) (by decide) rfl ?_
      refine g_lushr X11 hx 91 ((xa.toUInt64 >>> ((24 : Int32) &&& 0x3f).toInt64.toUInt64).toInt64) (hb hby at_90) rfl rfl ?_
      refine g_ldc2J X11 hx 94 hZ hown (own_w hw 74 rfl) (hb hby at_91) rfl ?_
      refine g_land X11 hx 95 (((xa.toUInt64 >>> ((24 : Int32) &&& 0x3f).toInt64.toUInt64).toInt64) &&& (255 : Int64)) (hb hby at_94) rfl rfl ?_
      refine g_l2i X11 hx 96 ((((xa.toUInt64 >>> ((24 : Int32) &&& 0x3f).toInt64.toUInt64).toInt64) &&& (255 : Int64)).toInt32) (hb hby at_95) rfl rfl ?_
      refine g_i2c X11 hx 97 (((((xa.toUInt64 >>> ((24 : Int32) &&& 0x3f).toInt64.toUInt64).toInt64) &&& (255 : Int64)).toInt32).toUInt32.toUInt16.toUInt32.toInt32) (hb hby at_96) rfl rfl ?_
      refine g_castore X11 hx 98 hZ e11 V_b8 3 (by decide) ⟨by decide, by decide⟩ (Nat.le_of_ble_eq_true rfl) (hb hby at_97) rfl (fun T12 h12 X12 e12 W12 V12 => ?_)
      have V_wd := V_wd.other W12 ne_wd_b8
      have V_b8 : Arv Z h12 b8 kl8 .char (11 : Int32) [(.int (nar .char (((xa &&& (255 : Int64)).toInt32).toUInt32.toUInt16.toUInt32.toInt32))), (.int (nar .char (((((xa.toUInt64 >>> ((8 : Int32) &&& 0x3f).toInt64.toUInt64).toInt64) &&& (255 : Int64)).toInt32).toUInt32.toUInt16.toUInt32.toInt32))), (.int (nar .char (((((xa.toUInt64 >>> ((16 : Int32) &&& 0x3f).toInt64.toUInt64).toInt64) &&& (255 : Int64)).toInt32).toUInt32.toUInt16.toUInt32.toInt32))), (.int (nar .char (((((xa.toUInt64 >>> ((24 : Int32) &&& 0x3f).toInt64.toUInt64).toInt64) &&& (255 : Int64)).toInt32).toUInt32.toUInt16.toUInt32.toInt32))), (.int (0 : Int32)), (.int (0 : Int32)), (.int (0 : Int32)), (.int (0 : Int32)), (.int (0 : Int32)), (.int (0 : Int32)), (.int (0 : Int32))] (.int (0 : Int32)) := V12
      have N12 := Fr.snoc X12 N11 G_b8
      have Z12 : n0 ≤ h12.size := by rw [W12.size]; exact Z11
      have hk := Nat.le_trans hk (Nat.le_of_eq W12.size.symm)
      have K12 := K11.wr W12 (Or.inr SZ_b8)
      refine g_aload X12 hx 100 (hb hby at_98) rfl rfl rfl ?_
      refine g_iconst X12 hx 101 (4 : Int32) (hb hby at_100) (by decide) rfl ?_
      refine g_lloadN X12 hx 102 (hb hby at_101) rfl rfl ?_
      refine g_bipush X12 hx 104 (32 : Int32) (hb hby at_102) (by decide) rfl ?_
      refine g_lushr X12 hx 105 ((xa.toUInt64 >>> ((32 : Int32) &&& 0x3f).toInt64.toUInt64).toInt64) (hb hby at_104) rfl rfl ?_
      refine g_ldc2J X12 hx 108 hZ hown (own_w hw 74 rfl) (hb hby at_105) rfl ?_
      refine g_land X12 hx 109 (((xa.toUInt64 >>> ((32 : Int32) &&& 0x3f).toInt64.toUInt64).toInt64) &&& (255 : Int64)) (hb hby at_108) rfl rfl ?_
      refine g_l2i X12 hx 110 ((((xa.toUInt64 >>> ((32 : Int32) &&& 0x3f).toInt64.toUInt64).toInt64) &&& (255 : Int64)).toInt32) (hb hby at_109) rfl rfl ?_
      refine g_i2c X12 hx 111 (((((xa.toUInt64 >>> ((32 : Int32) &&& 0x3f).toInt64.toUInt64).toInt64) &&& (255 : Int64)).toInt32).toUInt32.toUInt16.toUInt32.toInt32) (hb hby at_110) rfl rfl ?_
      refine g_castore X12 hx 112 hZ e12 V_b8 4 (by decide) ⟨by decide, by decide⟩ (Nat.le_of_ble_eq_true rfl) (hb hby at_111) rfl (fun T13 h13 X13 e13 W13 V13 => ?_)
      have V_wd := V_wd.other W13 ne_wd_b8
      have V_b8 : Arv Z h13 b8 kl8 .char (11 : Int32) [(.int (nar .char (((xa &&& (255 : Int64)).toInt32).toUInt32.toUInt16.toUInt32.toInt32))), (.int (nar .char (((((xa.toUInt64 >>> ((8 : Int32) &&& 0x3f).toInt64.toUInt64).toInt64) &&& (255 : Int64)).toInt32).toUInt32.toUInt16.toUInt32.toInt32))), (.int (nar .char (((((xa.toUInt64 >>> ((16 : Int32) &&& 0x3f).toInt64.toUInt64).toInt64) &&& (255 : Int64)).toInt32).toUInt32.toUInt16.toUInt32.toInt32))), (.int (nar .char (((((xa.toUInt64 >>> ((24 : Int32) &&& 0x3f).toInt64.toUInt64).toInt64) &&& (255 : Int64)).toInt32).toUInt32.toUInt16.toUInt32.toInt32))), (.int (nar .char (((((xa.toUInt64 >>> ((32 : Int32) &&& 0x3f).toInt64.toUInt64).toInt64) &&& (255 : Int64)).toInt32).toUInt32.toUInt16.toUInt32.toInt32))), (.int (0 : Int32)), (.int (0 : Int32)), (.int (0 : Int32)), (.int (0 : Int32)), (.int (0 : Int32)), (.int (0 : Int32))] (.int (0 : Int32)) := V13
      have N13 := Fr.snoc X13 N12 G_b8
      have Z13 : n0 ≤ h13.size := by rw [W13.size]; exact Z12
      have hk := Nat.le_trans hk (Nat.le_of_eq W13.size.symm)
      have K13 := K12.wr W13 (Or.inr SZ_b8)
      refine g_aload X13 hx 114 (hb hby at_112) rfl rfl rfl ?_
      refine g_iconst X13 hx 115 (5 : Int32) (hb hby at_114) (by decide) rfl ?_
      refine g_lloadN X13 hx 116 (hb hby at_115) rfl rfl ?_
      refine g_bipush X13 hx 118 (40 : Int32) (hb hby at_116) (by decide) rfl ?_
      refine g_lushr X13 hx 119 ((xa.toUInt64 >>> ((40 : Int32) &&& 0x3f).toInt64.toUInt64).toInt64) (hb hby at_118) rfl rfl ?_
      refine g_ldc2J X13 hx 122 hZ hown (own_w hw 74 rfl) (hb hby at_119) rfl ?_
      refine g_land X13 hx 123 (((xa.toUInt64 >>> ((40 : Int32) &&& 0x3f).toInt64.toUInt64).toInt64) &&& (255 : Int64)) (hb hby at_122) rfl rfl ?_
      refine g_l2i X13 hx 124 ((((xa.toUInt64 >>> ((40 : Int32) &&& 0x3f).toInt64.toUInt64).toInt64) &&& (255 : Int64)).toInt32) (hb hby at_123) rfl rfl ?_
      refine g_i2c X13 hx 125 (((((xa.toUInt64 >>> ((40 : Int32) &&& 0x3f).toInt64.toUInt64).toInt64) &&& (255 : Int64)).toInt32).toUInt32.toUInt16.toUInt32.toInt32) (hb hby at_124) rfl rfl ?_
      refine g_castore X13 hx 126 hZ e13 V_b8 5 (by decide) ⟨by decide, by decide⟩ (Nat.le_of_ble_eq_true rfl) (hb hby at_125) rfl (fun T14 h14 X14 e14 W14 V14 => ?_)
      have V_wd := V_wd.other W14 ne_wd_b8
      have V_b8 : Arv Z h14 b8 kl8 .char (11 : Int32) [(.int (nar .char (((xa &&& (255 : Int64)).toInt32).toUInt32.toUInt16.toUInt32.toInt32))), (.int (nar .char (((((xa.toUInt64 >>> ((8 : Int32) &&& 0x3f).toInt64.toUInt64).toInt64) &&& (255 : Int64)).toInt32).toUInt32.toUInt16.toUInt32.toInt32))), (.int (nar .char (((((xa.toUInt64 >>> ((16 : Int32) &&& 0x3f).toInt64.toUInt64).toInt64) &&& (255 : Int64)).toInt32).toUInt32.toUInt16.toUInt32.toInt32))), (.int (nar .char (((((xa.toUInt64 >>> ((24 : Int32) &&& 0x3f).toInt64.toUInt64).toInt64) &&& (255 : Int64)).toInt32).toUInt32.toUInt16.toUInt32.toInt32))), (.int (nar .char (((((xa.toUInt64 >>> ((32 : Int32) &&& 0x3f).toInt64.toUInt64).toInt64) &&& (255 : Int64)).toInt32).toUInt32.toUInt16.toUInt32.toInt32))), (.int (nar .char (((((xa.toUInt64 >>> ((40 : Int32) &&& 0x3f).toInt64.toUInt64).toInt64) &&& (255 : Int64)).toInt32).toUInt32.toUInt16.toUInt32.toInt32))), (.int (0 : Int32)), (.int (0 : Int32)), (.int (0 : Int32)), (.int (0 : Int32)), (.int (0 : Int32))] (.int (0 : Int32)) := V14
      have N14 := Fr.snoc X14 N13 G_b8
      have Z14 : n0 ≤ h14.size := by rw [W14.size]; exact Z13
      have hk := Nat.le_trans hk (Nat.le_of_eq W14.size.symm)
      have K14 := K13.wr W14 (Or.inr SZ_b8)
      refine g_aload X14 hx 128 (hb hby at_126) rfl rfl rfl ?_
      refine g_bipush X14 hx 130 (6 : Int32) (hb hby at_128) (by decide) rfl ?_
      refine g_lloadN X14 hx 131 (hb hby at_130) rfl rfl ?_
      refine g_bipush X14 hx 133 (48 : Int32) (hb hby at_131) (by decide) rfl ?_
      refine g_lushr X14 hx 134 ((xa.toUInt64 >>> ((48 : Int32) &&& 0x3f).toInt64.toUInt64).toInt64) (hb hby at_133) rfl rfl ?_
      refine g_ldc2J X14 hx 137 hZ hown (own_w hw 74 rfl) (hb hby at_134) rfl ?_
      refine g_land X14 hx 138 (((xa.toUInt64 >>> ((48 : Int32) &&& 0x3f).toInt64.toUInt64).toInt64) &&& (255 : Int64)) (hb hby at_137) rfl rfl ?_
      refine g_l2i X14 hx 139 ((((xa.toUInt64 >>> ((48 : Int32) &&& 0x3f).toInt64.toUInt64).toInt64) &&& (255 : Int64)).toInt32) (hb hby at_138) rfl rfl ?_
      refine g_i2c X14 hx 140 (((((xa.toUInt64 >>> ((48 : Int32) &&& 0x3f).toInt64.toUInt64).toInt64) &&& (255 : Int64)).toInt32).toUInt32.toUInt16.toUInt32.toInt32) (hb hby at_139) rfl rfl ?_
      refine g_castore X14 hx 141 hZ e14 V_b8 6 (by decide) ⟨by decide, by decide⟩ (Nat.le_of_ble_eq_true rfl) (hb hby at_140) rfl (fun T15 h15 X15 e15 W15 V15 => ?_)
      have V_wd := V_wd.other W15 ne_wd_b8
      have V_b8 : Arv Z h15 b8 kl8 .char (11 : Int32) [(.int (nar .char (((xa &&& (255 : Int64)).toInt32).toUInt32.toUInt16.toUInt32.toInt32))), (.int (nar .char (((((xa.toUInt64 >>> ((8 : Int32) &&& 0x3f).toInt64.toUInt64).toInt64) &&& (255 : Int64)).toInt32).toUInt32.toUInt16.toUInt32.toInt32))), (.int (nar .char (((((xa.toUInt64 >>> ((16 : Int32) &&& 0x3f).toInt64.toUInt64).toInt64) &&& (255 : Int64)).toInt32).toUInt32.toUInt16.toUInt32.toInt32))), (.int (nar .char (((((xa.toUInt64 >>> ((24 : Int32) &&& 0x3f).toInt64.toUInt64).toInt64) &&& (255 : Int64)).toInt32).toUInt32.toUInt16.toUInt32.toInt32))), (.int (nar .char (((((xa.toUInt64 >>> ((32 : Int32) &&& 0x3f).toInt64.toUInt64).toInt64) &&& (255 : Int64)).toInt32).toUInt32.toUInt16.toUInt32.toInt32))), (.int (nar .char (((((xa.toUInt64 >>> ((40 : Int32) &&& 0x3f).toInt64.toUInt64).toInt64) &&& (255 : Int64)).toInt32).toUInt32.toUInt16.toUInt32.toInt32))), (.int (nar .char (((((xa.toUInt64 >>> ((48 : Int32) &&& 0x3f).toInt64.toUInt64).toInt64) &&& (255 : Int64)).toInt32).toUInt32.toUInt16.toUInt32.toInt32))), (.int (0 : Int32)), (.int (0 : Int32)), (.int (0 : Int32)), (.int (0 : Int32))] (.int (0 : Int32)) := V15
      have N15 := Fr.snoc X15 N14 G_b8
      have Z15 : n0 ≤ h15.size := by rw [W15.size]; exact Z14
      have hk := Nat.le_trans hk (Nat.le_of_eq W15.size.symm)
      have K15 := K14.wr W15 (Or.inr SZ_b8)
      refine g_aload X15 hx 143 (hb hby at_141) rfl rfl rfl ?_
      refine g_bipush X15 hx 145 (7 : Int32) (hb hby at_143) (by decide) rfl ?_
      refine g_lloadN X15 hx 146 (hb hby at_145) rfl rfl ?_
      refine g_bipush X15 hx 148 (56 : Int32) (hb hby at_146) (by decide) rfl ?_
      refine g_lushr X15 hx 149 ((xa.toUInt64 >>> ((56 : Int32) &&& 0x3f).toInt64.toUInt64).toInt64) (hb hby at_148) rfl rfl ?_
      refine g_ldc2J X15 hx 152 hZ hown (own_w hw 74 rfl) (hb hby at_149) rfl ?_
      refine g_land X15 hx 153 (((xa.toUInt64 >>> ((56 : Int32) &&& 0x3f).toInt64.toUInt64).toInt64) &&& (255 : Int64)) (hb hby at_152) rfl rfl ?_
      refine g_l2i X15 hx 154 ((((xa.toUInt64 >>> ((56 : Int32) &&& 0x3f).toInt64.toUInt64).toInt64) &&& (255 : Int64)).toInt32) (hb hby at_153) rfl rfl ?_
      refine g_i2c X15 hx 155 (((((xa.toUInt64 >>> ((56 : Int32) &&& 0x3f).toInt64.toUInt64).toInt64) &&& (255 : Int64)).toInt32).toUInt32.toUInt16.toUInt32.toInt32) (hb hby at_154) rfl rfl ?_
      refine g_castore X15 hx 156 hZ e15 V_b8 7 (by decide) ⟨by decide, by decide⟩ (Nat.le_of_ble_eq_true rfl) (hb hby at_155) rfl (fun T16 h16 X16 e16 W16 V16 => ?_)
      have V_wd := V_wd.other W16 ne_wd_b8
      have V_b8 : Arv Z h16 b8 kl8 .char (11 : Int32) [(.int (nar .char (((xa &&& (255 : Int64)).toInt32).toUInt32.toUInt16.toUInt32.toInt32))), (.int (nar .char (((((xa.toUInt64 >>> ((8 : Int32) &&& 0x3f).toInt64.toUInt64).toInt64) &&& (255 : Int64)).toInt32).toUInt32.toUInt16.toUInt32.toInt32))), (.int (nar .char (((((xa.toUInt64 >>> ((16 : Int32) &&& 0x3f).toInt64.toUInt64).toInt64) &&& (255 : Int64)).toInt32).toUInt32.toUInt16.toUInt32.toInt32))), (.int (nar .char (((((xa.toUInt64 >>> ((24 : Int32) &&& 0x3f).toInt64.toUInt64).toInt64) &&& (255 : Int64)).toInt32).toUInt32.toUInt16.toUInt32.toInt32))), (.int (nar .char (((((xa.toUInt64 >>> ((32 : Int32) &&& 0x3f).toInt64.toUInt64).toInt64) &&& (255 : Int64)).toInt32).toUInt32.toUInt16.toUInt32.toInt32))), (.int (nar .char (((((xa.toUInt64 >>> ((40 : Int32) &&& 0x3f).toInt64.toUInt64).toInt64) &&& (255 : Int64)).toInt32).toUInt32.toUInt16.toUInt32.toInt32))), (.int (nar .char (((((xa.toUInt64 >>> ((48 : Int32) &&& 0x3f).toInt64.toUInt64).toInt64) &&& (255 : Int64)).toInt32).toUInt32.toUInt16.toUInt32.toInt32))), (.int (nar .char (((((xa.toUInt64 >>> ((56 : Int32) &&& 0x3f).toInt64.toUInt64).toInt64) &&& (255 : Int64)).toInt32).toUInt32.toUInt16.toUInt32.toInt32))), (.int (0 : Int32)), (.int (0 : Int32)), (.int (0 : Int32))] (.int (0 : Int32)) := V16
      have N16 := Fr.snoc X16 N15 G_b8
      have Z16 : n0 ≤ h16.size := by rw [W16.size]; exact Z15
      have hk := Nat.le_trans hk (Nat.le_of_eq W16.size.symm)
      have K16 := K15.wr W16 (Or.inr SZ_b8)
      refine g_aload X16 hx 158 (hb hby at_156) rfl rfl rfl ?_
      refine g_bipush X16 hx 160 (8 : Int32) (hb hby at_158) (by decide) rfl ?_
      refine g_lloadN X16 hx 161 (hb hby at_160) rfl rfl ?_
      refine g_ldc2J X16 hx 164 hZ hown (own_w hw 74 rfl) (hb hby at_161) rfl ?_
      refine g_land X16 hx 165 (xb &&& (255 : Int64)) (hb hby at_164) rfl rfl ?_
      refine g_l2i X16 hx 166 ((xb &&& (255 : Int64)).toInt32) (hb hby at_165) rfl rfl ?_
      refine g_i2c X16 hx 167 (((xb &&& (255 : Int64)).toInt32).toUInt32.toUInt16.toUInt32.toInt32) (hb hby at_166) rfl rfl ?_
      refine g_castore X16 hx 168 hZ e16 V_b8 8 (by decide) ⟨by decide, by decide⟩ (Nat.le_of_ble_eq_true rfl) (hb hby at_167) rfl (fun T17 h17 X17 e17 W17 V17 => ?_)
      have V_wd := V_wd.other W17 ne_wd_b8
      have V_b8 : Arv Z h17 b8 kl8 .char (11 : Int32) [(.int (nar .char (((xa &&& (255 : Int64)).toInt32).toUInt32.toUInt16.toUInt32.toInt32))), (.int (nar .char (((((xa.toUInt64 >>> ((8 : Int32) &&& 0x3f).toInt64.toUInt64).toInt64) &&& (255 : Int64)).toInt32).toUInt32.toUInt16.toUInt32.toInt32))), (.int (nar .char (((((xa.toUInt64 >>> ((16 : Int32) &&& 0x3f).toInt64.toUInt64).toInt64) &&& (255 : Int64)).toInt32).toUInt32.toUInt16.toUInt32.toInt32))), (.int (nar .char (((((xa.toUInt64 >>> ((24 : Int32) &&& 0x3f).toInt64.toUInt64).toInt64) &&& (255 : Int64)).toInt32).toUInt32.toUInt16.toUInt32.toInt32))), (.int (nar .char (((((xa.toUInt64 >>> ((32 : Int32) &&& 0x3f).toInt64.toUInt64).toInt64) &&& (255 : Int64)).toInt32).toUInt32.toUInt16.toUInt32.toInt32))), (.int (nar .char (((((xa.toUInt64 >>> ((40 : Int32) &&& 0x3f).toInt64.toUInt64).toInt64) &&& (255 : Int64)).toInt32).toUInt32.toUInt16.toUInt32.toInt32))), (.int (nar .char (((((xa.toUInt64 >>> ((48 : Int32) &&& 0x3f).toInt64.toUInt64).toInt64) &&& (255 : Int64)).toInt32).toUInt32.toUInt16.toUInt32.toInt32))), (.int (nar .char (((((xa.toUInt64 >>> ((56 : Int32) &&& 0x3f).toInt64.toUInt64).toInt64) &&& (255 : Int64)).toInt32).toUInt32.toUInt16.toUInt32.toInt32))), (.int (nar .char (((xb &&& (255 : Int64)).toInt32).toUInt32.toUInt16.toUInt32.toInt32))), (.int (0 : Int32)), (.int (0 : Int32))] (.int (0 : Int32)) := V17
      have N17 := Fr.snoc X17 N16 G_b8
      have Z17 : n0 ≤ h17.size := by rw [W17.size]; exact Z16
      have hk := Nat.le_trans hk (Nat.le_of_eq W17.size.symm)
      have K17 := K16.wr W17 (Or.inr SZ_b8)
      refine g_aload X17 hx 170 (hb hby at_168) rfl rfl rfl ?_
      refine g_bipush X17 hx 172 (9 : Int32) (hb hby at_170) (by decide) rfl ?_
      refine g_lloadN X17 hx 173 (hb hby at_172) rfl rfl ?_
      refine g_bipush X17 hx 175 (8 : Int32) (hb hby at_173) (by decide) rfl ?_
      refine g_lushr X17 hx 176 ((xb.toUInt64 >>> ((8 : Int32) &&& 0x3f).toInt64.toUInt64).toInt64) (hb hby at_175) rfl rfl ?_
      refine g_ldc2J X17 hx 179 hZ hown (own_w hw 74 rfl) (hb hby at_176) rfl ?_
      refine g_land X17 hx 180 (((xb.toUInt64 >>> ((8 : Int32) &&& 0x3f).toInt64.toUInt64).toInt64) &&& (255 : Int64)) (hb hby at_179) rfl rfl ?_
      refine g_l2i X17 hx 181 ((((xb.toUInt64 >>> ((8 : Int32) &&& 0x3f).toInt64.toUInt64).toInt64) &&& (255 : Int64)).toInt32) (hb hby at_180) rfl rfl ?_
      refine g_i2c X17 hx 182 (((((xb.toUInt64 >>> ((8 : Int32) &&& 0x3f).toInt64.toUInt64).toInt64) &&& (255 : Int64)).toInt32).toUInt32.toUInt16.toUInt32.toInt32) (hb hby at_181) rfl rfl ?_
      refine g_castore X17 hx 183 hZ e17 V_b8 9 (by decide) ⟨by decide, by decide⟩ (Nat.le_of_ble_eq_true rfl) (hb hby at_182) rfl (fun T18 h18 X18 e18 W18 V18 => ?_)
      have V_wd := V_wd.other W18 ne_wd_b8
      have V_b8 : Arv Z h18 b8 kl8 .char (11 : Int32) [(.int (nar .char (((xa &&& (255 : Int64)).toInt32).toUInt32.toUInt16.toUInt32.toInt32))), (.int (nar .char (((((xa.toUInt64 >>> ((8 : Int32) &&& 0x3f).toInt64.toUInt64).toInt64) &&& (255 : Int64)).toInt32).toUInt32.toUInt16.toUInt32.toInt32))), (.int (nar .char (((((xa.toUInt64 >>> ((16 : Int32) &&& 0x3f).toInt64.toUInt64).toInt64) &&& (255 : Int64)).toInt32).toUInt32.toUInt16.toUInt32.toInt32))), (.int (nar .char (((((xa.toUInt64 >>> ((24 : Int32) &&& 0x3f).toInt64.toUInt64).toInt64) &&& (255 : Int64)).toInt32).toUInt32.toUInt16.toUInt32.toInt32))), (.int (nar .char (((((xa.toUInt64 >>> ((32 : Int32) &&& 0x3f).toInt64.toUInt64).toInt64) &&& (255 : Int64)).toInt32).toUInt32.toUInt16.toUInt32.toInt32))), (.int (nar .char (((((xa.toUInt64 >>> ((40 : Int32) &&& 0x3f).toInt64.toUInt64).toInt64) &&& (255 : Int64)).toInt32).toUInt32.toUInt16.toUInt32.toInt32))), (.int (nar .char (((((xa.toUInt64 >>> ((48 : Int32) &&& 0x3f).toInt64.toUInt64).toInt64) &&& (255 : Int64)).toInt32).toUInt32.toUInt16.toUInt32.toInt32))), (.int (nar .char (((((xa.toUInt64 >>> ((56 : Int32) &&& 0x3f).toInt64.toUInt64).toInt64) &&& (255 : Int64)).toInt32).toUInt32.toUInt16.toUInt32.toInt32))), (.int (nar .char (((xb &&& (255 : Int64)).toInt32).toUInt32.toUInt16.toUInt32.toInt32))), (.int (nar .char (((((xb.toUInt64 >>> ((8 : Int32) &&& 0x3f).toInt64.toUInt64).toInt64) &&& (255 : Int64)).toInt32).toUInt32.toUInt16.toUInt32.toInt32))), (.int (0 : Int32))] (.int (0 : Int32)) := V18
      have N18 := Fr.snoc X18 N17 G_b8
      have Z18 : n0 ≤ h18.size := by rw [W18.size]; exact Z17
      have hk := Nat.le_trans hk (Nat.le_of_eq W18.size.symm)
      have K18 := K17.wr W18 (Or.inr SZ_b8)
      refine g_aload X18 hx 185 (hb hby at_183) rfl rfl rfl ?_
      refine g_bipush X18 hx 187 (10 : Int32) (hb hby at_185) (by decide) rfl ?_
      refine g_lloadN X18 hx 188 (hb hby at_187) rfl rfl ?_
      refine g_bipush X18 hx 190 (16 : Int32) (hb hby at_188) (by decide) rfl ?_
      refine g_lushr X18 hx 191 ((xb.toUInt64 >>> ((16 : Int32) &&& 0x3f).toInt64.toUInt64).toInt64) (hb hby at_190) rfl rfl ?_
      refine g_ldc2J X18 hx 194 hZ hown (own_w hw 74 rfl) (hb hby at_191) rfl ?_
      refine g_land X18 hx 195 (((xb.toUInt64 >>> ((16 : Int32) &&& 0x3f).toInt64.toUInt64).toInt64) &&& (255 : Int64)) (hb hby at_194) rfl rfl ?_
      refine g_l2i X18 hx 196 ((((xb.toUInt64 >>> ((16 : Int32) &&& 0x3f).toInt64.toUInt64).toInt64) &&& (255 : Int64)).toInt32) (hb hby at_195) rfl rfl ?_
      refine g_i2c X18 hx 197 (((((xb.toUInt64 >>> ((16 : Int32) &&& 0x3f).toInt64.toUInt64).toInt64) &&& (255 : Int64)).toInt32).toUInt32.toUInt16.toUInt32.toInt32) (hb hby at_196) rfl rfl ?_
      refine g_castore X18 hx 198 hZ e18 V_b8 10 (by decide) ⟨by decide, by decide⟩ (Nat.le_of_ble_eq_true rfl) (hb hby at_197) rfl (fun T19 h19 X19 e19 W19 V19 => ?_)
      have V_wd := V_wd.other W19 ne_wd_b8
      have V_b8 : Arv Z h19 b8 kl8 .char (11 : Int32) [(.int (nar .char (((xa &&& (255 : Int64)).toInt32).toUInt32.toUInt16.toUInt32.toInt32))), (.int (nar .char (((((xa.toUInt64 >>> ((8 : Int32) &&& 0x3f).toInt64.toUInt64).toInt64) &&& (255 : Int64)).toInt32).toUInt32.toUInt16.toUInt32.toInt32))), (.int (nar .char (((((xa.toUInt64 >>> ((16 : Int32) &&& 0x3f).toInt64.toUInt64).toInt64) &&& (255 : Int64)).toInt32).toUInt32.toUInt16.toUInt32.toInt32))), (.int (nar .char (((((xa.toUInt64 >>> ((24 : Int32) &&& 0x3f).toInt64.toUInt64).toInt64) &&& (255 : Int64)).toInt32).toUInt32.toUInt16.toUInt32.toInt32))), (.int (nar .char (((((xa.toUInt64 >>> ((32 : Int32) &&& 0x3f).toInt64.toUInt64).toInt64) &&& (255 : Int64)).toInt32).toUInt32.toUInt16.toUInt32.toInt32))), (.int (nar .char (((((xa.toUInt64 >>> ((40 : Int32) &&& 0x3f).toInt64.toUInt64).toInt64) &&& (255 : Int64)).toInt32).toUInt32.toUInt16.toUInt32.toInt32))), (.int (nar .char (((((xa.toUInt64 >>> ((48 : Int32) &&& 0x3f).toInt64.toUInt64).toInt64) &&& (255 : Int64)).toInt32).toUInt32.toUInt16.toUInt32.toInt32))), (.int (nar .char (((((xa.toUInt64 >>> ((56 : Int32) &&& 0x3f).toInt64.toUInt64).toInt64) &&& (255 : Int64)).toInt32).toUInt32.toUInt16.toUInt32.toInt32))), (.int (nar .char (((xb &&& (255 : Int64)).toInt32).toUInt32.toUInt16.toUInt32.toInt32))), (.int (nar .char (((((xb.toUInt64 >>> ((8 : Int32) &&& 0x3f).toInt64.toUInt64).toInt64) &&& (255 : Int64)).toInt32).toUInt32.toUInt16.toUInt32.toInt32))), (.int (nar .char (((((xb.toUInt64 >>> ((16 : Int32) &&& 0x3f).toInt64.toUInt64).toInt64) &&& (255 : Int64)).toInt32).toUInt32.toUInt16.toUInt32.toInt32)))] (.int (0 : Int32)) := V19
      have N19 := Fr.snoc X19 N18 G_b8
      have Z19 : n0 ≤ h19.size := by rw [W19.size]; exact Z18
      have hk := Nat.le_trans hk (Nat.le_of_eq W19.size.symm)
      have K19 := K18.wr W19 (Or.inr SZ_b8)
      have hb0 : ¬ (255 : Int32) < (nar .char (((xa &&& (255 : Int64)).toInt32).toUInt32.toUInt16.toUInt32.toInt32)) := own_b255 _
      have hn0 : nar .char (nar .char (((xa &&& (255 : Int64)).toInt32).toUInt32.toUInt16.toUInt32.toInt32)) = (nar .char (((xa &&& (255 : Int64)).toInt32).toUInt32.toUInt16.toUInt32.toInt32)) := own_nar2 _
      generalize (nar .char (((xa &&& (255 : Int64)).toInt32).toUInt32.toUInt16.toUInt32.toInt32)) = c0 at V_b8 hb0 hn0
      have hb1 : ¬ (255 : Int32) < (nar .char (((((xa.toUInt64 >>> ((8 : Int32) &&& 0x3f).toInt64.toUInt64).toInt64) &&& (255 : Int64)).toInt32).toUInt32.toUInt16.toUInt32.toInt32)) := own_b255 _
      have hn1 : nar .char (nar .char (((((xa.toUInt64 >>> ((8 : Int32) &&& 0x3f).toInt64.toUInt64).toInt64) &&& (255 : Int64)).toInt32).toUInt32.toUInt16.toUInt32.toInt32)) = (nar .char (((((xa.toUInt64 >>> ((8 : Int32) &&& 0x3f).toInt64.toUInt64).toInt64) &&& (255 : Int64)).toInt32).toUInt32.toUInt16.toUInt32.toInt32)) := own_nar2 _
      generalize (nar .char (((((xa.toUInt64 >>> ((8 : Int32) &&& 0x3f).toInt64.toUInt64).toInt64) &&& (255 : Int64)).toInt32).toUInt32.toUInt16.toUInt32.toInt32)) = c1 at V_b8 hb1 hn1
      have hb2 : ¬ (255 : Int32) < (nar .char (((((xa.toUInt64 >>> ((16 : Int32) &&& 0x3f).toInt64.toUInt64).toInt64) &&& (255 : Int64)).toInt32).toUInt32.toUInt16.toUInt32.toInt32)) := own_b255 _
      have hn2 : nar .char (nar .char (((((xa.toUInt64 >>> ((16 : Int32) &&& 0x3f).toInt64.toUInt64).toInt64) &&& (255 : Int64)).toInt32).toUInt32.toUInt16.toUInt32.toInt32)) = (nar .char (((((xa.toUInt64 >>> ((16 : Int32) &&& 0x3f).toInt64.toUInt64).toInt64) &&& (255 : Int64)).toInt32).toUInt32.toUInt16.toUInt32.toInt32)) := own_nar2 _
      generalize (nar .char (((((xa.toUInt64 >>> ((16 : Int32) &&& 0x3f).toInt64.toUInt64).toInt64) &&& (255 : Int64)).toInt32).toUInt32.toUInt16.toUInt32.toInt32)) = c2 at V_b8 hb2 hn2
      have hb3 : ¬ (255 : Int32) < (nar .char (((((xa.toUInt64 >>> ((24 : Int32) &&& 0x3f).toInt64.toUInt64).toInt64) &&& (255 : Int64)).toInt32).toUInt32.toUInt16.toUInt32.toInt32)) := own_b255 _
      have hn3 : nar .char (nar .char (((((xa.toUInt64 >>> ((24 : Int32) &&& 0x3f).toInt64.toUInt64).toInt64) &&& (255 : Int64)).toInt32).toUInt32.toUInt16.toUInt32.toInt32)) = (nar .char (((((xa.toUInt64 >>> ((24 : Int32) &&& 0x3f).toInt64.toUInt64).toInt64) &&& (255 : Int64)).toInt32).toUInt32.toUInt16.toUInt32.toInt32)) := own_nar2 _
      generalize (nar .char (((((xa.toUInt64 >>> ((24 : Int32) &&& 0x3f).toInt64.toUInt64).toInt64) &&& (255 : Int64)).toInt32).toUInt32.toUInt16.toUInt32.toInt32)) = c3 at V_b8 hb3 hn3
      have hb4 : ¬ (255 : Int32) < (nar .char (((((xa.toUInt64 >>> ((32 : Int32) &&& 0x3f).toInt64.toUInt64).toInt64) &&& (255 : Int64)).toInt32).toUInt32.toUInt16.toUInt32.toInt32)) := own_b255 _
      have hn4 : nar .char (nar .char (((((xa.toUInt64 >>> ((32 : Int32) &&& 0x3f).toInt64.toUInt64).toInt64) &&& (255 : Int64)).toInt32).toUInt32.toUInt16.toUInt32.toInt32)) = (nar .char (((((xa.toUInt64 >>> ((32 : Int32) &&& 0x3f).toInt64.toUInt64).toInt64) &&& (255 : Int64)).toInt32).toUInt32.toUInt16.toUInt32.toInt32)) := own_nar2 _
      generalize (nar .char (((((xa.toUInt64 >>> ((32 : Int32) &&& 0x3f).toInt64.toUInt64).toInt64) &&& (255 : Int64)).toInt32).toUInt32.toUInt16.toUInt32.toInt32)) = c4 at V_b8 hb4 hn4
      have hb5 : ¬ (255 : Int32) < (nar .char (((((xa.toUInt64 >>> ((40 : Int32) &&& 0x3f).toInt64.toUInt64).toInt64) &&& (255 : Int64)).toInt32).toUInt32.toUInt16.toUInt32.toInt32)) := own_b255 _
      have hn5 : nar .char (nar .char (((((xa.toUInt64 >>> ((40 : Int32) &&& 0x3f).toInt64.toUInt64).toInt64) &&& (255 : Int64)).toInt32).toUInt32.toUInt16.toUInt32.toInt32)) = (nar .char (((((xa.toUInt64 >>> ((40 : Int32) &&& 0x3f).toInt64.toUInt64).toInt64) &&& (255 : Int64)).toInt32).toUInt32.toUInt16.toUInt32.toInt32)) := own_nar2 _
      generalize (nar .char (((((xa.toUInt64 >>> ((40 : Int32) &&& 0x3f).toInt64.toUInt64).toInt64) &&& (255 : Int64)).toInt32).toUInt32.toUInt16.toUInt32.toInt32)) = c5 at V_b8 hb5 hn5
      have hb6 : ¬ (255 : Int32) < (nar .char (((((xa.toUInt64 >>> ((48 : Int32) &&& 0x3f).toInt64.toUInt64).toInt64) &&& (255 : Int64)).toInt32).toUInt32.toUInt16.toUInt32.toInt32)) := own_b255 _
      have hn6 : nar .char (nar .char (((((xa.toUInt64 >>> ((48 : Int32) &&& 0x3f).toInt64.toUInt64).toInt64) &&& (255 : Int64)).toInt32).toUInt32.toUInt16.toUInt32.toInt32)) = (nar .char (((((xa.toUInt64 >>> ((48 : Int32) &&& 0x3f).toInt64.toUInt64).toInt64) &&& (255 : Int64)).toInt32).toUInt32.toUInt16.toUInt32.toInt32)) := own_nar2 _
      generalize (nar .char (((((xa.toUInt64 >>> ((48 : Int32) &&& 0x3f).toInt64.toUInt64).toInt64) &&& (255 : Int64)).toInt32).toUInt32.toUInt16.toUInt32.toInt32)) = c6 at V_b8 hb6 hn6
      have hb7 : ¬ (255 : Int32) < (nar .char (((((xa.toUInt64 >>> ((56 : Int32) &&& 0x3f).toInt64.toUInt64).toInt64) &&& (255 : Int64)).toInt32).toUInt32.toUInt16.toUInt32.toInt32)) := own_b255 _
      have hn7 : nar .char (nar .char (((((xa.toUInt64 >>> ((56 : Int32) &&& 0x3f).toInt64.toUInt64).toInt64) &&& (255 : Int64)).toInt32).toUInt32.toUInt16.toUInt32.toInt32)) = (nar .char (((((xa.toUInt64 >>> ((56 : Int32) &&& 0x3f).toInt64.toUInt64).toInt64) &&& (255 : Int64)).toInt32).toUInt32.toUInt16.toUInt32.toInt32)) := own_nar2 _
      generalize (nar .char (((((xa.toUInt64 >>> ((56 : Int32) &&& 0x3f).toInt64.toUInt64).toInt64) &&& (255 : Int64)).toInt32).toUInt32.toUInt16.toUInt32.toInt32)) = c7 at V_b8 hb7 hn7
      have hb8 : ¬ (255 : Int32) < (nar .char (((xb &&& (255 : Int64)).toInt32).toUInt32.toUInt16.toUInt32.toInt32)) := own_b255 _
      have hn8 : nar .char (nar .char (((xb &&& (255 : Int64)).toInt32).toUInt32.toUInt16.toUInt32.toInt32)) = (nar .char (((xb &&& (255 : Int64)).toInt32).toUInt32.toUInt16.toUInt32.toInt32)) := own_nar2 _
      generalize (nar .char (((xb &&& (255 : Int64)).toInt32).toUInt32.toUInt16.toUInt32.toInt32)) = c8 at V_b8 hb8 hn8
      have hb9 : ¬ (255 : Int32) < (nar .char (((((xb.toUInt64 >>> ((8 : Int32) &&& 0x3f).toInt64.toUInt64).toInt64) &&& (255 : Int64)).toInt32).toUInt32.toUInt16.toUInt32.toInt32)) := own_b255 _
      have hn9 : nar .char (nar .char (((((xb.toUInt64 >>> ((8 : Int32) &&& 0x3f).toInt64.toUInt64).toInt64) &&& (255 : Int64)).toInt32).toUInt32.toUInt16.toUInt32.toInt32)) = (nar .char (((((xb.toUInt64 >>> ((8 : Int32) &&& 0x3f).toInt64.toUInt64).toInt64) &&& (255 : Int64)).toInt32).toUInt32.toUInt16.toUInt32.toInt32)) := own_nar2 _
      generalize (nar .char (((((xb.toUInt64 >>> ((8 : Int32) &&& 0x3f).toInt64.toUInt64).toInt64) &&& (255 : Int64)).toInt32).toUInt32.toUInt16.toUInt32.toInt32)) = c9 at V_b8 hb9 hn9
      have hb10 : ¬ (255 : Int32) < (nar .char (((((xb.toUInt64 >>> ((16 : Int32) &&& 0x3f).toInt64.toUInt64).toInt64) &&& (255 : Int64)).toInt32).toUInt32.toUInt16.toUInt32.toInt32)) := own_b255 _
      have hn10 : nar .char (nar .char (((((xb.toUInt64 >>> ((16 : Int32) &&& 0x3f).toInt64.toUInt64).toInt64) &&& (255 : Int64)).toInt32).toUInt32.toUInt16.toUInt32.toInt32)) = (nar .char (((((xb.toUInt64 >>> ((16 : Int32) &&& 0x3f).toInt64.toUInt64).toInt64) &&& (255 : Int64)).toInt32).toUInt32.toUInt16.toUInt32.toInt32)) := own_nar2 _
      generalize (nar .char (((((xb.toUInt64 >>> ((16 : Int32) &&& 0x3f).toInt64.toUInt64).toInt64) &&& (255 : Int64)).toInt32).toUInt32.toUInt16.toUInt32.toInt32)) = c10 at V_b8 hb10 hn10
      refine g_new X19 hx 201 hZ hown (own_w hw 5 rfl) (own_w hw 6 rfl) (own_w hw 7 rfl) e19 (hb hby at_198) (by decide) (by decide) rfl (fun T20 h20 b20 g20 X20 e20 E20 A20 D20 => ?_)
      have ne_b8_b20 : b8 ≠ b20 := Nat.ne_of_lt (Nat.lt_of_lt_of_le V_b8.lt (Nat.le_of_eq g20.symm))
      have V_b8 := V_b8.ext E20
      have G_b20 : n0 ≤ b20 := Nat.le_trans Z19 (Nat.le_of_eq g20.symm)
      have Z20 : n0 ≤ h20.size := Nat.le_trans Z19 E20.1
      have SZ_b20 : h0.size ≤ b20 := Nat.le_trans K19.1 (Nat.le_of_eq g20.symm)
      have K20 := K19.ext E20
      have hk := Nat.le_trans hk E20.1
      have E_b20 : Exa Z h20 b20 "java/lang/String" := A20
      have F_b20_coder : Fld Z h20 b20 "java/lang/String" "coder" "B" (.int (0 : Int32)) := D20 (Or.inr (own_w hw 31 rfl)) (ty := .byte) (by decide)
      have F_b20_value : Fld Z h20 b20 "java/lang/String" "value" "[B" .null := D20 (Or.inr (own_w hw 33 rfl)) (ty := (.array .byte)) (by decide)
      refine g_dup X20 hx 202 (hb hby at_201) rfl rfl ?_
      refine g_aload X20 hx 204 (hb hby at_202) rfl rfl rfl ?_
      refine g_callI X20 hx 207 hZ rfl hown (own_w hw 8 rfl) (own_w hw 9 rfl) (own_w hw 7 rfl) (own_w hw 10 rfl) (by decide) b20 [(.ref b8)] [(.ref b20)] (rs11_init1 l Z a0 hw b20 b8 cs c0 c1 c2 c3 c4 c5 c6 c7 c8 c9 c10 kl8 _ _ h20 n0 Z20 G_b20 (own_sta_keep S_cs K20) hcs E_b20 F_b20_value F_b20_coder V_b8 hb0 hb1 hb2 hb3 hb4 hb5 hb6 hb7 hb8 hb9 hb10) e20 1 (by decide) (by decide) (by decide) (by decide) (by rw [hml]; rfl) (lenOf own_pd11 rfl) (hb hby at_204) rfl (Nat.le_of_eq rfl) rfl (fun v21 T21 L21 X21 hQ21 => ?_)
      obtain ⟨rfl, N21q, K21, t, kT, hst, E_a, G_a, C_a, V_t⟩ := hQ21
      have N21 := Fr.app N19 N21q
      have V_b8 := V_b8.keep K21 (ninS ne_b8_b20 nin0)
      have KK21 := K20.trans K21 (allS (Or.inr SZ_b20) all0)
      have Z21 := Nat.le_trans Z20 K21.1
      have hk := Nat.le_trans hk K21.1
      refine g_astore X21 hx 209 #[.val (.long xa), .second, .val (.long xb), .second, .val (.int xm), .val (.int (xm &&& (3 : Int32))), .val (.ref wd), .val (.ref b20), .unset, .val (.ref b8), .unset, .unset] (hb hby at_207) rfl rfl rfl ?_
      refine g_aload X21 hx 211 (hb hby at_209) rfl rfl rfl ?_
      refine g_callS X21 hx 214 hZ hown (own_w hw 75 rfl) (own_w hw 76 rfl) (own_w hw 2 rfl) (own_w hw 77 rfl) (by decide) [(.ref b8)] [] (rm16 l Z a0 hw b8 c0 c1 c2 c3 c4 c5 c6 c7 c8 c9 c10 kl8 T21.heap n0 Z21 V_b8) rfl 0 (by decide) (by decide) (by decide) (by decide) (by rw [hml]; rfl) (lenOf own_pd13 rfl) (hb hby at_211) rfl (Nat.le_of_eq rfl) rfl (fun v22 T22 L22 X22 hQ22 => ?_)
      obtain ⟨rfl, N22q, e22⟩ := hQ22
      have N22 := Fr.app N21 N22q
      refine g_istore X22 hx 216 #[.val (.long xa), .second, .val (.long xb), .second, .val (.int xm), .val (.int (xm &&& (3 : Int32))), .val (.ref wd), .val (.ref b20), .val (.int (own_isw c0 c1 c2 c3 c4 c5 c6 c7 c8 c9 c10)), .val (.ref b8), .unset, .unset] (hb hby at_214) rfl rfl ?_
      refine g_goto X22 hx 454 (hb hby at_216) (by decide) (by decide) ?_
      show Go p e below _ _ T22 (mkF m 454 #[.val (.long xa), .second, .val (.long xb), .second, .val (.int xm), .val (.int (xm &&& (3 : Int32))), .val (.ref wd), .val (.ref b20), .val (.int (own_isw c0 c1 c2 c3 c4 c5 c6 c7 c8 c9 c10)), .val (.ref b8), .unset, .unset] [])
      rcases own_isw01 c0 c1 c2 c3 c4 c5 c6 c7 c8 c9 c10 with hw1 | hw0
      · rw [hw1]
        refine g_aload X22 hx 456 (hb hby at_454) rfl rfl rfl ?_
        refine g_callSW X22 hx 459 hZ hI hown (own_w hw 34 rfl) (own_w hw 35 rfl) (own_w hw 36 rfl) (own_w hw 37 rfl) (by decide) [(.ref b20)] [] (ruvE1 l Z a0 hw b20 f cs t _ _ _ _ _ _ _ _ _ _ _ kT T21.heap n0 Z21 (own_sta_keep S_cs KK21) hcs (own_sta_keep S_f KK21) (fun b cl q => KK21.2.1 b cl (hkp b cl q) nin0) hld hcw E_a C_a G_a V_t ((own_iswb c0 c1 c2 c3 c4 c5 c6 c7 c8 c9 c10 hn0 hb0 hn1 hb1 hn2 hb2 hn3 hb3 hn4 hb4 hn5 hb5 hn6 hb6 hn7 hb7 hn8 hb8 hn9 hb9 hn10 hb10).trans hw1)) e22 0 (by decide) (by decide) (by decide) (by decide) (by rw [hml]; rfl) (lenOf own_pd12 rfl) (hb hby at_456) rfl hS hk (Nat.le_of_eq rfl) rfl (fun v23 T23 L23 X23 hS hZ hown hQ23 => ?_)
        have hk := Nat.le_refl T23.heap.size
        obtain ⟨rfl, N23q, K23⟩ := hQ23
        have N23 := Fr.app N22 N23q
        have KK23 := KK21.trans K23 all0
        refine g_astore X23 hx 461 #[.val (.long xa), .second, .val (.long xb), .second, .val (.int xm), .val (.int (xm &&& (3 : Int32))), .val (.ref wd), .val (.ref b20), .val (.int (1 : Int32)), .val (.ref f), .unset, .unset] (hb hby at_459) rfl rfl rfl ?_
        refine g_iload X23 hx 463 (hb hby at_461) rfl rfl ?_
        refine g_ifF X23 hx 466 (hb hby at_463) (by decide) rfl ?_
        refine g_aload X23 hx 468 (hb hby at_466) rfl rfl rfl ?_
        refine g_getS X23 hx 471 hZ hown (host := "") (Or.inl (own_w hw 53 rfl)) Via.refl rfl (own_sta_keep S_f KK23) (hb hby at_468) rfl (fun T24 X24 e24 => ?_)
        refine g_ac X24 hx 474 true (hb hby at_471) rfl rfl (decide_eq_true rfl) (by decide) (by decide) ?_
        refine g_iconst X24 hx 475 (1 : Int32) (hb hby at_474) (by decide) rfl ?_
        refine g_goto X24 hx 479 (hb hby at_475) (by decide) (by decide) ?_
        exact g_retZW X24 hx hret hlk rfl (hb hby at_479) hS (Eq.subst (motive := fun z : Heap => _ ≤ z.size) (Eq.symm e24) hk) (by decide) (by decide) ⟨rfl, N23⟩
      · rw [hw0]
        refine g_aload X22 hx 456 (hb hby at_454) rfl rfl rfl ?_
        refine g_callSW X22 hx 459 hZ hI hown (own_w hw 34 rfl) (own_w hw 35 rfl) (own_w hw 36 rfl) (own_w hw 37 rfl) (by decide) [(.ref b20)] [] (ruvE0 l Z a0 hw b20 f cs t _ _ _ _ _ _ _ _ _ _ _ kT T21.heap n0 Z21 (own_sta_keep S_cs KK21) hcs (own_sta_keep S_f KK21) (fun b cl q => KK21.2.1 b cl (hkp b cl q) nin0) hld hcw E_a C_a G_a V_t ((own_iswb c0 c1 c2 c3 c4 c5 c6 c7 c8 c9 c10 hn0 hb0 hn1 hb1 hn2 hb2 hn3 hb3 hn4 hb4 hn5 hb5 hn6 hb6 hn7 hb7 hn8 hb8 hn9 hb9 hn10 hb10).trans hw0)) e22 0 (by decide) (by decide) (by decide) (by decide) (by rw [hml]; rfl) (lenOf own_pd12 rfl) (hb hby at_456) rfl hS hk (Nat.le_of_eq rfl) rfl (fun v25 T25 L25 X25 hS hZ hown hQ25 => ?_)
        have hk := Nat.le_refl T25.heap.size
        obtain ⟨rfl, N25q, K25⟩ := hQ25
        have N25 := Fr.app N22 N25q
        have KK25 := KK21.trans K25 all0
        refine g_astore X25 hx 461 #[.val (.long xa), .second, .val (.long xb), .second, .val (.int xm), .val (.int (xm &&& (3 : Int32))), .val (.ref wd), .val (.ref b20), .val (.int (0 : Int32)), .val .null, .unset, .unset] (hb hby at_459) rfl rfl rfl ?_
        refine g_iload X25 hx 463 (hb hby at_461) rfl rfl ?_
        refine g_ifT X25 hx 480 (hb hby at_463) (by decide) (by decide) (by decide) ?_
        refine g_aload X25 hx 482 (hb hby at_480) rfl rfl rfl ?_
        refine g_ifnonnullF X25 hx 485 (hb hby at_482) rfl ?_
        refine g_iconst X25 hx 486 (1 : Int32) (hb hby at_485) (by decide) rfl ?_
        refine g_goto X25 hx 490 (hb hby at_486) (by decide) (by decide) ?_
        exact g_retZW X25 hx hret hlk rfl (hb hby at_490) hS (Eq.subst (motive := fun z : Heap => _ ≤ z.size) (Eq.symm rfl) hk) (by decide) (by decide) ⟨rfl, N25⟩
    · refine g_icT X1 hx 219 (hb hby at_36) (feq hc7).2 (by decide) (by decide) ?_
      refine g_iload X1 hx 221 (hb hby at_219) rfl rfl ?_
      refine g_iconst X1 hx 222 (2 : Int32) (hb hby at_221) (by decide) rfl ?_
      by_cases hc26 : (xm &&& (3 : Int32)) = (2 : Int32)
      · refine g_icF X1 hx 225 (hb hby at_222) (teq hc26).2 rfl ?_
        refine g_iload X1 hx 227 (hb hby at_225) rfl rfl ?_
        refine g_iconst X1 hx 228 (2 : Int32) (hb hby at_227) (by decide) rfl ?_
        refine g_iushr X1 hx 229 ((xm.toUInt32 >>> ((2 : Int32) &&& 31).toUInt32).toInt32) (hb hby at_228) rfl rfl ?_
        refine g_bipush X1 hx 231 (11 : Int32) (hb hby at_229) (by decide) rfl ?_
        refine g_irem X1 hx 232 (((xm.toUInt32 >>> ((2 : Int32) &&& 31).toUInt32).toInt32) % (11 : Int32)) (hb hby at_231) (by decide) rfl rfl ?_
        refine g_istore X1 hx 234 #[.val (.long xa), .second, .val (.long xb), .second, .val (.int xm), .val (.int (xm &&& (3 : Int32))), .val (.ref wd), .unset, .unset, .val (.int (((xm.toUInt32 >>> ((2 : Int32) &&& 31).toUInt32).toInt32) % (11 : Int32))), .unset, .unset] (hb hby at_232) rfl rfl ?_
        refine g_lloadN X1 hx 235 (hb hby at_234) rfl rfl ?_
        refine g_ldc2J X1 hx 238 hZ hown (own_w hw 54 rfl) (hb hby at_235) rfl ?_
        refine g_land X1 hx 239 (xa &&& (65535 : Int64)) (hb hby at_238) rfl rfl ?_
        refine g_l2i X1 hx 240 ((xa &&& (65535 : Int64)).toInt32) (hb hby at_239) rfl rfl ?_
        refine g_i2c X1 hx 241 (((xa &&& (65535 : Int64)).toInt32).toUInt32.toUInt16.toUInt32.toInt32) (hb hby at_240) rfl rfl ?_
        refine g_istore X1 hx 243 #[.val (.long xa), .second, .val (.long xb), .second, .val (.int xm), .val (.int (xm &&& (3 : Int32))), .val (.ref wd), .unset, .unset, .val (.int (((xm.toUInt32 >>> ((2 : Int32) &&& 31).toUInt32).toInt32) % (11 : Int32))), .val (.int (((xa &&& (65535 : Int64)).toInt32).toUInt32.toUInt16.toUInt32.toInt32)), .unset] (hb hby at_241) rfl rfl ?_
        show Go p e below _ _ T1 (mkF m 243 #[.val (.long xa), .second, .val (.long xb), .second, .val (.int xm), .val (.int (xm &&& (3 : Int32))), .val (.ref wd), .unset, .unset, .val (.int (((xm.toUInt32 >>> ((2 : Int32) &&& 31).toUInt32).toInt32) % (11 : Int32))), .val (.int (((xa &&& (65535 : Int64)).toInt32).toUInt32.toUInt16.toUInt32.toInt32)), .unset] [])
        have hm := own_modb ((xm.toUInt32 >>> ((2 : Int32) &&& 31).toUInt32).toInt32) 11 (own_ushr2 xm) (by decide)
        generalize (((xm.toUInt32 >>> ((2 : Int32) &&& 31).toUInt32).toInt32) % (11 : Int32)) = ix at hm ⊢
        have hn : nar .char (((xa &&& (65535 : Int64)).toInt32).toUInt32.toUInt16.toUInt32.toInt32) = (((xa &&& (65535 : Int64)).toInt32).toUInt32.toUInt16.toUInt32.toInt32) := own_nar2 _
        generalize (((xa &&& (65535 : Int64)).toInt32).toUInt32.toUInt16.toUInt32.toInt32) = ch at hn ⊢
        rcases own_eleven ix hm.1 hm.2 with rfl | rfl | rfl | rfl | rfl | rfl | rfl | rfl | rfl | rfl | rfl
        · show Go p e below _ _ T1 (mkF m 243 #[.val (.long xa), .second, .val (.long xb), .second, .val (.int xm), .val (.int (xm &&& (3 : Int32))), .val (.ref wd), .unset, .unset, .val (.int (0 : Int32)), .val (.int ch), .unset] [])
          refine g_aload X1 hx 245 (hb hby at_243) rfl rfl rfl ?_
          refine g_iload X1 hx 247 (hb hby at_245) rfl rfl ?_
          refine g_caload X1 hx 248 hZ rfl V_wd ⟨by decide, by decide⟩ (show _ = (.int (105 : Int32)) from rfl) (hb hby at_247) rfl ?_
          refine g_istore X1 hx 250 #[.val (.long xa), .second, .val (.long xb), .second, .val (.int xm), .val (.int (xm &&& (3 : Int32))), .val (.ref wd), .unset, .unset, .val (.int (0 : Int32)), .val (.int ch), .val (.int (105 : Int32))] (hb hby at_248) rfl rfl ?_
          refine g_aload X1 hx 252 (hb hby at_250) rfl rfl rfl ?_
          refine g_iload X1 hx 254 (hb hby at_252) rfl rfl ?_
          refine g_iload X1 hx 256 (hb hby at_254) rfl rfl ?_
          refine g_castore X1 hx 257 hZ rfl V_wd 0 (by decide) ⟨by decide, by decide⟩ (Nat.le_of_ble_eq_true rfl) (hb hby at_256) rfl (fun T27 h27 X27 e27 W27 V27 => ?_)
          have V_wd : Arv Z h27 wd kw .char (11 : Int32) [(.int (nar .char ch)), (.int (115 : Int32)), (.int (69 : Int32)), (.int (120 : Int32)), (.int (104 : Int32)), (.int (97 : Int32)), (.int (117 : Int32)), (.int (115 : Int32)), (.int (116 : Int32)), (.int (101 : Int32)), (.int (100 : Int32))] (.int (0 : Int32)) := V27
          have N27 := Fr.snoc X27 N1 g_wd
          have Z27 : n0 ≤ h27.size := by rw [W27.size]; exact Z1
          have hk := Nat.le_trans hk (Nat.le_of_eq W27.size.symm)
          have K27 := K1.wr W27 (Or.inr SZ_wd)
          rw [hn] at V_wd
          rcases Decidable.em ((255 : Int32) < ch) with hbd | hbd
          · have hlt : (255 : Int32) < ch := hbd
            refine g_new X27 hx 260 hZ hown (own_w hw 5 rfl) (own_w hw 6 rfl) (own_w hw 7 rfl) e27 (hb hby at_257) (by decide) (by decide) rfl (fun T28 h28 b28 g28 X28 e28 E28 A28 D28 => ?_)
            have ne_wd_b28 : wd ≠ b28 := Nat.ne_of_lt (Nat.lt_of_lt_of_le V_wd.lt (Nat.le_of_eq g28.symm))
            have V_wd := V_wd.ext E28
            have G_b28 : n0 ≤ b28 := Nat.le_trans Z27 (Nat.le_of_eq g28.symm)
            have Z28 : n0 ≤ h28.size := Nat.le_trans Z27 E28.1
            have SZ_b28 : h0.size ≤ b28 := Nat.le_trans K27.1 (Nat.le_of_eq g28.symm)
            have K28 := K27.ext E28
            have hk := Nat.le_trans hk E28.1
            have E_b28 : Exa Z h28 b28 "java/lang/String" := A28
            have F_b28_coder : Fld Z h28 b28 "java/lang/String" "coder" "B" (.int (0 : Int32)) := D28 (Or.inr (own_w hw 31 rfl)) (ty := .byte) (by decide)
            have F_b28_value : Fld Z h28 b28 "java/lang/String" "value" "[B" .null := D28 (Or.inr (own_w hw 33 rfl)) (ty := (.array .byte)) (by decide)
            refine g_dup X28 hx 261 (hb hby at_260) rfl rfl ?_
            refine g_aload X28 hx 263 (hb hby at_261) rfl rfl rfl ?_
            refine g_callI X28 hx 266 hZ rfl hown (own_w hw 8 rfl) (own_w hw 9 rfl) (own_w hw 7 rfl) (own_w hw 10 rfl) (by decide) b28 [(.ref wd)] [(.ref b28)] (ru11_init1 l Z a0 hw b28 wd cs ch (115 : Int32) (69 : Int32) (120 : Int32) (104 : Int32) (97 : Int32) (117 : Int32) (115 : Int32) (116 : Int32) (101 : Int32) (100 : Int32) (0 : Int32) ch 0 1 kw _ _ h28 n0 Z28 G_b28 (own_sta_keep S_cs K28) hcs (own_sta_keep S_ad K28) (own_sta_keep S_hi K28) (own_sta_keep S_lo K28) E_b28 F_b28_value F_b28_coder V_wd ⟨by unfold own_fst11; exact (if_pos hbd), by decide, by decide, rfl, rfl, hbd, hn⟩) e28 1 (by decide) (by decide) (by decide) (by decide) (by rw [hml]; rfl) (lenOf own_pd11 rfl) (hb hby at_263) rfl (Nat.le_of_eq rfl) rfl (fun v29 T29 L29 X29 hQ29 => ?_)
            obtain ⟨rfl, N29q, K29, E_a, C_a⟩ := hQ29
            have N29 := Fr.app N27 N29q
            have KK29 := K28.trans K29 (allS (Or.inr SZ_b28) all0)
            have Z29 := Nat.le_trans Z28 K29.1
            have hk := Nat.le_trans hk K29.1
            refine g_astore X29 hx 268 #[.val (.long xa), .second, .val (.long xb), .second, .val (.int xm), .val (.int (xm &&& (3 : Int32))), .val (.ref wd), .val (.ref b28), .unset, .val (.int (0 : Int32)), .val (.int ch), .val (.int (105 : Int32))] (hb hby at_266) rfl rfl rfl ?_
            refine g_iload X29 hx 270 (hb hby at_268) rfl rfl ?_
            refine g_iload X29 hx 272 (hb hby at_270) rfl rfl ?_
            have hk30 : ¬ (ch = (105 : Int32)) := fun q => absurd hbd (by rw [q]; decide)
            refine g_icT X29 hx 279 (hb hby at_272) (feq hk30).2 (by decide) (by decide) ?_
            refine g_iconst X29 hx 280 (0 : Int32) (hb hby at_279) (by decide) rfl ?_
            refine g_istore X29 hx 282 #[.val (.long xa), .second, .val (.long xb), .second, .val (.int xm), .val (.int (xm &&& (3 : Int32))), .val (.ref wd), .val (.ref b28), .val (.int (0 : Int32)), .val (.int (0 : Int32)), .val (.int ch), .val (.int (105 : Int32))] (hb hby at_280) rfl rfl ?_
            refine g_goto X29 hx 454 (hb hby at_282) (by decide) (by decide) ?_
            refine g_aload X29 hx 456 (hb hby at_454) rfl rfl rfl ?_
            refine g_callSW X29 hx 459 hZ hI hown (own_w hw 34 rfl) (own_w hw 35 rfl) (own_w hw 36 rfl) (own_w hw 37 rfl) (by decide) [(.ref b28)] [] (ruvU l Z a0 hw b28 f cs T29.heap n0 Z29 (own_sta_keep S_cs KK29) hcs (own_sta_keep S_f KK29) (fun b cl q => KK29.2.1 b cl (hkp b cl q) nin0) hld hcw E_a C_a) rfl 0 (by decide) (by decide) (by decide) (by decide) (by rw [hml]; rfl) (lenOf own_pd12 rfl) (hb hby at_456) rfl hS hk (Nat.le_of_eq rfl) rfl (fun v31 T31 L31 X31 hS hZ hown hQ31 => ?_)
            have hk := Nat.le_refl T31.heap.size
            obtain ⟨rfl, N31q, K31⟩ := hQ31
            have N31 := Fr.app N29 N31q
            have KK31 := KK29.trans K31 all0
            refine g_astore X31 hx 461 #[.val (.long xa), .second, .val (.long xb), .second, .val (.int xm), .val (.int (xm &&& (3 : Int32))), .val (.ref wd), .val (.ref b28), .val (.int (0 : Int32)), .val .null, .val (.int ch), .val (.int (105 : Int32))] (hb hby at_459) rfl rfl rfl ?_
            refine g_iload X31 hx 463 (hb hby at_461) rfl rfl ?_
            refine g_ifT X31 hx 480 (hb hby at_463) (by decide) (by decide) (by decide) ?_
            refine g_aload X31 hx 482 (hb hby at_480) rfl rfl rfl ?_
            refine g_ifnonnullF X31 hx 485 (hb hby at_482) rfl ?_
            refine g_iconst X31 hx 486 (1 : Int32) (hb hby at_485) (by decide) rfl ?_
            refine g_goto X31 hx 490 (hb hby at_486) (by decide) (by decide) ?_
            exact g_retZW X31 hx hret hlk rfl (hb hby at_490) hS (Eq.subst (motive := fun z : Heap => _ ≤ z.size) (Eq.symm rfl) hk) (by decide) (by decide) ⟨rfl, N31⟩
          · have hlt : ¬ (255 : Int32) < ch := hbd
            refine g_new X27 hx 260 hZ hown (own_w hw 5 rfl) (own_w hw 6 rfl) (own_w hw 7 rfl) e27 (hb hby at_257) (by decide) (by decide) rfl (fun T32 h32 b32 g32 X32 e32 E32 A32 D32 => ?_)
            have ne_wd_b32 : wd ≠ b32 := Nat.ne_of_lt (Nat.lt_of_lt_of_le V_wd.lt (Nat.le_of_eq g32.symm))
            have V_wd := V_wd.ext E32
            have G_b32 : n0 ≤ b32 := Nat.le_trans Z27 (Nat.le_of_eq g32.symm)
            have Z32 : n0 ≤ h32.size := Nat.le_trans Z27 E32.1
            have SZ_b32 : h0.size ≤ b32 := Nat.le_trans K27.1 (Nat.le_of_eq g32.symm)
            have K32 := K27.ext E32
            have hk := Nat.le_trans hk E32.1
            have E_b32 : Exa Z h32 b32 "java/lang/String" := A32
            have F_b32_coder : Fld Z h32 b32 "java/lang/String" "coder" "B" (.int (0 : Int32)) := D32 (Or.inr (own_w hw 31 rfl)) (ty := .byte) (by decide)
            have F_b32_value : Fld Z h32 b32 "java/lang/String" "value" "[B" .null := D32 (Or.inr (own_w hw 33 rfl)) (ty := (.array .byte)) (by decide)
            refine g_dup X32 hx 261 (hb hby at_260) rfl rfl ?_
            refine g_aload X32 hx 263 (hb hby at_261) rfl rfl rfl ?_
            refine g_callI X32 hx 266 hZ rfl hown (own_w hw 8 rfl) (own_w hw 9 rfl) (own_w hw 7 rfl) (own_w hw 10 rfl) (by decide) b32 [(.ref wd)] [(.ref b32)] (rs11_init1 l Z a0 hw b32 wd cs ch (115 : Int32) (69 : Int32) (120 : Int32) (104 : Int32) (97 : Int32) (117 : Int32) (115 : Int32) (116 : Int32) (101 : Int32) (100 : Int32) kw _ _ h32 n0 Z32 G_b32 (own_sta_keep S_cs K32) hcs E_b32 F_b32_value F_b32_coder V_wd hbd (by decide) (by decide) (by decide) (by decide) (by decide) (by decide) (by decide) (by decide) (by decide) (by decide)) e32 1 (by decide) (by decide) (by decide) (by decide) (by rw [hml]; rfl) (lenOf own_pd11 rfl) (hb hby at_263) rfl (Nat.le_of_eq rfl) rfl (fun v33 T33 L33 X33 hQ33 => ?_)
            obtain ⟨rfl, N33q, K33, t, kT, hst, E_a, G_a, C_a, V_t⟩ := hQ33
            have N33 := Fr.app N27 N33q
            have KK33 := K32.trans K33 (allS (Or.inr SZ_b32) all0)
            have Z33 := Nat.le_trans Z32 K33.1
            have hk := Nat.le_trans hk K33.1
            refine g_astore X33 hx 268 #[.val (.long xa), .second, .val (.long xb), .second, .val (.int xm), .val (.int (xm &&& (3 : Int32))), .val (.ref wd), .val (.ref b32), .unset, .val (.int (0 : Int32)), .val (.int ch), .val (.int (105 : Int32))] (hb hby at_266) rfl rfl rfl ?_
            refine g_iload X33 hx 270 (hb hby at_268) rfl rfl ?_
            refine g_iload X33 hx 272 (hb hby at_270) rfl rfl ?_
            by_cases hc34 : ch = (105 : Int32)
            · refine g_icF X33 hx 275 (hb hby at_272) (teq hc34).2 rfl ?_
              refine g_iconst X33 hx 276 (1 : Int32) (hb hby at_275) (by decide) rfl ?_
              refine g_goto X33 hx 280 (hb hby at_276) (by decide) (by decide) ?_
              refine g_istore X33 hx 282 #[.val (.long xa), .second, .val (.long xb), .second, .val (.int xm), .val (.int (xm &&& (3 : Int32))), .val (.ref wd), .val (.ref b32), .val (.int (1 : Int32)), .val (.int (0 : Int32)), .val (.int ch), .val (.int (105 : Int32))] (hb hby at_280) rfl rfl ?_
              refine g_goto X33 hx 454 (hb hby at_282) (by decide) (by decide) ?_
              refine g_aload X33 hx 456 (hb hby at_454) rfl rfl rfl ?_
              refine g_callSW X33 hx 459 hZ hI hown (own_w hw 34 rfl) (own_w hw 35 rfl) (own_w hw 36 rfl) (own_w hw 37 rfl) (by decide) [(.ref b32)] [] (ruvE1 l Z a0 hw b32 f cs t _ _ _ _ _ _ _ _ _ _ _ kT T33.heap n0 Z33 (own_sta_keep S_cs KK33) hcs (own_sta_keep S_f KK33) (fun b cl q => KK33.2.1 b cl (hkp b cl q) nin0) hld hcw E_a C_a G_a V_t (by rw [hc34]; decide)) rfl 0 (by decide) (by decide) (by decide) (by decide) (by rw [hml]; rfl) (lenOf own_pd12 rfl) (hb hby at_456) rfl hS hk (Nat.le_of_eq rfl) rfl (fun v35 T35 L35 X35 hS hZ hown hQ35 => ?_)
              have hk := Nat.le_refl T35.heap.size
              obtain ⟨rfl, N35q, K35⟩ := hQ35
              have N35 := Fr.app N33 N35q
              have KK35 := KK33.trans K35 all0
              refine g_astore X35 hx 461 #[.val (.long xa), .second, .val (.long xb), .second, .val (.int xm), .val (.int (xm &&& (3 : Int32))), .val (.ref wd), .val (.ref b32), .val (.int (1 : Int32)), .val (.ref f), .val (.int ch), .val (.int (105 : Int32))] (hb hby at_459) rfl rfl rfl ?_
              refine g_iload X35 hx 463 (hb hby at_461) rfl rfl ?_
              refine g_ifF X35 hx 466 (hb hby at_463) (by decide) rfl ?_
              refine g_aload X35 hx 468 (hb hby at_466) rfl rfl rfl ?_
              refine g_getS X35 hx 471 hZ hown (host := "") (Or.inl (own_w hw 53 rfl)) Via.refl rfl (own_sta_keep S_f KK35) (hb hby at_468) rfl (fun T36 X36 e36 => ?_)
              refine g_ac X36 hx 474 true (hb hby at_471) rfl rfl (decide_eq_true rfl) (by decide) (by decide) ?_
              refine g_iconst X36 hx 475 (1 : Int32) (hb hby at_474) (by decide) rfl ?_
              refine g_goto X36 hx 479 (hb hby at_475) (by decide) (by decide) ?_
              exact g_retZW X36 hx hret hlk rfl (hb hby at_479) hS (Eq.subst (motive := fun z : Heap => _ ≤ z.size) (Eq.symm e36) hk) (by decide) (by decide) ⟨rfl, N35⟩
            · refine g_icT X33 hx 279 (hb hby at_272) (feq hc34).2 (by decide) (by decide) ?_
              refine g_iconst X33 hx 280 (0 : Int32) (hb hby at_279) (by decide) rfl ?_
              refine g_istore X33 hx 282 #[.val (.long xa), .second, .val (.long xb), .second, .val (.int xm), .val (.int (xm &&& (3 : Int32))), .val (.ref wd), .val (.ref b32), .val (.int (0 : Int32)), .val (.int (0 : Int32)), .val (.int ch), .val (.int (105 : Int32))] (hb hby at_280) rfl rfl ?_
              refine g_goto X33 hx 454 (hb hby at_282) (by decide) (by decide) ?_
              refine g_aload X33 hx 456 (hb hby at_454) rfl rfl rfl ?_
              refine g_callSW X33 hx 459 hZ hI hown (own_w hw 34 rfl) (own_w hw 35 rfl) (own_w hw 36 rfl) (own_w hw 37 rfl) (by decide) [(.ref b32)] [] (ruvE0 l Z a0 hw b32 f cs t _ _ _ _ _ _ _ _ _ _ _ kT T33.heap n0 Z33 (own_sta_keep S_cs KK33) hcs (own_sta_keep S_f KK33) (fun b cl q => KK33.2.1 b cl (hkp b cl q) nin0) hld hcw E_a C_a G_a V_t (own_isw0 _ _ _ _ _ _ _ _ _ _ _ (fun q => hc34 ((own_bt_eq ch (105 : Int32) hn hbd (by decide) (by decide)).mp q.1)))) rfl 0 (by decide) (by decide) (by decide) (by decide) (by rw [hml]; rfl) (lenOf own_pd12 rfl) (hb hby at_456) rfl hS hk (Nat.le_of_eq rfl) rfl (fun v37 T37 L37 X37 hS hZ hown hQ37 => ?_)
              have hk := Nat.le_refl T37.heap.size
              obtain ⟨rfl, N37q, K37⟩ := hQ37
              have N37 := Fr.app N33 N37q
              have KK37 := KK33.trans K37 all0
              refine g_astore X37 hx 461 #[.val (.long xa), .second, .val (.long xb), .second, .val (.int xm), .val (.int (xm &&& (3 : Int32))), .val (.ref wd), .val (.ref b32), .val (.int (0 : Int32)), .val .null, .val (.int ch), .val (.int (105 : Int32))] (hb hby at_459) rfl rfl rfl ?_
              refine g_iload X37 hx 463 (hb hby at_461) rfl rfl ?_
              refine g_ifT X37 hx 480 (hb hby at_463) (by decide) (by decide) (by decide) ?_
              refine g_aload X37 hx 482 (hb hby at_480) rfl rfl rfl ?_
              refine g_ifnonnullF X37 hx 485 (hb hby at_482) rfl ?_
              refine g_iconst X37 hx 486 (1 : Int32) (hb hby at_485) (by decide) rfl ?_
              refine g_goto X37 hx 490 (hb hby at_486) (by decide) (by decide) ?_
              exact g_retZW X37 hx hret hlk rfl (hb hby at_490) hS (Eq.subst (motive := fun z : Heap => _ ≤ z.size) (Eq.symm rfl) hk) (by decide) (by decide) ⟨rfl, N37⟩
        · show Go p e below _ _ T1 (mkF m 243 #[.val (.long xa), .second, .val (.long xb), .second, .val (.int xm), .val (.int (xm &&& (3 : Int32))), .val (.ref wd), .unset, .unset, .val (.int (1 : Int32)), .val (.int ch), .unset] [])
          refine g_aload X1 hx 245 (hb hby at_243) rfl rfl rfl ?_
          refine g_iload X1 hx 247 (hb hby at_245) rfl rfl ?_
          refine g_caload X1 hx 248 hZ rfl V_wd ⟨by decide, by decide⟩ (show _ = (.int (115 : Int32)) from rfl) (hb hby at_247) rfl ?_
          refine g_istore X1 hx 250 #[.val (.long xa), .second, .val (.long xb), .second, .val (.int xm), .val (.int (xm &&& (3 : Int32))), .val (.ref wd), .unset, .unset, .val (.int (1 : Int32)), .val (.int ch), .val (.int (115 : Int32))] (hb hby at_248) rfl rfl ?_
          refine g_aload X1 hx 252 (hb hby at_250) rfl rfl rfl ?_
          refine g_iload X1 hx 254 (hb hby at_252) rfl rfl ?_
          refine g_iload X1 hx 256 (hb hby at_254) rfl rfl ?_
          refine g_castore X1 hx 257 hZ rfl V_wd 1 (by decide) ⟨by decide, by decide⟩ (Nat.le_of_ble_eq_true rfl) (hb hby at_256) rfl (fun T38 h38 X38 e38 W38 V38 => ?_)
          have V_wd : Arv Z h38 wd kw .char (11 : Int32) [(.int (105 : Int32)), (.int (nar .char ch)), (.int (69 : Int32)), (.int (120 : Int32)), (.int (104 : Int32)), (.int (97 : Int32)), (.int (117 : Int32)), (.int (115 : Int32)), (.int (116 : Int32)), (.int (101 : Int32)), (.int (100 : Int32))] (.int (0 : Int32)) := V38
          have N38 := Fr.snoc X38 N1 g_wd
          have Z38 : n0 ≤ h38.size := by rw [W38.size]; exact Z1
          have hk := Nat.le_trans hk (Nat.le_of_eq W38.size.symm)
          have K38 := K1.wr W38 (Or.inr SZ_wd)
          rw [hn] at V_wd
          rcases Decidable.em ((255 : Int32) < ch) with hbd | hbd
          · have hlt : (255 : Int32) < ch := hbd
            refine g_new X38 hx 260 hZ hown (own_w hw 5 rfl) (own_w hw 6 rfl) (own_w hw 7 rfl) e38 (hb hby at_257) (by decide) (by decide) rfl (fun T39 h39 b39 g39 X39 e39 E39 A39 D39 => ?_)
            have ne_wd_b39 : wd ≠ b39 := Nat.ne_of_lt (Nat.lt_of_lt_of_le V_wd.lt (Nat.le_of_eq g39.symm))
            have V_wd := V_wd.ext E39
            have G_b39 : n0 ≤ b39 := Nat.le_trans Z38 (Nat.le_of_eq g39.symm)
            have Z39 : n0 ≤ h39.size := Nat.le_trans Z38 E39.1
            have SZ_b39 : h0.size ≤ b39 := Nat.le_trans K38.1 (Nat.le_of_eq g39.symm)
            have K39 := K38.ext E39
            have hk := Nat.le_trans hk E39.1
            have E_b39 : Exa Z h39 b39 "java/lang/String" := A39
            have F_b39_coder : Fld Z h39 b39 "java/lang/String" "coder" "B" (.int (0 : Int32)) := D39 (Or.inr (own_w hw 31 rfl)) (ty := .byte) (by decide)
            have F_b39_value : Fld Z h39 b39 "java/lang/String" "value" "[B" .null := D39 (Or.inr (own_w hw 33 rfl)) (ty := (.array .byte)) (by decide)
            refine g_dup X39 hx 261 (hb hby at_260) rfl rfl ?_
            refine g_aload X39 hx 263 (hb hby at_261) rfl rfl rfl ?_
            refine g_callI X39 hx 266 hZ rfl hown (own_w hw 8 rfl) (own_w hw 9 rfl) (own_w hw 7 rfl) (own_w hw 10 rfl) (by decide) b39 [(.ref wd)] [(.ref b39)] (ru11_init1 l Z a0 hw b39 wd cs (105 : Int32) ch (69 : Int32) (120 : Int32) (104 : Int32) (97 : Int32) (117 : Int32) (115 : Int32) (116 : Int32) (101 : Int32) (100 : Int32) (1 : Int32) ch 2 3 kw _ _ h39 n0 Z39 G_b39 (own_sta_keep S_cs K39) hcs (own_sta_keep S_ad K39) (own_sta_keep S_hi K39) (own_sta_keep S_lo K39) E_b39 F_b39_value F_b39_coder V_wd ⟨by unfold own_fst11; exact ((if_neg (by decide)).trans (if_pos hbd)), by decide, by decide, rfl, rfl, hbd, hn⟩) e39 1 (by decide) (by decide) (by decide) (by decide) (by rw [hml]; rfl) (lenOf own_pd11 rfl) (hb hby at_263) rfl (Nat.le_of_eq rfl) rfl (fun v40 T40 L40 X40 hQ40 => ?_)
            obtain ⟨rfl, N40q, K40, E_a, C_a⟩ := hQ40
            have N40 := Fr.app N38 N40q
            have KK40 := K39.trans K40 (allS (Or.inr SZ_b39) all0)
            have Z40 := Nat.le_trans Z39 K40.1
            have hk := Nat.le_trans hk K40.1
            refine g_astore X40 hx 268 #[.val (.long xa), .second, .val (.long xb), .second, .val (.int xm), .val (.int (xm &&& (3 : Int32))), .val (.ref wd), .val (.ref b39), .unset, .val (.int (1 : Int32)), .val (.int ch), .val (.int (115 : Int32))] (hb hby at_266) rfl rfl rfl ?_
            refine g_iload X40 hx 270 (hb hby at_268) rfl rfl ?_
            refine g_iload X40 hx 272 (hb hby at_270) rfl rfl ?_
            have hk41 : ¬ (ch = (115 : Int32)) := fun q => absurd hbd (by rw [q]; decide)
            refine g_icT X40 hx 279 (hb hby at_272) (feq hk41).2 (by decide) (by decide) ?_
            refine g_iconst X40 hx 280 (0 : Int32) (hb hby at_279) (by decide) rfl ?_
            refine g_istore X40 hx 282 #[.val (.long xa), .second, .val (.long xb), .second, .val (.int xm), .val (.int (xm &&& (3 : Int32))), .val (.ref wd), .val (.ref b39), .val (.int (0 : Int32)), .val (.int (1 : Int32)), .val (.int ch), .val (.int (115 : Int32))] (hb hby at_280) rfl rfl ?_
            refine g_goto X40 hx 454 (hb hby at_282) (by decide) (by decide) ?_
            refine g_aload X40 hx 456 (hb hby at_454) rfl rfl rfl ?_
            refine g_callSW X40 hx 459 hZ hI hown (own_w hw 34 rfl) (own_w hw 35 rfl) (own_w hw 36 rfl) (own_w hw 37 rfl) (by decide) [(.ref b39)] [] (ruvU l Z a0 hw b39 f cs T40.heap n0 Z40 (own_sta_keep S_cs KK40) hcs (own_sta_keep S_f KK40) (fun b cl q => KK40.2.1 b cl (hkp b cl q) nin0) hld hcw E_a C_a) rfl 0 (by decide) (by decide) (by decide) (by decide) (by rw [hml]; rfl) (lenOf own_pd12 rfl) (hb hby at_456) rfl hS hk (Nat.le_of_eq rfl) rfl (fun v42 T42 L42 X42 hS hZ hown hQ42 => ?_)
            have hk := Nat.le_refl T42.heap.size
            obtain ⟨rfl, N42q, K42⟩ := hQ42
            have N42 := Fr.app N40 N42q
            have KK42 := KK40.trans K42 all0
            refine g_astore X42 hx 461 #[.val (.long xa), .second, .val (.long xb), .second, .val (.int xm), .val (.int (xm &&& (3 : Int32))), .val (.ref wd), .val (.ref b39), .val (.int (0 : Int32)), .val .null, .val (.int ch), .val (.int (115 : Int32))] (hb hby at_459) rfl rfl rfl ?_
            refine g_iload X42 hx 463 (hb hby at_461) rfl rfl ?_
            refine g_ifT X42 hx 480 (hb hby at_463) (by decide) (by decide) (by decide) ?_
            refine g_aload X42 hx 482 (hb hby at_480) rfl rfl rfl ?_
            refine g_ifnonnullF X42 hx 485 (hb hby at_482) rfl ?_
            refine g_iconst X42 hx 486 (1 : Int32) (hb hby at_485) (by decide) rfl ?_
            refine g_goto X42 hx 490 (hb hby at_486) (by decide) (by decide) ?_
            exact g_retZW X42 hx hret hlk rfl (hb hby at_490) hS (Eq.subst (motive := fun z : Heap => _ ≤ z.size) (Eq.symm rfl) hk) (by decide) (by decide) ⟨rfl, N42⟩
          · have hlt : ¬ (255 : Int32) < ch := hbd
            refine g_new X38 hx 260 hZ hown (own_w hw 5 rfl) (own_w hw 6 rfl) (own_w hw 7 rfl) e38 (hb hby at_257) (by decide) (by decide) rfl (fun T43 h43 b43 g43 X43 e43 E43 A43 D43 => ?_)
            have ne_wd_b43 : wd ≠ b43 := Nat.ne_of_lt (Nat.lt_of_lt_of_le V_wd.lt (Nat.le_of_eq g43.symm))
            have V_wd := V_wd.ext E43
            have G_b43 : n0 ≤ b43 := Nat.le_trans Z38 (Nat.le_of_eq g43.symm)
            have Z43 : n0 ≤ h43.size := Nat.le_trans Z38 E43.1
            have SZ_b43 : h0.size ≤ b43 := Nat.le_trans K38.1 (Nat.le_of_eq g43.symm)
            have K43 := K38.ext E43
            have hk := Nat.le_trans hk E43.1
            have E_b43 : Exa Z h43 b43 "java/lang/String" := A43
            have F_b43_coder : Fld Z h43 b43 "java/lang/String" "coder" "B" (.int (0 : Int32)) := D43 (Or.inr (own_w hw 31 rfl)) (ty := .byte) (by decide)
            have F_b43_value : Fld Z h43 b43 "java/lang/String" "value" "[B" .null := D43 (Or.inr (own_w hw 33 rfl)) (ty := (.array .byte)) (by decide)
            refine g_dup X43 hx 261 (hb hby at_260) rfl rfl ?_
            refine g_aload X43 hx 263 (hb hby at_261) rfl rfl rfl ?_
            refine g_callI X43 hx 266 hZ rfl hown (own_w hw 8 rfl) (own_w hw 9 rfl) (own_w hw 7 rfl) (own_w hw 10 rfl) (by decide) b43 [(.ref wd)] [(.ref b43)] (rs11_init1 l Z a0 hw b43 wd cs (105 : Int32) ch (69 : Int32) (120 : Int32) (104 : Int32) (97 : Int32) (117 : Int32) (115 : Int32) (116 : Int32) (101 : Int32) (100 : Int32) kw _ _ h43 n0 Z43 G_b43 (own_sta_keep S_cs K43) hcs E_b43 F_b43_value F_b43_coder V_wd (by decide) hbd (by decide) (by decide) (by decide) (by decide) (by decide) (by decide) (by decide) (by decide) (by decide)) e43 1 (by decide) (by decide) (by decide) (by decide) (by rw [hml]; rfl) (lenOf own_pd11 rfl) (hb hby at_263) rfl (Nat.le_of_eq rfl) rfl (fun v44 T44 L44 X44 hQ44 => ?_)
            obtain ⟨rfl, N44q, K44, t, kT, hst, E_a, G_a, C_a, V_t⟩ := hQ44
            have N44 := Fr.app N38 N44q
            have KK44 := K43.trans K44 (allS (Or.inr SZ_b43) all0)
            have Z44 := Nat.le_trans Z43 K44.1
            have hk := Nat.le_trans hk K44.1
            refine g_astore X44 hx 268 #[.val (.long xa), .second, .val (.long xb), .second, .val (.int xm), .val (.int (xm &&& (3 : Int32))), .val (.ref wd), .val (.ref b43), .unset, .val (.int (1 : Int32)), .val (.int ch), .val (.int (115 : Int32))] (hb hby at_266) rfl rfl rfl ?_
            refine g_iload X44 hx 270 (hb hby at_268) rfl rfl ?_
            refine g_iload X44 hx 272 (hb hby at_270) rfl rfl ?_
            by_cases hc45 : ch = (115 : Int32)
            · refine g_icF X44 hx 275 (hb hby at_272) (teq hc45).2 rfl ?_
              refine g_iconst X44 hx 276 (1 : Int32) (hb hby at_275) (by decide) rfl ?_
              refine g_goto X44 hx 280 (hb hby at_276) (by decide) (by decide) ?_
              refine g_istore X44 hx 282 #[.val (.long xa), .second, .val (.long xb), .second, .val (.int xm), .val (.int (xm &&& (3 : Int32))), .val (.ref wd), .val (.ref b43), .val (.int (1 : Int32)), .val (.int (1 : Int32)), .val (.int ch), .val (.int (115 : Int32))] (hb hby at_280) rfl rfl ?_
              refine g_goto X44 hx 454 (hb hby at_282) (by decide) (by decide) ?_
              refine g_aload X44 hx 456 (hb hby at_454) rfl rfl rfl ?_
              refine g_callSW X44 hx 459 hZ hI hown (own_w hw 34 rfl) (own_w hw 35 rfl) (own_w hw 36 rfl) (own_w hw 37 rfl) (by decide) [(.ref b43)] [] (ruvE1 l Z a0 hw b43 f cs t _ _ _ _ _ _ _ _ _ _ _ kT T44.heap n0 Z44 (own_sta_keep S_cs KK44) hcs (own_sta_keep S_f KK44) (fun b cl q => KK44.2.1 b cl (hkp b cl q) nin0) hld hcw E_a C_a G_a V_t (by rw [hc45]; decide)) rfl 0 (by decide) (by decide) (by decide) (by decide) (by rw [hml]; rfl) (lenOf own_pd12 rfl) (hb hby at_456) rfl hS hk (Nat.le_of_eq rfl) rfl (fun v46 T46 L46 X46 hS hZ hown hQ46 => ?_)
              have hk := Nat.le_refl T46.heap.size
              obtain ⟨rfl, N46q, K46⟩ := hQ46
              have N46 := Fr.app N44 N46q
              have KK46 := KK44.trans K46 all0
              refine g_astore X46 hx 461 #[.val (.long xa), .second, .val (.long xb), .second, .val (.int xm), .val (.int (xm &&& (3 : Int32))), .val (.ref wd), .val (.ref b43), .val (.int (1 : Int32)), .val (.ref f), .val (.int ch), .val (.int (115 : Int32))] (hb hby at_459) rfl rfl rfl ?_
              refine g_iload X46 hx 463 (hb hby at_461) rfl rfl ?_
              refine g_ifF X46 hx 466 (hb hby at_463) (by decide) rfl ?_
              refine g_aload X46 hx 468 (hb hby at_466) rfl rfl rfl ?_
              refine g_getS X46 hx 471 hZ hown (host := "") (Or.inl (own_w hw 53 rfl)) Via.refl rfl (own_sta_keep S_f KK46) (hb hby at_468) rfl (fun T47 X47 e47 => ?_)
              refine g_ac X47 hx 474 true (hb hby at_471) rfl rfl (decide_eq_true rfl) (by decide) (by decide) ?_
              refine g_iconst X47 hx 475 (1 : Int32) (hb hby at_474) (by decide) rfl ?_
              refine g_goto X47 hx 479 (hb hby at_475) (by decide) (by decide) ?_
              exact g_retZW X47 hx hret hlk rfl (hb hby at_479) hS (Eq.subst (motive := fun z : Heap => _ ≤ z.size) (Eq.symm e47) hk) (by decide) (by decide) ⟨rfl, N46⟩
            · refine g_icT X44 hx 279 (hb hby at_272) (feq hc45).2 (by decide) (by decide) ?_
              refine g_iconst X44 hx 280 (0 : Int32) (hb hby at_279) (by decide) rfl ?_
              refine g_istore X44 hx 282 #[.val (.long xa), .second, .val (.long xb), .second, .val (.int xm), .val (.int (xm &&& (3 : Int32))), .val (.ref wd), .val (.ref b43), .val (.int (0 : Int32)), .val (.int (1 : Int32)), .val (.int ch), .val (.int (115 : Int32))] (hb hby at_280) rfl rfl ?_
              refine g_goto X44 hx 454 (hb hby at_282) (by decide) (by decide) ?_
              refine g_aload X44 hx 456 (hb hby at_454) rfl rfl rfl ?_
              refine g_callSW X44 hx 459 hZ hI hown (own_w hw 34 rfl) (own_w hw 35 rfl) (own_w hw 36 rfl) (own_w hw 37 rfl) (by decide) [(.ref b43)] [] (ruvE0 l Z a0 hw b43 f cs t _ _ _ _ _ _ _ _ _ _ _ kT T44.heap n0 Z44 (own_sta_keep S_cs KK44) hcs (own_sta_keep S_f KK44) (fun b cl q => KK44.2.1 b cl (hkp b cl q) nin0) hld hcw E_a C_a G_a V_t (own_isw0 _ _ _ _ _ _ _ _ _ _ _ (fun q => hc45 ((own_bt_eq ch (115 : Int32) hn hbd (by decide) (by decide)).mp q.2.1)))) rfl 0 (by decide) (by decide) (by decide) (by decide) (by rw [hml]; rfl) (lenOf own_pd12 rfl) (hb hby at_456) rfl hS hk (Nat.le_of_eq rfl) rfl (fun v48 T48 L48 X48 hS hZ hown hQ48 => ?_)
              have hk := Nat.le_refl T48.heap.size
              obtain ⟨rfl, N48q, K48⟩ := hQ48
              have N48 := Fr.app N44 N48q
              have KK48 := KK44.trans K48 all0
              refine g_astore X48 hx 461 #[.val (.long xa), .second, .val (.long xb), .second, .val (.int xm), .val (.int (xm &&& (3 : Int32))), .val (.ref wd), .val (.ref b43), .val (.int (0 : Int32)), .val .null, .val (.int ch), .val (.int (115 : Int32))] (hb hby at_459) rfl rfl rfl ?_
              refine g_iload X48 hx 463 (hb hby at_461) rfl rfl ?_
              refine g_ifT X48 hx 480 (hb hby at_463) (by decide) (by decide) (by decide) ?_
              refine g_aload X48 hx 482 (hb hby at_480) rfl rfl rfl ?_
              refine g_ifnonnullF X48 hx 485 (hb hby at_482) rfl ?_
              refine g_iconst X48 hx 486 (1 : Int32) (hb hby at_485) (by decide) rfl ?_
              refine g_goto X48 hx 490 (hb hby at_486) (by decide) (by decide) ?_
              exact g_retZW X48 hx hret hlk rfl (hb hby at_490) hS (Eq.subst (motive := fun z : Heap => _ ≤ z.size) (Eq.symm rfl) hk) (by decide) (by decide) ⟨rfl, N48⟩
        · show Go p e below _ _ T1 (mkF m 243 #[.val (.long xa), .second, .val (.long xb), .second, .val (.int xm), .val (.int (xm &&& (3 : Int32))), .val (.ref wd), .unset, .unset, .val (.int (2 : Int32)), .val (.int ch), .unset] [])
          refine g_aload X1 hx 245 (hb hby at_243) rfl rfl rfl ?_
          refine g_iload X1 hx 247 (hb hby at_245) rfl rfl ?_
          refine g_caload X1 hx 248 hZ rfl V_wd ⟨by decide, by decide⟩ (show _ = (.int (69 : Int32)) from rfl) (hb hby at_247) rfl ?_
          refine g_istore X1 hx 250 #[.val (.long xa), .second, .val (.long xb), .second, .val (.int xm), .val (.int (xm &&& (3 : Int32))), .val (.ref wd), .unset, .unset, .val (.int (2 : Int32)), .val (.int ch), .val (.int (69 : Int32))] (hb hby at_248) rfl rfl ?_
          refine g_aload X1 hx 252 (hb hby at_250) rfl rfl rfl ?_
          refine g_iload X1 hx 254 (hb hby at_252) rfl rfl ?_
          refine g_iload X1 hx 256 (hb hby at_254) rfl rfl ?_
          refine g_castore X1 hx 257 hZ rfl V_wd 2 (by decide) ⟨by decide, by decide⟩ (Nat.le_of_ble_eq_true rfl) (hb hby at_256) rfl (fun T49 h49 X49 e49 W49 V49 => ?_)
          have V_wd : Arv Z h49 wd kw .char (11 : Int32) [(.int (105 : Int32)), (.int (115 : Int32)), (.int (nar .char ch)), (.int (120 : Int32)), (.int (104 : Int32)), (.int (97 : Int32)), (.int (117 : Int32)), (.int (115 : Int32)), (.int (116 : Int32)), (.int (101 : Int32)), (.int (100 : Int32))] (.int (0 : Int32)) := V49
          have N49 := Fr.snoc X49 N1 g_wd
          have Z49 : n0 ≤ h49.size := by rw [W49.size]; exact Z1
          have hk := Nat.le_trans hk (Nat.le_of_eq W49.size.symm)
          have K49 := K1.wr W49 (Or.inr SZ_wd)
          rw [hn] at V_wd
          rcases Decidable.em ((255 : Int32) < ch) with hbd | hbd
          · have hlt : (255 : Int32) < ch := hbd
            refine g_new X49 hx 260 hZ hown (own_w hw 5 rfl) (own_w hw 6 rfl) (own_w hw 7 rfl) e49 (hb hby at_257) (by decide) (by decide) rfl (fun T50 h50 b50 g50 X50 e50 E50 A50 D50 => ?_)
            have ne_wd_b50 : wd ≠ b50 := Nat.ne_of_lt (Nat.lt_of_lt_of_le V_wd.lt (Nat.le_of_eq g50.symm))
            have V_wd := V_wd.ext E50
            have G_b50 : n0 ≤ b50 := Nat.le_trans Z49 (Nat.le_of_eq g50.symm)
            have Z50 : n0 ≤ h50.size := Nat.le_trans Z49 E50.1
            have SZ_b50 : h0.size ≤ b50 := Nat.le_trans K49.1 (Nat.le_of_eq g50.symm)
            have K50 := K49.ext E50
            have hk := Nat.le_trans hk E50.1
            have E_b50 : Exa Z h50 b50 "java/lang/String" := A50
            have F_b50_coder : Fld Z h50 b50 "java/lang/String" "coder" "B" (.int (0 : Int32)) := D50 (Or.inr (own_w hw 31 rfl)) (ty := .byte) (by decide)
            have F_b50_value : Fld Z h50 b50 "java/lang/String" "value" "[B" .null := D50 (Or.inr (own_w hw 33 rfl)) (ty := (.array .byte)) (by decide)
            refine g_dup X50 hx 261 (hb hby at_260) rfl rfl ?_
            refine g_aload X50 hx 263 (hb hby at_261) rfl rfl rfl ?_
            refine g_callI X50 hx 266 hZ rfl hown (own_w hw 8 rfl) (own_w hw 9 rfl) (own_w hw 7 rfl) (own_w hw 10 rfl) (by decide) b50 [(.ref wd)] [(.ref b50)] (ru11_init1 l Z a0 hw b50 wd cs (105 : Int32) (115 : Int32) ch (120 : Int32) (104 : Int32) (97 : Int32) (117 : Int32) (115 : Int32) (116 : Int32) (101 : Int32) (100 : Int32) (2 : Int32) ch 4 5 kw _ _ h50 n0 Z50 G_b50 (own_sta_keep S_cs K50) hcs (own_sta_keep S_ad K50) (own_sta_keep S_hi K50) (own_sta_keep S_lo K50) E_b50 F_b50_value F_b50_coder V_wd ⟨by unfold own_fst11; exact ((if_neg (by decide)).trans ((if_neg (by decide)).trans (if_pos hbd))), by decide, by decide, rfl, rfl, hbd, hn⟩) e50 1 (by decide) (by decide) (by decide) (by decide) (by rw [hml]; rfl) (lenOf own_pd11 rfl) (hb hby at_263) rfl (Nat.le_of_eq rfl) rfl (fun v51 T51 L51 X51 hQ51 => ?_)
            obtain ⟨rfl, N51q, K51, E_a, C_a⟩ := hQ51
            have N51 := Fr.app N49 N51q
            have KK51 := K50.trans K51 (allS (Or.inr SZ_b50) all0)
            have Z51 := Nat.le_trans Z50 K51.1
            have hk := Nat.le_trans hk K51.1
            refine g_astore X51 hx 268 #[.val (.long xa), .second, .val (.long xb), .second, .val (.int xm), .val (.int (xm &&& (3 : Int32))), .val (.ref wd), .val (.ref b50), .unset, .val (.int (2 : Int32)), .val (.int ch), .val (.int (69 : Int32))] (hb hby at_266) rfl rfl rfl ?_
            refine g_iload X51 hx 270 (hb hby at_268) rfl rfl ?_
            refine g_iload X51 hx 272 (hb hby at_270) rfl rfl ?_
            have hk52 : ¬ (ch = (69 : Int32)) := fun q => absurd hbd (by rw [q]; decide)
            refine g_icT X51 hx 279 (hb hby at_272) (feq hk52).2 (by decide) (by decide) ?_
            refine g_iconst X51 hx 280 (0 : Int32) (hb hby at_279) (by decide) rfl ?_
            refine g_istore X51 hx 282 #[.val (.long xa), .second, .val (.long xb), .second, .val (.int xm), .val (.int (xm &&& (3 : Int32))), .val (.ref wd), .val (.ref b50), .val (.int (0 : Int32)), .val (.int (2 : Int32)), .val (.int ch), .val (.int (69 : Int32))] (hb hby at_280) rfl rfl ?_
            refine g_goto X51 hx 454 (hb hby at_282) (by decide) (by decide) ?_
            refine g_aload X51 hx 456 (hb hby at_454) rfl rfl rfl ?_
            refine g_callSW X51 hx 459 hZ hI hown (own_w hw 34 rfl) (own_w hw 35 rfl) (own_w hw 36 rfl) (own_w hw 37 rfl) (by decide) [(.ref b50)] [] (ruvU l Z a0 hw b50 f cs T51.heap n0 Z51 (own_sta_keep S_cs KK51) hcs (own_sta_keep S_f KK51) (fun b cl q => KK51.2.1 b cl (hkp b cl q) nin0) hld hcw E_a C_a) rfl 0 (by decide) (by decide) (by decide) (by decide) (by rw [hml]; rfl) (lenOf own_pd12 rfl) (hb hby at_456) rfl hS hk (Nat.le_of_eq rfl) rfl (fun v53 T53 L53 X53 hS hZ hown hQ53 => ?_)
            have hk := Nat.le_refl T53.heap.size
            obtain ⟨rfl, N53q, K53⟩ := hQ53
            have N53 := Fr.app N51 N53q
            have KK53 := KK51.trans K53 all0
            refine g_astore X53 hx 461 #[.val (.long xa), .second, .val (.long xb), .second, .val (.int xm), .val (.int (xm &&& (3 : Int32))), .val (.ref wd), .val (.ref b50), .val (.int (0 : Int32)), .val .null, .val (.int ch), .val (.int (69 : Int32))] (hb hby at_459) rfl rfl rfl ?_
            refine g_iload X53 hx 463 (hb hby at_461) rfl rfl ?_
            refine g_ifT X53 hx 480 (hb hby at_463) (by decide) (by decide) (by decide) ?_
            refine g_aload X53 hx 482 (hb hby at_480) rfl rfl rfl ?_
            refine g_ifnonnullF X53 hx 485 (hb hby at_482) rfl ?_
            refine g_iconst X53 hx 486 (1 : Int32) (hb hby at_485) (by decide) rfl ?_
            refine g_goto X53 hx 490 (hb hby at_486) (by decide) (by decide) ?_
            exact g_retZW X53 hx hret hlk rfl (hb hby at_490) hS (Eq.subst (motive := fun z : Heap => _ ≤ z.size) (Eq.symm rfl) hk) (by decide) (by decide) ⟨rfl, N53⟩
          · have hlt : ¬ (255 : Int32) < ch := hbd
            refine g_new X49 hx 260 hZ hown (own_w hw 5 rfl) (own_w hw 6 rfl) (own_w hw 7 rfl) e49 (hb hby at_257) (by decide) (by decide) rfl (fun T54 h54 b54 g54 X54 e54 E54 A54 D54 => ?_)
            have ne_wd_b54 : wd ≠ b54 := Nat.ne_of_lt (Nat.lt_of_lt_of_le V_wd.lt (Nat.le_of_eq g54.symm))
            have V_wd := V_wd.ext E54
            have G_b54 : n0 ≤ b54 := Nat.le_trans Z49 (Nat.le_of_eq g54.symm)
            have Z54 : n0 ≤ h54.size := Nat.le_trans Z49 E54.1
            have SZ_b54 : h0.size ≤ b54 := Nat.le_trans K49.1 (Nat.le_of_eq g54.symm)
            have K54 := K49.ext E54
            have hk := Nat.le_trans hk E54.1
            have E_b54 : Exa Z h54 b54 "java/lang/String" := A54
            have F_b54_coder : Fld Z h54 b54 "java/lang/String" "coder" "B" (.int (0 : Int32)) := D54 (Or.inr (own_w hw 31 rfl)) (ty := .byte) (by decide)
            have F_b54_value : Fld Z h54 b54 "java/lang/String" "value" "[B" .null := D54 (Or.inr (own_w hw 33 rfl)) (ty := (.array .byte)) (by decide)
            refine g_dup X54 hx 261 (hb hby at_260) rfl rfl ?_
            refine g_aload X54 hx 263 (hb hby at_261) rfl rfl rfl ?_
            refine g_callI X54 hx 266 hZ rfl hown (own_w hw 8 rfl) (own_w hw 9 rfl) (own_w hw 7 rfl) (own_w hw 10 rfl) (by decide) b54 [(.ref wd)] [(.ref b54)] (rs11_init1 l Z a0 hw b54 wd cs (105 : Int32) (115 : Int32) ch (120 : Int32) (104 : Int32) (97 : Int32) (117 : Int32) (115 : Int32) (116 : Int32) (101 : Int32) (100 : Int32) kw _ _ h54 n0 Z54 G_b54 (own_sta_keep S_cs K54) hcs E_b54 F_b54_value F_b54_coder V_wd (by decide) (by decide) hbd (by decide) (by decide) (by decide) (by decide) (by decide) (by decide) (by decide) (by decide)) e54 1 (by decide) (by decide) (by decide) (by decide) (by rw [hml]; rfl) (lenOf own_pd11 rfl) (hb hby at_263) rfl (Nat.le_of_eq rfl) rfl (fun v55 T55 L55 X55 hQ55 => ?_)
            obtain ⟨rfl, N55q, K55, t, kT, hst, E_a, G_a, C_a, V_t⟩ := hQ55
            have N55 := Fr.app N49 N55q
            have KK55 := K54.trans K55 (allS (Or.inr SZ_b54) all0)
            have Z55 := Nat.le_trans Z54 K55.1
            have hk := Nat.le_trans hk K55.1
            refine g_astore X55 hx 268 #[.val (.long xa), .second, .val (.long xb), .second, .val (.int xm), .val (.int (xm &&& (3 : Int32))), .val (.ref wd), .val (.ref b54), .unset, .val (.int (2 : Int32)), .val (.int ch), .val (.int (69 : Int32))] (hb hby at_266) rfl rfl rfl ?_
            refine g_iload X55 hx 270 (hb hby at_268) rfl rfl ?_
            refine g_iload X55 hx 272 (hb hby at_270) rfl rfl ?_
            by_cases hc56 : ch = (69 : Int32)
            · refine g_icF X55 hx 275 (hb hby at_272) (teq hc56).2 rfl ?_
              refine g_iconst X55 hx 276 (1 : Int32) (hb hby at_275) (by decide) rfl ?_
              refine g_goto X55 hx 280 (hb hby at_276) (by decide) (by decide) ?_
              refine g_istore X55 hx 282 #[.val (.long xa), .second, .val (.long xb), .second, .val (.int xm), .val (.int (xm &&& (3 : Int32))), .val (.ref wd), .val (.ref b54), .val (.int (1 : Int32)), .val (.int (2 : Int32)), .val (.int ch), .val (.int (69 : Int32))] (hb hby at_280) rfl rfl ?_
              refine g_goto X55 hx 454 (hb hby at_282) (by decide) (by decide) ?_
              refine g_aload X55 hx 456 (hb hby at_454) rfl rfl rfl ?_
              refine g_callSW X55 hx 459 hZ hI hown (own_w hw 34 rfl) (own_w hw 35 rfl) (own_w hw 36 rfl) (own_w hw 37 rfl) (by decide) [(.ref b54)] [] (ruvE1 l Z a0 hw b54 f cs t _ _ _ _ _ _ _ _ _ _ _ kT T55.heap n0 Z55 (own_sta_keep S_cs KK55) hcs (own_sta_keep S_f KK55) (fun b cl q => KK55.2.1 b cl (hkp b cl q) nin0) hld hcw E_a C_a G_a V_t (by rw [hc56]; decide)) rfl 0 (by decide) (by decide) (by decide) (by decide) (by rw [hml]; rfl) (lenOf own_pd12 rfl) (hb hby at_456) rfl hS hk (Nat.le_of_eq rfl) rfl (fun v57 T57 L57 X57 hS hZ hown hQ57 => ?_)
              have hk := Nat.le_refl T57.heap.size
              obtain ⟨rfl, N57q, K57⟩ := hQ57
              have N57 := Fr.app N55 N57q
              have KK57 := KK55.trans K57 all0
              refine g_astore X57 hx 461 #[.val (.long xa), .second, .val (.long xb), .second, .val (.int xm), .val (.int (xm &&& (3 : Int32))), .val (.ref wd), .val (.ref b54), .val (.int (1 : Int32)), .val (.ref f), .val (.int ch), .val (.int (69 : Int32))] (hb hby at_459) rfl rfl rfl ?_
              refine g_iload X57 hx 463 (hb hby at_461) rfl rfl ?_
              refine g_ifF X57 hx 466 (hb hby at_463) (by decide) rfl ?_
              refine g_aload X57 hx 468 (hb hby at_466) rfl rfl rfl ?_
              refine g_getS X57 hx 471 hZ hown (host := "") (Or.inl (own_w hw 53 rfl)) Via.refl rfl (own_sta_keep S_f KK57) (hb hby at_468) rfl (fun T58 X58 e58 => ?_)
              refine g_ac X58 hx 474 true (hb hby at_471) rfl rfl (decide_eq_true rfl) (by decide) (by decide) ?_
              refine g_iconst X58 hx 475 (1 : Int32) (hb hby at_474) (by decide) rfl ?_
              refine g_goto X58 hx 479 (hb hby at_475) (by decide) (by decide) ?_
              exact g_retZW X58 hx hret hlk rfl (hb hby at_479) hS (Eq.subst (motive := fun z : Heap => _ ≤ z.size) (Eq.symm e58) hk) (by decide) (by decide) ⟨rfl, N57⟩
            · refine g_icT X55 hx 279 (hb hby at_272) (feq hc56).2 (by decide) (by decide) ?_
              refine g_iconst X55 hx 280 (0 : Int32) (hb hby at_279) (by decide) rfl ?_
              refine g_istore X55 hx 282 #[.val (.long xa), .second, .val (.long xb), .second, .val (.int xm), .val (.int (xm &&& (3 : Int32))), .val (.ref wd), .val (.ref b54), .val (.int (0 : Int32)), .val (.int (2 : Int32)), .val (.int ch), .val (.int (69 : Int32))] (hb hby at_280) rfl rfl ?_
              refine g_goto X55 hx 454 (hb hby at_282) (by decide) (by decide) ?_
              refine g_aload X55 hx 456 (hb hby at_454) rfl rfl rfl ?_
              refine g_callSW X55 hx 459 hZ hI hown (own_w hw 34 rfl) (own_w hw 35 rfl) (own_w hw 36 rfl) (own_w hw 37 rfl) (by decide) [(.ref b54)] [] (ruvE0 l Z a0 hw b54 f cs t _ _ _ _ _ _ _ _ _ _ _ kT T55.heap n0 Z55 (own_sta_keep S_cs KK55) hcs (own_sta_keep S_f KK55) (fun b cl q => KK55.2.1 b cl (hkp b cl q) nin0) hld hcw E_a C_a G_a V_t (own_isw0 _ _ _ _ _ _ _ _ _ _ _ (fun q => hc56 ((own_bt_eq ch (69 : Int32) hn hbd (by decide) (by decide)).mp q.2.2.1)))) rfl 0 (by decide) (by decide) (by decide) (by decide) (by rw [hml]; rfl) (lenOf own_pd12 rfl) (hb hby at_456) rfl hS hk (Nat.le_of_eq rfl) rfl (fun v59 T59 L59 X59 hS hZ hown hQ59 => ?_)
              have hk := Nat.le_refl T59.heap.size
              obtain ⟨rfl, N59q, K59⟩ := hQ59
              have N59 := Fr.app N55 N59q
              have KK59 := KK55.trans K59 all0
              refine g_astore X59 hx 461 #[.val (.long xa), .second, .val (.long xb), .second, .val (.int xm), .val (.int (xm &&& (3 : Int32))), .val (.ref wd), .val (.ref b54), .val (.int (0 : Int32)), .val .null, .val (.int ch), .val (.int (69 : Int32))] (hb hby at_459) rfl rfl rfl ?_
              refine g_iload X59 hx 463 (hb hby at_461) rfl rfl ?_
              refine g_ifT X59 hx 480 (hb hby at_463) (by decide) (by decide) (by decide) ?_
              refine g_aload X59 hx 482 (hb hby at_480) rfl rfl rfl ?_
              refine g_ifnonnullF X59 hx 485 (hb hby at_482) rfl ?_
              refine g_iconst X59 hx 486 (1 : Int32) (hb hby at_485) (by decide) rfl ?_
              refine g_goto X59 hx 490 (hb hby at_486) (by decide) (by decide) ?_
              exact g_retZW X59 hx hret hlk rfl (hb hby at_490) hS (Eq.subst (motive := fun z : Heap => _ ≤ z.size) (Eq.symm rfl) hk) (by decide) (by decide) ⟨rfl, N59⟩
        · show Go p e below _ _ T1 (mkF m 243 #[.val (.long xa), .second, .val (.long xb), .second, .val (.int xm), .val (.int (xm &&& (3 : Int32))), .val (.ref wd), .unset, .unset, .val (.int (3 : Int32)), .val (.int ch), .unset] [])
          refine g_aload X1 hx 245 (hb hby at_243) rfl rfl rfl ?_
          refine g_iload X1 hx 247 (hb hby at_245) rfl rfl ?_
          refine g_caload X1 hx 248 hZ rfl V_wd ⟨by decide, by decide⟩ (show _ = (.int (120 : Int32)) from rfl) (hb hby at_247) rfl ?_
          refine g_istore X1 hx 250 #[.val (.long xa), .second, .val (.long xb), .second, .val (.int xm), .val (.int (xm &&& (3 : Int32))), .val (.ref wd), .unset, .unset, .val (.int (3 : Int32)), .val (.int ch), .val (.int (120 : Int32))] (hb hby at_248) rfl rfl ?_
          refine g_aload X1 hx 252 (hb hby at_250) rfl rfl rfl ?_
          refine g_iload X1 hx 254 (hb hby at_252) rfl rfl ?_
          refine g_iload X1 hx 256 (hb hby at_254) rfl rfl ?_
          refine g_castore X1 hx 257 hZ rfl V_wd 3 (by decide) ⟨by decide, by decide⟩ (Nat.le_of_ble_eq_true rfl) (hb hby at_256) rfl (fun T60 h60 X60 e60 W60 V60 => ?_)
          have V_wd : Arv Z h60 wd kw .char (11 : Int32) [(.int (105 : Int32)), (.int (115 : Int32)), (.int (69 : Int32)), (.int (nar .char ch)), (.int (104 : Int32)), (.int (97 : Int32)), (.int (117 : Int32)), (.int (115 : Int32)), (.int (116 : Int32)), (.int (101 : Int32)), (.int (100 : Int32))] (.int (0 : Int32)) := V60
          have N60 := Fr.snoc X60 N1 g_wd
          have Z60 : n0 ≤ h60.size := by rw [W60.size]; exact Z1
          have hk := Nat.le_trans hk (Nat.le_of_eq W60.size.symm)
          have K60 := K1.wr W60 (Or.inr SZ_wd)
          rw [hn] at V_wd
          rcases Decidable.em ((255 : Int32) < ch) with hbd | hbd
          · have hlt : (255 : Int32) < ch := hbd
            refine g_new X60 hx 260 hZ hown (own_w hw 5 rfl) (own_w hw 6 rfl) (own_w hw 7 rfl) e60 (hb hby at_257) (by decide) (by decide) rfl (fun T61 h61 b61 g61 X61 e61 E61 A61 D61 => ?_)
            have ne_wd_b61 : wd ≠ b61 := Nat.ne_of_lt (Nat.lt_of_lt_of_le V_wd.lt (Nat.le_of_eq g61.symm))
            have V_wd := V_wd.ext E61
            have G_b61 : n0 ≤ b61 := Nat.le_trans Z60 (Nat.le_of_eq g61.symm)
            have Z61 : n0 ≤ h61.size := Nat.le_trans Z60 E61.1
            have SZ_b61 : h0.size ≤ b61 := Nat.le_trans K60.1 (Nat.le_of_eq g61.symm)
            have K61 := K60.ext E61
            have hk := Nat.le_trans hk E61.1
            have E_b61 : Exa Z h61 b61 "java/lang/String" := A61
            have F_b61_coder : Fld Z h61 b61 "java/lang/String" "coder" "B" (.int (0 : Int32)) := D61 (Or.inr (own_w hw 31 rfl)) (ty := .byte) (by decide)
            have F_b61_value : Fld Z h61 b61 "java/lang/String" "value" "[B" .null := D61 (Or.inr (own_w hw 33 rfl)) (ty := (.array .byte)) (by decide)
            refine g_dup X61 hx 261 (hb hby at_260) rfl rfl ?_
            refine g_aload X61 hx 263 (hb hby at_261) rfl rfl rfl ?_
            refine g_callI X61 hx 266 hZ rfl hown (own_w hw 8 rfl) (own_w hw 9 rfl) (own_w hw 7 rfl) (own_w hw 10 rfl) (by decide) b61 [(.ref wd)] [(.ref b61)] (ru11_init1 l Z a0 hw b61 wd cs (105 : Int32) (115 : Int32) (69 : Int32) ch (104 : Int32) (97 : Int32) (117 : Int32) (115 : Int32) (116 : Int32) (101 : Int32) (100 : Int32) (3 : Int32) ch 6 7 kw _ _ h61 n0 Z61 G_b61 (own_sta_keep S_cs K61) hcs (own_sta_keep S_ad K61) (own_sta_keep S_hi K61) (own_sta_keep S_lo K61) E_b61 F_b61_value F_b61_coder V_wd ⟨by unfold own_fst11; exact ((if_neg (by decide)).trans ((if_neg (by decide)).trans ((if_neg (by decide)).trans (if_pos hbd)))), by decide, by decide, rfl, rfl, hbd, hn⟩) e61 1 (by decide) (by decide) (by decide) (by decide) (by rw [hml]; rfl) (lenOf own_pd11 rfl) (hb hby at_263) rfl (Nat.le_of_eq rfl) rfl (fun v62 T62 L62 X62 hQ62 => ?_)
            obtain ⟨rfl, N62q, K62, E_a, C_a⟩ := hQ62
            have N62 := Fr.app N60 N62q
            have KK62 := K61.trans K62 (allS (Or.inr SZ_b61) all0)
            have Z62 := Nat.le_trans Z61 K62.1
            have hk := Nat.le_trans hk K62.1
            refine g_astore X62 hx 268 #[.val (.long xa), .second, .val (.long xb), .second, .val (.int xm), .val (.int (xm &&& (3 : Int32))), .val (.ref wd), .val (.ref b61), .unset, .val (.int (3 : Int32)), .val (.int ch), .val (.int (120 : Int32))] (hb hby at_266) rfl rfl rfl ?_
            refine g_iload X62 hx 270 (hb hby at_268) rfl rfl ?_
            refine g_iload X62 hx 272 (hb hby at_270) rfl rfl ?_
            have hk63 : ¬ (ch = (120 : Int32)) := fun q => absurd hbd (by rw [q]; decide)
            refine g_icT X62 hx 279 (hb hby at_272) (feq hk63).2 (by decide) (by decide) ?_
            refine g_iconst X62 hx 280 (0 : Int32) (hb hby at_279) (by decide) rfl ?_
            refine g_istore X62 hx 282 #[.val (.long xa), .second, .val (.long xb), .second, .val (.int xm), .val (.int (xm &&& (3 : Int32))), .val (.ref wd), .val (.ref b61), .val (.int (0 : Int32)), .val (.int (3 : Int32)), .val (.int ch), .val (.int (120 : Int32))] (hb hby at_280) rfl rfl ?_
            refine g_goto X62 hx 454 (hb hby at_282) (by decide) (by decide) ?_
            refine g_aload X62 hx 456 (hb hby at_454) rfl rfl rfl ?_
            refine g_callSW X62 hx 459 hZ hI hown (own_w hw 34 rfl) (own_w hw 35 rfl) (own_w hw 36 rfl) (own_w hw 37 rfl) (by decide) [(.ref b61)] [] (ruvU l Z a0 hw b61 f cs T62.heap n0 Z62 (own_sta_keep S_cs KK62) hcs (own_sta_keep S_f KK62) (fun b cl q => KK62.2.1 b cl (hkp b cl q) nin0) hld hcw E_a C_a) rfl 0 (by decide) (by decide) (by decide) (by decide) (by rw [hml]; rfl) (lenOf own_pd12 rfl) (hb hby at_456) rfl hS hk (Nat.le_of_eq rfl) rfl (fun v64 T64 L64 X64 hS hZ hown hQ64 => ?_)
            have hk := Nat.le_refl T64.heap.size
            obtain ⟨rfl, N64q, K64⟩ := hQ64
            have N64 := Fr.app N62 N64q
            have KK64 := KK62.trans K64 all0
            refine g_astore X64 hx 461 #[.val (.long xa), .second, .val (.long xb), .second, .val (.int xm), .val (.int (xm &&& (3 : Int32))), .val (.ref wd), .val (.ref b61), .val (.int (0 : Int32)), .val .null, .val (.int ch), .val (.int (120 : Int32))] (hb hby at_459) rfl rfl rfl ?_
            refine g_iload X64 hx 463 (hb hby at_461) rfl rfl ?_
            refine g_ifT X64 hx 480 (hb hby at_463) (by decide) (by decide) (by decide) ?_
            refine g_aload X64 hx 482 (hb hby at_480) rfl rfl rfl ?_
            refine g_ifnonnullF X64 hx 485 (hb hby at_482) rfl ?_
            refine g_iconst X64 hx 486 (1 : Int32) (hb hby at_485) (by decide) rfl ?_
            refine g_goto X64 hx 490 (hb hby at_486) (by decide) (by decide) ?_
            exact g_retZW X64 hx hret hlk rfl (hb hby at_490) hS (Eq.subst (motive := fun z : Heap => _ ≤ z.size) (Eq.symm rfl) hk) (by decide) (by decide) ⟨rfl, N64⟩
          · have hlt : ¬ (255 : Int32) < ch := hbd
            refine g_new X60 hx 260 hZ hown (own_w hw 5 rfl) (own_w hw 6 rfl) (own_w hw 7 rfl) e60 (hb hby at_257) (by decide) (by decide) rfl (fun T65 h65 b65 g65 X65 e65 E65 A65 D65 => ?_)
            have ne_wd_b65 : wd ≠ b65 := Nat.ne_of_lt (Nat.lt_of_lt_of_le V_wd.lt (Nat.le_of_eq g65.symm))
            have V_wd := V_wd.ext E65
            have G_b65 : n0 ≤ b65 := Nat.le_trans Z60 (Nat.le_of_eq g65.symm)
            have Z65 : n0 ≤ h65.size := Nat.le_trans Z60 E65.1
            have SZ_b65 : h0.size ≤ b65 := Nat.le_trans K60.1 (Nat.le_of_eq g65.symm)
            have K65 := K60.ext E65
            have hk := Nat.le_trans hk E65.1
            have E_b65 : Exa Z h65 b65 "java/lang/String" := A65
            have F_b65_coder : Fld Z h65 b65 "java/lang/String" "coder" "B" (.int (0 : Int32)) := D65 (Or.inr (own_w hw 31 rfl)) (ty := .byte) (by decide)
            have F_b65_value : Fld Z h65 b65 "java/lang/String" "value" "[B" .null := D65 (Or.inr (own_w hw 33 rfl)) (ty := (.array .byte)) (by decide)
            refine g_dup X65 hx 261 (hb hby at_260) rfl rfl ?_
            refine g_aload X65 hx 263 (hb hby at_261) rfl rfl rfl ?_
            refine g_callI X65 hx 266 hZ rfl hown (own_w hw 8 rfl) (own_w hw 9 rfl) (own_w hw 7 rfl) (own_w hw 10 rfl) (by decide) b65 [(.ref wd)] [(.ref b65)] (rs11_init1 l Z a0 hw b65 wd cs (105 : Int32) (115 : Int32) (69 : Int32) ch (104 : Int32) (97 : Int32) (117 : Int32) (115 : Int32) (116 : Int32) (101 : Int32) (100 : Int32) kw _ _ h65 n0 Z65 G_b65 (own_sta_keep S_cs K65) hcs E_b65 F_b65_value F_b65_coder V_wd (by decide) (by decide) (by decide) hbd (by decide) (by decide) (by decide) (by decide) (by decide) (by decide) (by decide)) e65 1 (by decide) (by decide) (by decide) (by decide) (by rw [hml]; rfl) (lenOf own_pd11 rfl) (hb hby at_263) rfl (Nat.le_of_eq rfl) rfl (fun v66 T66 L66 X66 hQ66 => ?_)
            obtain ⟨rfl, N66q, K66, t, kT, hst, E_a, G_a, C_a, V_t⟩ := hQ66
            have N66 := Fr.app N60 N66q
            have KK66 := K65.trans K66 (allS (Or.inr SZ_b65) all0)
            have Z66 := Nat.le_trans Z65 K66.1
            have hk := Nat.le_trans hk K66.1
            refine g_astore X66 hx 268 #[.val (.long xa), .second, .val (.long xb), .second, .val (.int xm), .val (.int (xm &&& (3 : Int32))), .val (.ref wd), .val (.ref b65), .unset, .val (.int (3 : Int32)), .val (.int ch), .val (.int (120 : Int32))] (hb hby at_266) rfl rfl rfl ?_
            refine g_iload X66 hx 270 (hb hby at_268) rfl rfl ?_
            refine g_iload X66 hx 272 (hb hby at_270) rfl rfl ?_
            by_cases hc67 : ch = (120 : Int32)
            · refine g_icF X66 hx 275 (hb hby at_272) (teq hc67).2 rfl ?_
              refine g_iconst X66 hx 276 (1 : Int32) (hb hby at_275) (by decide) rfl ?_
              refine g_goto X66 hx 280 (hb hby at_276) (by decide) (by decide) ?_
              refine g_istore X66 hx 282 #[.val (.long xa), .second, .val (.long xb), .second, .val (.int xm), .val (.int (xm &&& (3 : Int32))), .val (.ref wd), .val (.ref b65), .val (.int (1 : Int32)), .val (.int (3 : Int32)), .val (.int ch), .val (.int (120 : Int32))] (hb hby at_280) rfl rfl ?_
              refine g_goto X66 hx 454 (hb hby at_282) (by decide) (by decide) ?_
              refine g_aload X66 hx 456 (hb hby at_454) rfl rfl rfl ?_
              refine g_callSW X66 hx 459 hZ hI hown (own_w hw 34 rfl) (own_w hw 35 rfl) (own_w hw 36 rfl) (own_w hw 37 rfl) (by decide) [(.ref b65)] [] (ruvE1 l Z a0 hw b65 f cs t _ _ _ _ _ _ _ _ _ _ _ kT T66.heap n0 Z66 (own_sta_keep S_cs KK66) hcs (own_sta_keep S_f KK66) (fun b cl q => KK66.2.1 b cl (hkp b cl q) nin0) hld hcw E_a C_a G_a V_t (by rw [hc67]; decide)) rfl 0 (by decide) (by decide) (by decide) (by decide) (by rw [hml]; rfl) (lenOf own_pd12 rfl) (hb hby at_456) rfl hS hk (Nat.le_of_eq rfl) rfl (fun v68 T68 L68 X68 hS hZ hown hQ68 => ?_)
              have hk := Nat.le_refl T68.heap.size
              obtain ⟨rfl, N68q, K68⟩ := hQ68
              have N68 := Fr.app N66 N68q
              have KK68 := KK66.trans K68 all0
              refine g_astore X68 hx 461 #[.val (.long xa), .second, .val (.long xb), .second, .val (.int xm), .val (.int (xm &&& (3 : Int32))), .val (.ref wd), .val (.ref b65), .val (.int (1 : Int32)), .val (.ref f), .val (.int ch), .val (.int (120 : Int32))] (hb hby at_459) rfl rfl rfl ?_
              refine g_iload X68 hx 463 (hb hby at_461) rfl rfl ?_
              refine g_ifF X68 hx 466 (hb hby at_463) (by decide) rfl ?_
              refine g_aload X68 hx 468 (hb hby at_466) rfl rfl rfl ?_
              refine g_getS X68 hx 471 hZ hown (host := "") (Or.inl (own_w hw 53 rfl)) Via.refl rfl (own_sta_keep S_f KK68) (hb hby at_468) rfl (fun T69 X69 e69 => ?_)
              refine g_ac X69 hx 474 true (hb hby at_471) rfl rfl (decide_eq_true rfl) (by decide) (by decide) ?_
              refine g_iconst X69 hx 475 (1 : Int32) (hb hby at_474) (by decide) rfl ?_
              refine g_goto X69 hx 479 (hb hby at_475) (by decide) (by decide) ?_
              exact g_retZW X69 hx hret hlk rfl (hb hby at_479) hS (Eq.subst (motive := fun z : Heap => _ ≤ z.size) (Eq.symm e69) hk) (by decide) (by decide) ⟨rfl, N68⟩
            · refine g_icT X66 hx 279 (hb hby at_272) (feq hc67).2 (by decide) (by decide) ?_
              refine g_iconst X66 hx 280 (0 : Int32) (hb hby at_279) (by decide) rfl ?_
              refine g_istore X66 hx 282 #[.val (.long xa), .second, .val (.long xb), .second, .val (.int xm), .val (.int (xm &&& (3 : Int32))), .val (.ref wd), .val (.ref b65), .val (.int (0 : Int32)), .val (.int (3 : Int32)), .val (.int ch), .val (.int (120 : Int32))] (hb hby at_280) rfl rfl ?_
              refine g_goto X66 hx 454 (hb hby at_282) (by decide) (by decide) ?_
              refine g_aload X66 hx 456 (hb hby at_454) rfl rfl rfl ?_
              refine g_callSW X66 hx 459 hZ hI hown (own_w hw 34 rfl) (own_w hw 35 rfl) (own_w hw 36 rfl) (own_w hw 37 rfl) (by decide) [(.ref b65)] [] (ruvE0 l Z a0 hw b65 f cs t _ _ _ _ _ _ _ _ _ _ _ kT T66.heap n0 Z66 (own_sta_keep S_cs KK66) hcs (own_sta_keep S_f KK66) (fun b cl q => KK66.2.1 b cl (hkp b cl q) nin0) hld hcw E_a C_a G_a V_t (own_isw0 _ _ _ _ _ _ _ _ _ _ _ (fun q => hc67 ((own_bt_eq ch (120 : Int32) hn hbd (by decide) (by decide)).mp q.2.2.2.1)))) rfl 0 (by decide) (by decide) (by decide) (by decide) (by rw [hml]; rfl) (lenOf own_pd12 rfl) (hb hby at_456) rfl hS hk (Nat.le_of_eq rfl) rfl (fun v70 T70 L70 X70 hS hZ hown hQ70 => ?_)
              have hk := Nat.le_refl T70.heap.size
              obtain ⟨rfl, N70q, K70⟩ := hQ70
              have N70 := Fr.app N66 N70q
              have KK70 := KK66.trans K70 all0
              refine g_astore X70 hx 461 #[.val (.long xa), .second, .val (.long xb), .second, .val (.int xm), .val (.int (xm &&& (3 : Int32))), .val (.ref wd), .val (.ref b65), .val (.int (0 : Int32)), .val .null, .val (.int ch), .val (.int (120 : Int32))] (hb hby at_459) rfl rfl rfl ?_
              refine g_iload X70 hx 463 (hb hby at_461) rfl rfl ?_
              refine g_ifT X70 hx 480 (hb hby at_463) (by decide) (by decide) (by decide) ?_
              refine g_aload X70 hx 482 (hb hby at_480) rfl rfl rfl ?_
              refine g_ifnonnullF X70 hx 485 (hb hby at_482) rfl ?_
              refine g_iconst X70 hx 486 (1 : Int32) (hb hby at_485) (by decide) rfl ?_
              refine g_goto X70 hx 490 (hb hby at_486) (by decide) (by decide) ?_
              exact g_retZW X70 hx hret hlk rfl (hb hby at_490) hS (Eq.subst (motive := fun z : Heap => _ ≤ z.size) (Eq.symm rfl) hk) (by decide) (by decide) ⟨rfl, N70⟩
        · show Go p e below _ _ T1 (mkF m 243 #[.val (.long xa), .second, .val (.long xb), .second, .val (.int xm), .val (.int (xm &&& (3 : Int32))), .val (.ref wd), .unset, .unset, .val (.int (4 : Int32)), .val (.int ch), .unset] [])
          refine g_aload X1 hx 245 (hb hby at_243) rfl rfl rfl ?_
          refine g_iload X1 hx 247 (hb hby at_245) rfl rfl ?_
          refine g_caload X1 hx 248 hZ rfl V_wd ⟨by decide, by decide⟩ (show _ = (.int (104 : Int32)) from rfl) (hb hby at_247) rfl ?_
          refine g_istore X1 hx 250 #[.val (.long xa), .second, .val (.long xb), .second, .val (.int xm), .val (.int (xm &&& (3 : Int32))), .val (.ref wd), .unset, .unset, .val (.int (4 : Int32)), .val (.int ch), .val (.int (104 : Int32))] (hb hby at_248) rfl rfl ?_
          refine g_aload X1 hx 252 (hb hby at_250) rfl rfl rfl ?_
          refine g_iload X1 hx 254 (hb hby at_252) rfl rfl ?_
          refine g_iload X1 hx 256 (hb hby at_254) rfl rfl ?_
          refine g_castore X1 hx 257 hZ rfl V_wd 4 (by decide) ⟨by decide, by decide⟩ (Nat.le_of_ble_eq_true rfl) (hb hby at_256) rfl (fun T71 h71 X71 e71 W71 V71 => ?_)
          have V_wd : Arv Z h71 wd kw .char (11 : Int32) [(.int (105 : Int32)), (.int (115 : Int32)), (.int (69 : Int32)), (.int (120 : Int32)), (.int (nar .char ch)), (.int (97 : Int32)), (.int (117 : Int32)), (.int (115 : Int32)), (.int (116 : Int32)), (.int (101 : Int32)), (.int (100 : Int32))] (.int (0 : Int32)) := V71
          have N71 := Fr.snoc X71 N1 g_wd
          have Z71 : n0 ≤ h71.size := by rw [W71.size]; exact Z1
          have hk := Nat.le_trans hk (Nat.le_of_eq W71.size.symm)
          have K71 := K1.wr W71 (Or.inr SZ_wd)
          rw [hn] at V_wd
          rcases Decidable.em ((255 : Int32) < ch) with hbd | hbd
          · have hlt : (255 : Int32) < ch := hbd
            refine g_new X71 hx 260 hZ hown (own_w hw 5 rfl) (own_w hw 6 rfl) (own_w hw 7 rfl) e71 (hb hby at_257) (by decide) (by decide) rfl (fun T72 h72 b72 g72 X72 e72 E72 A72 D72 => ?_)
            have ne_wd_b72 : wd ≠ b72 := Nat.ne_of_lt (Nat.lt_of_lt_of_le V_wd.lt (Nat.le_of_eq g72.symm))
            have V_wd := V_wd.ext E72
            have G_b72 : n0 ≤ b72 := Nat.le_trans Z71 (Nat.le_of_eq g72.symm)
            have Z72 : n0 ≤ h72.size := Nat.le_trans Z71 E72.1
            have SZ_b72 : h0.size ≤ b72 := Nat.le_trans K71.1 (Nat.le_of_eq g72.symm)
            have K72 := K71.ext E72
            have hk := Nat.le_trans hk E72.1
            have E_b72 : Exa Z h72 b72 "java/lang/String" := A72
            have F_b72_coder : Fld Z h72 b72 "java/lang/String" "coder" "B" (.int (0 : Int32)) := D72 (Or.inr (own_w hw 31 rfl)) (ty := .byte) (by decide)
            have F_b72_value : Fld Z h72 b72 "java/lang/String" "value" "[B" .null := D72 (Or.inr (own_w hw 33 rfl)) (ty := (.array .byte)) (by decide)
            refine g_dup X72 hx 261 (hb hby at_260) rfl rfl ?_
            refine g_aload X72 hx 263 (hb hby at_261) rfl rfl rfl ?_
            refine g_callI X72 hx 266 hZ rfl hown (own_w hw 8 rfl) (own_w hw 9 rfl) (own_w hw 7 rfl) (own_w hw 10 rfl) (by decide) b72 [(.ref wd)] [(.ref b72)] (ru11_init1 l Z a0 hw b72 wd cs (105 : Int32) (115 : Int32) (69 : Int32) (120 : Int32) ch (97 : Int32) (117 : Int32) (115 : Int32) (116 : Int32) (101 : Int32) (100 : Int32) (4 : Int32) ch 8 9 kw _ _ h72 n0 Z72 G_b72 (own_sta_keep S_cs K72) hcs (own_sta_keep S_ad K72) (own_sta_keep S_hi K72) (own_sta_keep S_lo K72) E_b72 F_b72_value F_b72_coder V_wd ⟨by unfold own_fst11; exact ((if_neg (by decide)).trans ((if_neg (by decide)).trans ((if_neg (by decide)).trans ((if_neg (by decide)).trans (if_pos hbd))))), by decide, by decide, rfl, rfl, hbd, hn⟩) e72 1 (by decide) (by decide) (by decide) (by decide) (by rw [hml]; rfl) (lenOf own_pd11 rfl) (hb hby at_263) rfl (Nat.le_of_eq rfl) rfl (fun v73 T73 L73 X73 hQ73 => ?_)
            obtain ⟨rfl, N73q, K73, E_a, C_a⟩ := hQ73
            have N73 := Fr.app N71 N73q
            have KK73 := K72.trans K73 (allS (Or.inr SZ_b72) all0)
            have Z73 := Nat.le_trans Z72 K73.1
            have hk := Nat.le_trans hk K73.1
            refine g_astore X73 hx 268 #[.val (.long xa), .second, .val (.long xb), .second, .val (.int xm), .val (.int (xm &&& (3 : Int32))), .val (.ref wd), .val (.ref b72), .unset, .val (.int (4 : Int32)), .val (.int ch), .val (.int (104 : Int32))] (hb hby at_266) rfl rfl rfl ?_
            refine g_iload X73 hx 270 (hb hby at_268) rfl rfl ?_
            refine g_iload X73 hx 272 (hb hby at_270) rfl rfl ?_
            have hk74 : ¬ (ch = (104 : Int32)) := fun q => absurd hbd (by rw [q]; decide)
            refine g_icT X73 hx 279 (hb hby at_272) (feq hk74).2 (by decide) (by decide) ?_
            refine g_iconst X73 hx 280 (0 : Int32) (hb hby at_279) (by decide) rfl ?_
            refine g_istore X73 hx 282 #[.val (.long xa), .second, .val (.long xb), .second, .val (.int xm), .val (.int (xm &&& (3 : Int32))), .val (.ref wd), .val (.ref b72), .val (.int (0 : Int32)), .val (.int (4 : Int32)), .val (.int ch), .val (.int (104 : Int32))] (hb hby at_280) rfl rfl ?_
            refine g_goto X73 hx 454 (hb hby at_282) (by decide) (by decide) ?_
            refine g_aload X73 hx 456 (hb hby at_454) rfl rfl rfl ?_
            refine g_callSW X73 hx 459 hZ hI hown (own_w hw 34 rfl) (own_w hw 35 rfl) (own_w hw 36 rfl) (own_w hw 37 rfl) (by decide) [(.ref b72)] [] (ruvU l Z a0 hw b72 f cs T73.heap n0 Z73 (own_sta_keep S_cs KK73) hcs (own_sta_keep S_f KK73) (fun b cl q => KK73.2.1 b cl (hkp b cl q) nin0) hld hcw E_a C_a) rfl 0 (by decide) (by decide) (by decide) (by decide) (by rw [hml]; rfl) (lenOf own_pd12 rfl) (hb hby at_456) rfl hS hk (Nat.le_of_eq rfl) rfl (fun v75 T75 L75 X75 hS hZ hown hQ75 => ?_)
            have hk := Nat.le_refl T75.heap.size
            obtain ⟨rfl, N75q, K75⟩ := hQ75
            have N75 := Fr.app N73 N75q
            have KK75 := KK73.trans K75 all0
            refine g_astore X75 hx 461 #[.val (.long xa), .second, .val (.long xb), .second, .val (.int xm), .val (.int (xm &&& (3 : Int32))), .val (.ref wd), .val (.ref b72), .val (.int (0 : Int32)), .val .null, .val (.int ch), .val (.int (104 : Int32))] (hb hby at_459) rfl rfl rfl ?_
            refine g_iload X75 hx 463 (hb hby at_461) rfl rfl ?_
            refine g_ifT X75 hx 480 (hb hby at_463) (by decide) (by decide) (by decide) ?_
            refine g_aload X75 hx 482 (hb hby at_480) rfl rfl rfl ?_
            refine g_ifnonnullF X75 hx 485 (hb hby at_482) rfl ?_
            refine g_iconst X75 hx 486 (1 : Int32) (hb hby at_485) (by decide) rfl ?_
            refine g_goto X75 hx 490 (hb hby at_486) (by decide) (by decide) ?_
            exact g_retZW X75 hx hret hlk rfl (hb hby at_490) hS (Eq.subst (motive := fun z : Heap => _ ≤ z.size) (Eq.symm rfl) hk) (by decide) (by decide) ⟨rfl, N75⟩
          · have hlt : ¬ (255 : Int32) < ch := hbd
            refine g_new X71 hx 260 hZ hown (own_w hw 5 rfl) (own_w hw 6 rfl) (own_w hw 7 rfl) e71 (hb hby at_257) (by decide) (by decide) rfl (fun T76 h76 b76 g76 X76 e76 E76 A76 D76 => ?_)
            have ne_wd_b76 : wd ≠ b76 := Nat.ne_of_lt (Nat.lt_of_lt_of_le V_wd.lt (Nat.le_of_eq g76.symm))
            have V_wd := V_wd.ext E76
            have G_b76 : n0 ≤ b76 := Nat.le_trans Z71 (Nat.le_of_eq g76.symm)
            have Z76 : n0 ≤ h76.size := Nat.le_trans Z71 E76.1
            have SZ_b76 : h0.size ≤ b76 := Nat.le_trans K71.1 (Nat.le_of_eq g76.symm)
            have K76 := K71.ext E76
            have hk := Nat.le_trans hk E76.1
            have E_b76 : Exa Z h76 b76 "java/lang/String" := A76
            have F_b76_coder : Fld Z h76 b76 "java/lang/String" "coder" "B" (.int (0 : Int32)) := D76 (Or.inr (own_w hw 31 rfl)) (ty := .byte) (by decide)
            have F_b76_value : Fld Z h76 b76 "java/lang/String" "value" "[B" .null := D76 (Or.inr (own_w hw 33 rfl)) (ty := (.array .byte)) (by decide)
            refine g_dup X76 hx 261 (hb hby at_260) rfl rfl ?_
            refine g_aload X76 hx 263 (hb hby at_261) rfl rfl rfl ?_
            refine g_callI X76 hx 266 hZ rfl hown (own_w hw 8 rfl) (own_w hw 9 rfl) (own_w hw 7 rfl) (own_w hw 10 rfl) (by decide) b76 [(.ref wd)] [(.ref b76)] (rs11_init1 l Z a0 hw b76 wd cs (105 : Int32) (115 : Int32) (69 : Int32) (120 : Int32) ch (97 : Int32) (117 : Int32) (115 : Int32) (116 : Int32) (101 : Int32) (100 : Int32) kw _ _ h76 n0 Z76 G_b76 (own_sta_keep S_cs K76) hcs E_b76 F_b76_value F_b76_coder V_wd (by decide) (by decide) (by decide) (by decide) hbd (by decide) (by decide) (by decide) (by decide) (by decide) (by decide)) e76 1 (by decide) (by decide) (by decide) (by decide) (by rw [hml]; rfl) (lenOf own_pd11 rfl) (hb hby at_263) rfl (Nat.le_of_eq rfl) rfl (fun v77 T77 L77 X77 hQ77 => ?_)
            obtain ⟨rfl, N77q, K77, t, kT, hst, E_a, G_a, C_a, V_t⟩ := hQ77
            have N77 := Fr.app N71 N77q
            have KK77 := K76.trans K77 (allS (Or.inr SZ_b76) all0)
            have Z77 := Nat.le_trans Z76 K77.1
            have hk := Nat.le_trans hk K77.1
            refine g_astore X77 hx 268 #[.val (.long xa), .second, .val (.long xb), .second, .val (.int xm), .val (.int (xm &&& (3 : Int32))), .val (.ref wd), .val (.ref b76), .unset, .val (.int (4 : Int32)), .val (.int ch), .val (.int (104 : Int32))] (hb hby at_266) rfl rfl rfl ?_
            refine g_iload X77 hx 270 (hb hby at_268) rfl rfl ?_
            refine g_iload X77 hx 272 (hb hby at_270) rfl rfl ?_
            by_cases hc78 : ch = (104 : Int32)
            · refine g_icF X77 hx 275 (hb hby at_272) (teq hc78).2 rfl ?_
              refine g_iconst X77 hx 276 (1 : Int32) (hb hby at_275) (by decide) rfl ?_
              refine g_goto X77 hx 280 (hb hby at_276) (by decide) (by decide) ?_
              refine g_istore X77 hx 282 #[.val (.long xa), .second, .val (.long xb), .second, .val (.int xm), .val (.int (xm &&& (3 : Int32))), .val (.ref wd), .val (.ref b76), .val (.int (1 : Int32)), .val (.int (4 : Int32)), .val (.int ch), .val (.int (104 : Int32))] (hb hby at_280) rfl rfl ?_
              refine g_goto X77 hx 454 (hb hby at_282) (by decide) (by decide) ?_
              refine g_aload X77 hx 456 (hb hby at_454) rfl rfl rfl ?_
              refine g_callSW X77 hx 459 hZ hI hown (own_w hw 34 rfl) (own_w hw 35 rfl) (own_w hw 36 rfl) (own_w hw 37 rfl) (by decide) [(.ref b76)] [] (ruvE1 l Z a0 hw b76 f cs t _ _ _ _ _ _ _ _ _ _ _ kT T77.heap n0 Z77 (own_sta_keep S_cs KK77) hcs (own_sta_keep S_f KK77) (fun b cl q => KK77.2.1 b cl (hkp b cl q) nin0) hld hcw E_a C_a G_a V_t (by rw [hc78]; decide)) rfl 0 (by decide) (by decide) (by decide) (by decide) (by rw [hml]; rfl) (lenOf own_pd12 rfl) (hb hby at_456) rfl hS hk (Nat.le_of_eq rfl) rfl (fun v79 T79 L79 X79 hS hZ hown hQ79 => ?_)
              have hk := Nat.le_refl T79.heap.size
              obtain ⟨rfl, N79q, K79⟩ := hQ79
              have N79 := Fr.app N77 N79q
              have KK79 := KK77.trans K79 all0
              refine g_astore X79 hx 461 #[.val (.long xa), .second, .val (.long xb), .second, .val (.int xm), .val (.int (xm &&& (3 : Int32))), .val (.ref wd), .val (.ref b76), .val (.int (1 : Int32)), .val (.ref f), .val (.int ch), .val (.int (104 : Int32))] (hb hby at_459) rfl rfl rfl ?_
              refine g_iload X79 hx 463 (hb hby at_461) rfl rfl ?_
              refine g_ifF X79 hx 466 (hb hby at_463) (by decide) rfl ?_
              refine g_aload X79 hx 468 (hb hby at_466) rfl rfl rfl ?_
              refine g_getS X79 hx 471 hZ hown (host := "") (Or.inl (own_w hw 53 rfl)) Via.refl rfl (own_sta_keep S_f KK79) (hb hby at_468) rfl (fun T80 X80 e80 => ?_)
              refine g_ac X80 hx 474 true (hb hby at_471) rfl rfl (decide_eq_true rfl) (by decide) (by decide) ?_
              refine g_iconst X80 hx 475 (1 : Int32) (hb hby at_474) (by decide) rfl ?_
              refine g_goto X80 hx 479 (hb hby at_475) (by decide) (by decide) ?_
              exact g_retZW X80 hx hret hlk rfl (hb hby at_479) hS (Eq.subst (motive := fun z : Heap => _ ≤ z.size) (Eq.symm e80) hk) (by decide) (by decide) ⟨rfl, N79⟩
            · refine g_icT X77 hx 279 (hb hby at_272) (feq hc78).2 (by decide) (by decide) ?_
              refine g_iconst X77 hx 280 (0 : Int32) (hb hby at_279) (by decide) rfl ?_
              refine g_istore X77 hx 282 #[.val (.long xa), .second, .val (.long xb), .second, .val (.int xm), .val (.int (xm &&& (3 : Int32))), .val (.ref wd), .val (.ref b76), .val (.int (0 : Int32)), .val (.int (4 : Int32)), .val (.int ch), .val (.int (104 : Int32))] (hb hby at_280) rfl rfl ?_
              refine g_goto X77 hx 454 (hb hby at_282) (by decide) (by decide) ?_
              refine g_aload X77 hx 456 (hb hby at_454) rfl rfl rfl ?_
              refine g_callSW X77 hx 459 hZ hI hown (own_w hw 34 rfl) (own_w hw 35 rfl) (own_w hw 36 rfl) (own_w hw 37 rfl) (by decide) [(.ref b76)] [] (ruvE0 l Z a0 hw b76 f cs t _ _ _ _ _ _ _ _ _ _ _ kT T77.heap n0 Z77 (own_sta_keep S_cs KK77) hcs (own_sta_keep S_f KK77) (fun b cl q => KK77.2.1 b cl (hkp b cl q) nin0) hld hcw E_a C_a G_a V_t (own_isw0 _ _ _ _ _ _ _ _ _ _ _ (fun q => hc78 ((own_bt_eq ch (104 : Int32) hn hbd (by decide) (by decide)).mp q.2.2.2.2.1)))) rfl 0 (by decide) (by decide) (by decide) (by decide) (by rw [hml]; rfl) (lenOf own_pd12 rfl) (hb hby at_456) rfl hS hk (Nat.le_of_eq rfl) rfl (fun v81 T81 L81 X81 hS hZ hown hQ81 => ?_)
              have hk := Nat.le_refl T81.heap.size
              obtain ⟨rfl, N81q, K81⟩ := hQ81
              have N81 := Fr.app N77 N81q
              have KK81 := KK77.trans K81 all0
              refine g_astore X81 hx 461 #[.val (.long xa), .second, .val (.long xb), .second, .val (.int xm), .val (.int (xm &&& (3 : Int32))), .val (.ref wd), .val (.ref b76), .val (.int (0 : Int32)), .val .null, .val (.int ch), .val (.int (104 : Int32))] (hb hby at_459) rfl rfl rfl ?_
              refine g_iload X81 hx 463 (hb hby at_461) rfl rfl ?_
              refine g_ifT X81 hx 480 (hb hby at_463) (by decide) (by decide) (by decide) ?_
              refine g_aload X81 hx 482 (hb hby at_480) rfl rfl rfl ?_
              refine g_ifnonnullF X81 hx 485 (hb hby at_482) rfl ?_
              refine g_iconst X81 hx 486 (1 : Int32) (hb hby at_485) (by decide) rfl ?_
              refine g_goto X81 hx 490 (hb hby at_486) (by decide) (by decide) ?_
              exact g_retZW X81 hx hret hlk rfl (hb hby at_490) hS (Eq.subst (motive := fun z : Heap => _ ≤ z.size) (Eq.symm rfl) hk) (by decide) (by decide) ⟨rfl, N81⟩
        · show Go p e below _ _ T1 (mkF m 243 #[.val (.long xa), .second, .val (.long xb), .second, .val (.int xm), .val (.int (xm &&& (3 : Int32))), .val (.ref wd), .unset, .unset, .val (.int (5 : Int32)), .val (.int ch), .unset] [])
          refine g_aload X1 hx 245 (hb hby at_243) rfl rfl rfl ?_
          refine g_iload X1 hx 247 (hb hby at_245) rfl rfl ?_
          refine g_caload X1 hx 248 hZ rfl V_wd ⟨by decide, by decide⟩ (show _ = (.int (97 : Int32)) from rfl) (hb hby at_247) rfl ?_
          refine g_istore X1 hx 250 #[.val (.long xa), .second, .val (.long xb), .second, .val (.int xm), .val (.int (xm &&& (3 : Int32))), .val (.ref wd), .unset, .unset, .val (.int (5 : Int32)), .val (.int ch), .val (.int (97 : Int32))] (hb hby at_248) rfl rfl ?_
          refine g_aload X1 hx 252 (hb hby at_250) rfl rfl rfl ?_
          refine g_iload X1 hx 254 (hb hby at_252) rfl rfl ?_
          refine g_iload X1 hx 256 (hb hby at_254) rfl rfl ?_
          refine g_castore X1 hx 257 hZ rfl V_wd 5 (by decide) ⟨by decide, by decide⟩ (Nat.le_of_ble_eq_true rfl) (hb hby at_256) rfl (fun T82 h82 X82 e82 W82 V82 => ?_)
          have V_wd : Arv Z h82 wd kw .char (11 : Int32) [(.int (105 : Int32)), (.int (115 : Int32)), (.int (69 : Int32)), (.int (120 : Int32)), (.int (104 : Int32)), (.int (nar .char ch)), (.int (117 : Int32)), (.int (115 : Int32)), (.int (116 : Int32)), (.int (101 : Int32)), (.int (100 : Int32))] (.int (0 : Int32)) := V82
          have N82 := Fr.snoc X82 N1 g_wd
          have Z82 : n0 ≤ h82.size := by rw [W82.size]; exact Z1
          have hk := Nat.le_trans hk (Nat.le_of_eq W82.size.symm)
          have K82 := K1.wr W82 (Or.inr SZ_wd)
          rw [hn] at V_wd
          rcases Decidable.em ((255 : Int32) < ch) with hbd | hbd
          · have hlt : (255 : Int32) < ch := hbd
            refine g_new X82 hx 260 hZ hown (own_w hw 5 rfl) (own_w hw 6 rfl) (own_w hw 7 rfl) e82 (hb hby at_257) (by decide) (by decide) rfl (fun T83 h83 b83 g83 X83 e83 E83 A83 D83 => ?_)
            have ne_wd_b83 : wd ≠ b83 := Nat.ne_of_lt (Nat.lt_of_lt_of_le V_wd.lt (Nat.le_of_eq g83.symm))
            have V_wd := V_wd.ext E83
            have G_b83 : n0 ≤ b83 := Nat.le_trans Z82 (Nat.le_of_eq g83.symm)
            have Z83 : n0 ≤ h83.size := Nat.le_trans Z82 E83.1
            have SZ_b83 : h0.size ≤ b83 := Nat.le_trans K82.1 (Nat.le_of_eq g83.symm)
            have K83 := K82.ext E83
            have hk := Nat.le_trans hk E83.1
            have E_b83 : Exa Z h83 b83 "java/lang/String" := A83
            have F_b83_coder : Fld Z h83 b83 "java/lang/String" "coder" "B" (.int (0 : Int32)) := D83 (Or.inr (own_w hw 31 rfl)) (ty := .byte) (by decide)
            have F_b83_value : Fld Z h83 b83 "java/lang/String" "value" "[B" .null := D83 (Or.inr (own_w hw 33 rfl)) (ty := (.array .byte)) (by decide)
            refine g_dup X83 hx 261 (hb hby at_260) rfl rfl ?_
            refine g_aload X83 hx 263 (hb hby at_261) rfl rfl rfl ?_
            refine g_callI X83 hx 266 hZ rfl hown (own_w hw 8 rfl) (own_w hw 9 rfl) (own_w hw 7 rfl) (own_w hw 10 rfl) (by decide) b83 [(.ref wd)] [(.ref b83)] (ru11_init1 l Z a0 hw b83 wd cs (105 : Int32) (115 : Int32) (69 : Int32) (120 : Int32) (104 : Int32) ch (117 : Int32) (115 : Int32) (116 : Int32) (101 : Int32) (100 : Int32) (5 : Int32) ch 10 11 kw _ _ h83 n0 Z83 G_b83 (own_sta_keep S_cs K83) hcs (own_sta_keep S_ad K83) (own_sta_keep S_hi K83) (own_sta_keep S_lo K83) E_b83 F_b83_value F_b83_coder V_wd ⟨by unfold own_fst11; exact ((if_neg (by decide)).trans ((if_neg (by decide)).trans ((if_neg (by decide)).trans ((if_neg (by decide)).trans ((if_neg (by decide)).trans (if_pos hbd)))))), by decide, by decide, rfl, rfl, hbd, hn⟩) e83 1 (by decide) (by decide) (by decide) (by decide) (by rw [hml]; rfl) (lenOf own_pd11 rfl) (hb hby at_263) rfl (Nat.le_of_eq rfl) rfl (fun v84 T84 L84 X84 hQ84 => ?_)
            obtain ⟨rfl, N84q, K84, E_a, C_a⟩ := hQ84
            have N84 := Fr.app N82 N84q
            have KK84 := K83.trans K84 (allS (Or.inr SZ_b83) all0)
            have Z84 := Nat.le_trans Z83 K84.1
            have hk := Nat.le_trans hk K84.1
            refine g_astore X84 hx 268 #[.val (.long xa), .second, .val (.long xb), .second, .val (.int xm), .val (.int (xm &&& (3 : Int32))), .val (.ref wd), .val (.ref b83), .unset, .val (.int (5 : Int32)), .val (.int ch), .val (.int (97 : Int32))] (hb hby at_266) rfl rfl rfl ?_
            refine g_iload X84 hx 270 (hb hby at_268) rfl rfl ?_
            refine g_iload X84 hx 272 (hb hby at_270) rfl rfl ?_
            have hk85 : ¬ (ch = (97 : Int32)) := fun q => absurd hbd (by rw [q]; decide)
            refine g_icT X84 hx 279 (hb hby at_272) (feq hk85).2 (by decide) (by decide) ?_
            refine g_iconst X84 hx 280 (0 : Int32) (hb hby at_279) (by decide) rfl ?_
            refine g_istore X84 hx 282 #[.val (.long xa), .second, .val (.long xb), .second, .val (.int xm), .val (.int (xm &&& (3 : Int32))), .val (.ref wd), .val (.ref b83), .val (.int (0 : Int32)), .val (.int (5 : Int32)), .val (.int ch), .val (.int (97 : Int32))] (hb hby at_280) rfl rfl ?_
            refine g_goto X84 hx 454 (hb hby at_282) (by decide) (by decide) ?_
            refine g_aload X84 hx 456 (hb hby at_454) rfl rfl rfl ?_
            refine g_callSW X84 hx 459 hZ hI hown (own_w hw 34 rfl) (own_w hw 35 rfl) (own_w hw 36 rfl) (own_w hw 37 rfl) (by decide) [(.ref b83)] [] (ruvU l Z a0 hw b83 f cs T84.heap n0 Z84 (own_sta_keep S_cs KK84) hcs (own_sta_keep S_f KK84) (fun b cl q => KK84.2.1 b cl (hkp b cl q) nin0) hld hcw E_a C_a) rfl 0 (by decide) (by decide) (by decide) (by decide) (by rw [hml]; rfl) (lenOf own_pd12 rfl) (hb hby at_456) rfl hS hk (Nat.le_of_eq rfl) rfl (fun v86 T86 L86 X86 hS hZ hown hQ86 => ?_)
            have hk := Nat.le_refl T86.heap.size
            obtain ⟨rfl, N86q, K86⟩ := hQ86
            have N86 := Fr.app N84 N86q
            have KK86 := KK84.trans K86 all0
            refine g_astore X86 hx 461 #[.val (.long xa), .second, .val (.long xb), .second, .val (.int xm), .val (.int (xm &&& (3 : Int32))), .val (.ref wd), .val (.ref b83), .val (.int (0 : Int32)), .val .null, .val (.int ch), .val (.int (97 : Int32))] (hb hby at_459) rfl rfl rfl ?_
            refine g_iload X86 hx 463 (hb hby at_461) rfl rfl ?_
            refine g_ifT X86 hx 480 (hb hby at_463) (by decide) (by decide) (by decide) ?_
            refine g_aload X86 hx 482 (hb hby at_480) rfl rfl rfl ?_
            refine g_ifnonnullF X86 hx 485 (hb hby at_482) rfl ?_
            refine g_iconst X86 hx 486 (1 : Int32) (hb hby at_485) (by decide) rfl ?_
            refine g_goto X86 hx 490 (hb hby at_486) (by decide) (by decide) ?_
            exact g_retZW X86 hx hret hlk rfl (hb hby at_490) hS (Eq.subst (motive := fun z : Heap => _ ≤ z.size) (Eq.symm rfl) hk) (by decide) (by decide) ⟨rfl, N86⟩
          · have hlt : ¬ (255 : Int32) < ch := hbd
            refine g_new X82 hx 260 hZ hown (own_w hw 5 rfl) (own_w hw 6 rfl) (own_w hw 7 rfl) e82 (hb hby at_257) (by decide) (by decide) rfl (fun T87 h87 b87 g87 X87 e87 E87 A87 D87 => ?_)
            have ne_wd_b87 : wd ≠ b87 := Nat.ne_of_lt (Nat.lt_of_lt_of_le V_wd.lt (Nat.le_of_eq g87.symm))
            have V_wd := V_wd.ext E87
            have G_b87 : n0 ≤ b87 := Nat.le_trans Z82 (Nat.le_of_eq g87.symm)
            have Z87 : n0 ≤ h87.size := Nat.le_trans Z82 E87.1
            have SZ_b87 : h0.size ≤ b87 := Nat.le_trans K82.1 (Nat.le_of_eq g87.symm)
            have K87 := K82.ext E87
            have hk := Nat.le_trans hk E87.1
            have E_b87 : Exa Z h87 b87 "java/lang/String" := A87
            have F_b87_coder : Fld Z h87 b87 "java/lang/String" "coder" "B" (.int (0 : Int32)) := D87 (Or.inr (own_w hw 31 rfl)) (ty := .byte) (by decide)
            have F_b87_value : Fld Z h87 b87 "java/lang/String" "value" "[B" .null := D87 (Or.inr (own_w hw 33 rfl)) (ty := (.array .byte)) (by decide)
            refine g_dup X87 hx 261 (hb hby at_260) rfl rfl ?_
            refine g_aload X87 hx 263 (hb hby at_261) rfl rfl rfl ?_
            refine g_callI X87 hx 266 hZ rfl hown (own_w hw 8 rfl) (own_w hw 9 rfl) (own_w hw 7 rfl) (own_w hw 10 rfl) (by decide) b87 [(.ref wd)] [(.ref b87)] (rs11_init1 l Z a0 hw b87 wd cs (105 : Int32) (115 : Int32) (69 : Int32) (120 : Int32) (104 : Int32) ch (117 : Int32) (115 : Int32) (116 : Int32) (101 : Int32) (100 : Int32) kw _ _ h87 n0 Z87 G_b87 (own_sta_keep S_cs K87) hcs E_b87 F_b87_value F_b87_coder V_wd (by decide) (by decide) (by decide) (by decide) (by decide) hbd (by decide) (by decide) (by decide) (by decide) (by decide)) e87 1 (by decide) (by decide) (by decide) (by decide) (by rw [hml]; rfl) (lenOf own_pd11 rfl) (hb hby at_263) rfl (Nat.le_of_eq rfl) rfl (fun v88 T88 L88 X88 hQ88 => ?_)
            obtain ⟨rfl, N88q, K88, t, kT, hst, E_a, G_a, C_a, V_t⟩ := hQ88
            have N88 := Fr.app N82 N88q
            have KK88 := K87.trans K88 (allS (Or.inr SZ_b87) all0)
            have Z88 := Nat.le_trans Z87 K88.1
            have hk := Nat.le_trans hk K88.1
            refine g_astore X88 hx 268 #[.val (.long xa), .second, .val (.long xb), .second, .val (.int xm), .val (.int (xm &&& (3 : Int32))), .val (.ref wd), .val (.ref b87), .unset, .val (.int (5 : Int32)), .val (.int ch), .val (.int (97 : Int32))] (hb hby at_266) rfl rfl rfl ?_
            refine g_iload X88 hx 270 (hb hby at_268) rfl rfl ?_
            refine g_iload X88 hx 272 (hb hby at_270) rfl rfl ?_
            by_cases hc89 : ch = (97 : Int32)
            · refine g_icF X88 hx 275 (hb hby at_272) (teq hc89).2 rfl ?_
              refine g_iconst X88 hx 276 (1 : Int32) (hb hby at_275) (by decide) rfl ?_
              refine g_goto X88 hx 280 (hb hby at_276) (by decide) (by decide) ?_
              refine g_istore X88 hx 282 #[.val (.long xa), .second, .val (.long xb), .second, .val (.int xm), .val (.int (xm &&& (3 : Int32))), .val (.ref wd), .val (.ref b87), .val (.int (1 : Int32)), .val (.int (5 : Int32)), .val (.int ch), .val (.int (97 : Int32))] (hb hby at_280) rfl rfl ?_
              refine g_goto X88 hx 454 (hb hby at_282) (by decide) (by decide) ?_
              refine g_aload X88 hx 456 (hb hby at_454) rfl rfl rfl ?_
              refine g_callSW X88 hx 459 hZ hI hown (own_w hw 34 rfl) (own_w hw 35 rfl) (own_w hw 36 rfl) (own_w hw 37 rfl) (by decide) [(.ref b87)] [] (ruvE1 l Z a0 hw b87 f cs t _ _ _ _ _ _ _ _ _ _ _ kT T88.heap n0 Z88 (own_sta_keep S_cs KK88) hcs (own_sta_keep S_f KK88) (fun b cl q => KK88.2.1 b cl (hkp b cl q) nin0) hld hcw E_a C_a G_a V_t (by rw [hc89]; decide)) rfl 0 (by decide) (by decide) (by decide) (by decide) (by rw [hml]; rfl) (lenOf own_pd12 rfl) (hb hby at_456) rfl hS hk (Nat.le_of_eq rfl) rfl (fun v90 T90 L90 X90 hS hZ hown hQ90 => ?_)
              have hk := Nat.le_refl T90.heap.size
              obtain ⟨rfl, N90q, K90⟩ := hQ90
              have N90 := Fr.app N88 N90q
              have KK90 := KK88.trans K90 all0
              refine g_astore X90 hx 461 #[.val (.long xa), .second, .val (.long xb), .second, .val (.int xm), .val (.int (xm &&& (3 : Int32))), .val (.ref wd), .val (.ref b87), .val (.int (1 : Int32)), .val (.ref f), .val (.int ch), .val (.int (97 : Int32))] (hb hby at_459) rfl rfl rfl ?_
              refine g_iload X90 hx 463 (hb hby at_461) rfl rfl ?_
              refine g_ifF X90 hx 466 (hb hby at_463) (by decide) rfl ?_
              refine g_aload X90 hx 468 (hb hby at_466) rfl rfl rfl ?_
              refine g_getS X90 hx 471 hZ hown (host := "") (Or.inl (own_w hw 53 rfl)) Via.refl rfl (own_sta_keep S_f KK90) (hb hby at_468) rfl (fun T91 X91 e91 => ?_)
              refine g_ac X91 hx 474 true (hb hby at_471) rfl rfl (decide_eq_true rfl) (by decide) (by decide) ?_
              refine g_iconst X91 hx 475 (1 : Int32) (hb hby at_474) (by decide) rfl ?_
              refine g_goto X91 hx 479 (hb hby at_475) (by decide) (by decide) ?_
              exact g_retZW X91 hx hret hlk rfl (hb hby at_479) hS (Eq.subst (motive := fun z : Heap => _ ≤ z.size) (Eq.symm e91) hk) (by decide) (by decide) ⟨rfl, N90⟩
            · refine g_icT X88 hx 279 (hb hby at_272) (feq hc89).2 (by decide) (by decide) ?_
              refine g_iconst X88 hx 280 (0 : Int32) (hb hby at_279) (by decide) rfl ?_
              refine g_istore X88 hx 282 #[.val (.long xa), .second, .val (.long xb), .second, .val (.int xm), .val (.int (xm &&& (3 : Int32))), .val (.ref wd), .val (.ref b87), .val (.int (0 : Int32)), .val (.int (5 : Int32)), .val (.int ch), .val (.int (97 : Int32))] (hb hby at_280) rfl rfl ?_
              refine g_goto X88 hx 454 (hb hby at_282) (by decide) (by decide) ?_
              refine g_aload X88 hx 456 (hb hby at_454) rfl rfl rfl ?_
              refine g_callSW X88 hx 459 hZ hI hown (own_w hw 34 rfl) (own_w hw 35 rfl) (own_w hw 36 rfl) (own_w hw 37 rfl) (by decide) [(.ref b87)] [] (ruvE0 l Z a0 hw b87 f cs t _ _ _ _ _ _ _ _ _ _ _ kT T88.heap n0 Z88 (own_sta_keep S_cs KK88) hcs (own_sta_keep S_f KK88) (fun b cl q => KK88.2.1 b cl (hkp b cl q) nin0) hld hcw E_a C_a G_a V_t (own_isw0 _ _ _ _ _ _ _ _ _ _ _ (fun q => hc89 ((own_bt_eq ch (97 : Int32) hn hbd (by decide) (by decide)).mp q.2.2.2.2.2.1)))) rfl 0 (by decide) (by decide) (by decide) (by decide) (by rw [hml]; rfl) (lenOf own_pd12 rfl) (hb hby at_456) rfl hS hk (Nat.le_of_eq rfl) rfl (fun v92 T92 L92 X92 hS hZ hown hQ92 => ?_)
              have hk := Nat.le_refl T92.heap.size
              obtain ⟨rfl, N92q, K92⟩ := hQ92
              have N92 := Fr.app N88 N92q
              have KK92 := KK88.trans K92 all0
              refine g_astore X92 hx 461 #[.val (.long xa), .second, .val (.long xb), .second, .val (.int xm), .val (.int (xm &&& (3 : Int32))), .val (.ref wd), .val (.ref b87), .val (.int (0 : Int32)), .val .null, .val (.int ch), .val (.int (97 : Int32))] (hb hby at_459) rfl rfl rfl ?_
              refine g_iload X92 hx 463 (hb hby at_461) rfl rfl ?_
              refine g_ifT X92 hx 480 (hb hby at_463) (by decide) (by decide) (by decide) ?_
              refine g_aload X92 hx 482 (hb hby at_480) rfl rfl rfl ?_
              refine g_ifnonnullF X92 hx 485 (hb hby at_482) rfl ?_
              refine g_iconst X92 hx 486 (1 : Int32) (hb hby at_485) (by decide) rfl ?_
              refine g_goto X92 hx 490 (hb hby at_486) (by decide) (by decide) ?_
              exact g_retZW X92 hx hret hlk rfl (hb hby at_490) hS (Eq.subst (motive := fun z : Heap => _ ≤ z.size) (Eq.symm rfl) hk) (by decide) (by decide) ⟨rfl, N92⟩
        · show Go p e below _ _ T1 (mkF m 243 #[.val (.long xa), .second, .val (.long xb), .second, .val (.int xm), .val (.int (xm &&& (3 : Int32))), .val (.ref wd), .unset, .unset, .val (.int (6 : Int32)), .val (.int ch), .unset] [])
          refine g_aload X1 hx 245 (hb hby at_243) rfl rfl rfl ?_
          refine g_iload X1 hx 247 (hb hby at_245) rfl rfl ?_
          refine g_caload X1 hx 248 hZ rfl V_wd ⟨by decide, by decide⟩ (show _ = (.int (117 : Int32)) from rfl) (hb hby at_247) rfl ?_
          refine g_istore X1 hx 250 #[.val (.long xa), .second, .val (.long xb), .second, .val (.int xm), .val (.int (xm &&& (3 : Int32))), .val (.ref wd), .unset, .unset, .val (.int (6 : Int32)), .val (.int ch), .val (.int (117 : Int32))] (hb hby at_248) rfl rfl ?_
          refine g_aload X1 hx 252 (hb hby at_250) rfl rfl rfl ?_
          refine g_iload X1 hx 254 (hb hby at_252) rfl rfl ?_
          refine g_iload X1 hx 256 (hb hby at_254) rfl rfl ?_
          refine g_castore X1 hx 257 hZ rfl V_wd 6 (by decide) ⟨by decide, by decide⟩ (Nat.le_of_ble_eq_true rfl) (hb hby at_256) rfl (fun T93 h93 X93 e93 W93 V93 => ?_)
          have V_wd : Arv Z h93 wd kw .char (11 : Int32) [(.int (105 : Int32)), (.int (115 : Int32)), (.int (69 : Int32)), (.int (120 : Int32)), (.int (104 : Int32)), (.int (97 : Int32)), (.int (nar .char ch)), (.int (115 : Int32)), (.int (116 : Int32)), (.int (101 : Int32)), (.int (100 : Int32))] (.int (0 : Int32)) := V93
          have N93 := Fr.snoc X93 N1 g_wd
          have Z93 : n0 ≤ h93.size := by rw [W93.size]; exact Z1
          have hk := Nat.le_trans hk (Nat.le_of_eq W93.size.symm)
          have K93 := K1.wr W93 (Or.inr SZ_wd)
          rw [hn] at V_wd
          rcases Decidable.em ((255 : Int32) < ch) with hbd | hbd
          · have hlt : (255 : Int32) < ch := hbd
            refine g_new X93 hx 260 hZ hown (own_w hw 5 rfl) (own_w hw 6 rfl) (own_w hw 7 rfl) e93 (hb hby at_257) (by decide) (by decide) rfl (fun T94 h94 b94 g94 X94 e94 E94 A94 D94 => ?_)
            have ne_wd_b94 : wd ≠ b94 := Nat.ne_of_lt (Nat.lt_of_lt_of_le V_wd.lt (Nat.le_of_eq g94.symm))
            have V_wd := V_wd.ext E94
            have G_b94 : n0 ≤ b94 := Nat.le_trans Z93 (Nat.le_of_eq g94.symm)
            have Z94 : n0 ≤ h94.size := Nat.le_trans Z93 E94.1
            have SZ_b94 : h0.size ≤ b94 := Nat.le_trans K93.1 (Nat.le_of_eq g94.symm)
            have K94 := K93.ext E94
            have hk := Nat.le_trans hk E94.1
            have E_b94 : Exa Z h94 b94 "java/lang/String" := A94
            have F_b94_coder : Fld Z h94 b94 "java/lang/String" "coder" "B" (.int (0 : Int32)) := D94 (Or.inr (own_w hw 31 rfl)) (ty := .byte) (by decide)
            have F_b94_value : Fld Z h94 b94 "java/lang/String" "value" "[B" .null := D94 (Or.inr (own_w hw 33 rfl)) (ty := (.array .byte)) (by decide)
            refine g_dup X94 hx 261 (hb hby at_260) rfl rfl ?_
            refine g_aload X94 hx 263 (hb hby at_261) rfl rfl rfl ?_
            refine g_callI X94 hx 266 hZ rfl hown (own_w hw 8 rfl) (own_w hw 9 rfl) (own_w hw 7 rfl) (own_w hw 10 rfl) (by decide) b94 [(.ref wd)] [(.ref b94)] (ru11_init1 l Z a0 hw b94 wd cs (105 : Int32) (115 : Int32) (69 : Int32) (120 : Int32) (104 : Int32) (97 : Int32) ch (115 : Int32) (116 : Int32) (101 : Int32) (100 : Int32) (6 : Int32) ch 12 13 kw _ _ h94 n0 Z94 G_b94 (own_sta_keep S_cs K94) hcs (own_sta_keep S_ad K94) (own_sta_keep S_hi K94) (own_sta_keep S_lo K94) E_b94 F_b94_value F_b94_coder V_wd ⟨by unfold own_fst11; exact ((if_neg (by decide)).trans ((if_neg (by decide)).trans ((if_neg (by decide)).trans ((if_neg (by decide)).trans ((if_neg (by decide)).trans ((if_neg (by decide)).trans (if_pos hbd))))))), by decide, by decide, rfl, rfl, hbd, hn⟩) e94 1 (by decide) (by decide) (by decide) (by decide) (by rw [hml]; rfl) (lenOf own_pd11 rfl) (hb hby at_263) rfl (Nat.le_of_eq rfl) rfl (fun v95 T95 L95 X95 hQ95 => ?_)
            obtain ⟨rfl, N95q, K95, E_a, C_a⟩ := hQ95
            have N95 := Fr.app N93 N95q
            have KK95 := K94.trans K95 (allS (Or.inr SZ_b94) all0)
            have Z95 := Nat.le_trans Z94 K95.1
            have hk := Nat.le_trans hk K95.1
            refine g_astore X95 hx 268 #[.val (.long xa), .second, .val (.long xb), .second, .val (.int xm), .val (.int (xm &&& (3 : Int32))), .val (.ref wd), .val (.ref b94), .unset, .val (.int (6 : Int32)), .val (.int ch), .val (.int (117 : Int32))] (hb hby at_266) rfl rfl rfl ?_
            refine g_iload X95 hx 270 (hb hby at_268) rfl rfl ?_
            refine g_iload X95 hx 272 (hb hby at_270) rfl rfl ?_
            have hk96 : ¬ (ch = (117 : Int32)) := fun q => absurd hbd (by rw [q]; decide)
            refine g_icT X95 hx 279 (hb hby at_272) (feq hk96).2 (by decide) (by decide) ?_
            refine g_iconst X95 hx 280 (0 : Int32) (hb hby at_279) (by decide) rfl ?_
            refine g_istore X95 hx 282 #[.val (.long xa), .second, .val (.long xb), .second, .val (.int xm), .val (.int (xm &&& (3 : Int32))), .val (.ref wd), .val (.ref b94), .val (.int (0 : Int32)), .val (.int (6 : Int32)), .val (.int ch), .val (.int (117 : Int32))] (hb hby at_280) rfl rfl ?_
            refine g_goto X95 hx 454 (hb hby at_282) (by decide) (by decide) ?_
            refine g_aload X95 hx 456 (hb hby at_454) rfl rfl rfl ?_
            refine g_callSW X95 hx 459 hZ hI hown (own_w hw 34 rfl) (own_w hw 35 rfl) (own_w hw 36 rfl) (own_w hw 37 rfl) (by decide) [(.ref b94)] [] (ruvU l Z a0 hw b94 f cs T95.heap n0 Z95 (own_sta_keep S_cs KK95) hcs (own_sta_keep S_f KK95) (fun b cl q => KK95.2.1 b cl (hkp b cl q) nin0) hld hcw E_a C_a) rfl 0 (by decide) (by decide) (by decide) (by decide) (by rw [hml]; rfl) (lenOf own_pd12 rfl) (hb hby at_456) rfl hS hk (Nat.le_of_eq rfl) rfl (fun v97 T97 L97 X97 hS hZ hown hQ97 => ?_)
            have hk := Nat.le_refl T97.heap.size
            obtain ⟨rfl, N97q, K97⟩ := hQ97
            have N97 := Fr.app N95 N97q
            have KK97 := KK95.trans K97 all0
            refine g_astore X97 hx 461 #[.val (.long xa), .second, .val (.long xb), .second, .val (.int xm), .val (.int (xm &&& (3 : Int32))), .val (.ref wd), .val (.ref b94), .val (.int (0 : Int32)), .val .null, .val (.int ch), .val (.int (117 : Int32))] (hb hby at_459) rfl rfl rfl ?_
            refine g_iload X97 hx 463 (hb hby at_461) rfl rfl ?_
            refine g_ifT X97 hx 480 (hb hby at_463) (by decide) (by decide) (by decide) ?_
            refine g_aload X97 hx 482 (hb hby at_480) rfl rfl rfl ?_
            refine g_ifnonnullF X97 hx 485 (hb hby at_482) rfl ?_
            refine g_iconst X97 hx 486 (1 : Int32) (hb hby at_485) (by decide) rfl ?_
            refine g_goto X97 hx 490 (hb hby at_486) (by decide) (by decide) ?_
            exact g_retZW X97 hx hret hlk rfl (hb hby at_490) hS (Eq.subst (motive := fun z : Heap => _ ≤ z.size) (Eq.symm rfl) hk) (by decide) (by decide) ⟨rfl, N97⟩
          · have hlt : ¬ (255 : Int32) < ch := hbd
            refine g_new X93 hx 260 hZ hown (own_w hw 5 rfl) (own_w hw 6 rfl) (own_w hw 7 rfl) e93 (hb hby at_257) (by decide) (by decide) rfl (fun T98 h98 b98 g98 X98 e98 E98 A98 D98 => ?_)
            have ne_wd_b98 : wd ≠ b98 := Nat.ne_of_lt (Nat.lt_of_lt_of_le V_wd.lt (Nat.le_of_eq g98.symm))
            have V_wd := V_wd.ext E98
            have G_b98 : n0 ≤ b98 := Nat.le_trans Z93 (Nat.le_of_eq g98.symm)
            have Z98 : n0 ≤ h98.size := Nat.le_trans Z93 E98.1
            have SZ_b98 : h0.size ≤ b98 := Nat.le_trans K93.1 (Nat.le_of_eq g98.symm)
            have K98 := K93.ext E98
            have hk := Nat.le_trans hk E98.1
            have E_b98 : Exa Z h98 b98 "java/lang/String" := A98
            have F_b98_coder : Fld Z h98 b98 "java/lang/String" "coder" "B" (.int (0 : Int32)) := D98 (Or.inr (own_w hw 31 rfl)) (ty := .byte) (by decide)
            have F_b98_value : Fld Z h98 b98 "java/lang/String" "value" "[B" .null := D98 (Or.inr (own_w hw 33 rfl)) (ty := (.array .byte)) (by decide)
            refine g_dup X98 hx 261 (hb hby at_260) rfl rfl ?_
            refine g_aload X98 hx 263 (hb hby at_261) rfl rfl rfl ?_
            refine g_callI X98 hx 266 hZ rfl hown (own_w hw 8 rfl) (own_w hw 9 rfl) (own_w hw 7 rfl) (own_w hw 10 rfl) (by decide) b98 [(.ref wd)] [(.ref b98)] (rs11_init1 l Z a0 hw b98 wd cs (105 : Int32) (115 : Int32) (69 : Int32) (120 : Int32) (104 : Int32) (97 : Int32) ch (115 : Int32) (116 : Int32) (101 : Int32) (100 : Int32) kw _ _ h98 n0 Z98 G_b98 (own_sta_keep S_cs K98) hcs E_b98 F_b98_value F_b98_coder V_wd (by decide) (by decide) (by decide) (by decide) (by decide) (by decide) hbd (by decide) (by decide) (by decide) (by decide)) e98 1 (by decide) (by decide) (by decide) (by decide) (by rw [hml]; rfl) (lenOf own_pd11 rfl) (hb hby at_263) rfl (Nat.le_of_eq rfl) rfl (fun v99 T99 L99 X99 hQ99 => ?_)
            obtain ⟨rfl, N99q, K99, t, kT, hst, E_a, G_a, C_a, V_t⟩ := hQ99
            have N99 := Fr.app N93 N99q
            have KK99 := K98.trans K99 (allS (Or.inr SZ_b98) all0)
            have Z99 := Nat.le_trans Z98 K99.1
            have hk := Nat.le_trans hk K99.1
            refine g_astore X99 hx 268 #[.val (.long xa), .second, .val (.long xb), .second, .val (.int xm), .val (.int (xm &&& (3 : Int32))), .val (.ref wd), .val (.ref b98), .unset, .val (.int (6 : Int32)), .val (.int ch), .val (.int (117 : Int32))] (hb hby at_266) rfl rfl rfl ?_
            refine g_iload X99 hx 270 (hb hby at_268) rfl rfl ?_
            refine g_iload X99 hx 272 (hb hby at_270) rfl rfl ?_
            by_cases hc100 : ch = (117 : Int32)
            · refine g_icF X99 hx 275 (hb hby at_272) (teq hc100).2 rfl ?_
              refine g_iconst X99 hx 276 (1 : Int32) (hb hby at_275) (by decide) rfl ?_
              refine g_goto X99 hx 280 (hb hby at_276) (by decide) (by decide) ?_
              refine g_istore X99 hx 282 #[.val (.long xa), .second, .val (.long xb), .second, .val (.int xm), .val (.int (xm &&& (3 : Int32))), .val (.ref wd), .val (.ref b98), .val (.int (1 : Int32)), .val (.int (6 : Int32)), .val (.int ch), .val (.int (117 : Int32))] (hb hby at_280) rfl rfl ?_
              refine g_goto X99 hx 454 (hb hby at_282) (by decide) (by decide) ?_
              refine g_aload X99 hx 456 (hb hby at_454) rfl rfl rfl ?_
              refine g_callSW X99 hx 459 hZ hI hown (own_w hw 34 rfl) (own_w hw 35 rfl) (own_w hw 36 rfl) (own_w hw 37 rfl) (by decide) [(.ref b98)] [] (ruvE1 l Z a0 hw b98 f cs t _ _ _ _ _ _ _ _ _ _ _ kT T99.heap n0 Z99 (own_sta_keep S_cs KK99) hcs (own_sta_keep S_f KK99) (fun b cl q => KK99.2.1 b cl (hkp b cl q) nin0) hld hcw E_a C_a G_a V_t (by rw [hc100]; decide)) rfl 0 (by decide) (by decide) (by decide) (by decide) (by rw [hml]; rfl) (lenOf own_pd12 rfl) (hb hby at_456) rfl hS hk (Nat.le_of_eq rfl) rfl (fun v101 T101 L101 X101 hS hZ hown hQ101 => ?_)
              have hk := Nat.le_refl T101.heap.size
              obtain ⟨rfl, N101q, K101⟩ := hQ101
              have N101 := Fr.app N99 N101q
              have KK101 := KK99.trans K101 all0
              refine g_astore X101 hx 461 #[.val (.long xa), .second, .val (.long xb), .second, .val (.int xm), .val (.int (xm &&& (3 : Int32))), .val (.ref wd), .val (.ref b98), .val (.int (1 : Int32)), .val (.ref f), .val (.int ch), .val (.int (117 : Int32))] (hb hby at_459) rfl rfl rfl ?_
              refine g_iload X101 hx 463 (hb hby at_461) rfl rfl ?_
              refine g_ifF X101 hx 466 (hb hby at_463) (by decide) rfl ?_
              refine g_aload X101 hx 468 (hb hby at_466) rfl rfl rfl ?_
              refine g_getS X101 hx 471 hZ hown (host := "") (Or.inl (own_w hw 53 rfl)) Via.refl rfl (own_sta_keep S_f KK101) (hb hby at_468) rfl (fun T102 X102 e102 => ?_)
              refine g_ac X102 hx 474 true (hb hby at_471) rfl rfl (decide_eq_true rfl) (by decide) (by decide) ?_
              refine g_iconst X102 hx 475 (1 : Int32) (hb hby at_474) (by decide) rfl ?_
              refine g_goto X102 hx 479 (hb hby at_475) (by decide) (by decide) ?_
              exact g_retZW X102 hx hret hlk rfl (hb hby at_479) hS (Eq.subst (motive := fun z : Heap => _ ≤ z.size) (Eq.symm e102) hk) (by decide) (by decide) ⟨rfl, N101⟩
            · refine g_icT X99 hx 279 (hb hby at_272) (feq hc100).2 (by decide) (by decide) ?_
              refine g_iconst X99 hx 280 (0 : Int32) (hb hby at_279) (by decide) rfl ?_
              refine g_istore X99 hx 282 #[.val (.long xa), .second, .val (.long xb), .second, .val (.int xm), .val (.int (xm &&& (3 : Int32))), .val (.ref wd), .val (.ref b98), .val (.int (0 : Int32)), .val (.int (6 : Int32)), .val (.int ch), .val (.int (117 : Int32))] (hb hby at_280) rfl rfl ?_
              refine g_goto X99 hx 454 (hb hby at_282) (by decide) (by decide) ?_
              refine g_aload X99 hx 456 (hb hby at_454) rfl rfl rfl ?_
              refine g_callSW X99 hx 459 hZ hI hown (own_w hw 34 rfl) (own_w hw 35 rfl) (own_w hw 36 rfl) (own_w hw 37 rfl) (by decide) [(.ref b98)] [] (ruvE0 l Z a0 hw b98 f cs t _ _ _ _ _ _ _ _ _ _ _ kT T99.heap n0 Z99 (own_sta_keep S_cs KK99) hcs (own_sta_keep S_f KK99) (fun b cl q => KK99.2.1 b cl (hkp b cl q) nin0) hld hcw E_a C_a G_a V_t (own_isw0 _ _ _ _ _ _ _ _ _ _ _ (fun q => hc100 ((own_bt_eq ch (117 : Int32) hn hbd (by decide) (by decide)).mp q.2.2.2.2.2.2.1)))) rfl 0 (by decide) (by decide) (by decide) (by decide) (by rw [hml]; rfl) (lenOf own_pd12 rfl) (hb hby at_456) rfl hS hk (Nat.le_of_eq rfl) rfl (fun v103 T103 L103 X103 hS hZ hown hQ103 => ?_)
              have hk := Nat.le_refl T103.heap.size
              obtain ⟨rfl, N103q, K103⟩ := hQ103
              have N103 := Fr.app N99 N103q
              have KK103 := KK99.trans K103 all0
              refine g_astore X103 hx 461 #[.val (.long xa), .second, .val (.long xb), .second, .val (.int xm), .val (.int (xm &&& (3 : Int32))), .val (.ref wd), .val (.ref b98), .val (.int (0 : Int32)), .val .null, .val (.int ch), .val (.int (117 : Int32))] (hb hby at_459) rfl rfl rfl ?_
              refine g_iload X103 hx 463 (hb hby at_461) rfl rfl ?_
              refine g_ifT X103 hx 480 (hb hby at_463) (by decide) (by decide) (by decide) ?_
              refine g_aload X103 hx 482 (hb hby at_480) rfl rfl rfl ?_
              refine g_ifnonnullF X103 hx 485 (hb hby at_482) rfl ?_
              refine g_iconst X103 hx 486 (1 : Int32) (hb hby at_485) (by decide) rfl ?_
              refine g_goto X103 hx 490 (hb hby at_486) (by decide) (by decide) ?_
              exact g_retZW X103 hx hret hlk rfl (hb hby at_490) hS (Eq.subst (motive := fun z : Heap => _ ≤ z.size) (Eq.symm rfl) hk) (by decide) (by decide) ⟨rfl, N103⟩
        · show Go p e below _ _ T1 (mkF m 243 #[.val (.long xa), .second, .val (.long xb), .second, .val (.int xm), .val (.int (xm &&& (3 : Int32))), .val (.ref wd), .unset, .unset, .val (.int (7 : Int32)), .val (.int ch), .unset] [])
          refine g_aload X1 hx 245 (hb hby at_243) rfl rfl rfl ?_
          refine g_iload X1 hx 247 (hb hby at_245) rfl rfl ?_
          refine g_caload X1 hx 248 hZ rfl V_wd ⟨by decide, by decide⟩ (show _ = (.int (115 : Int32)) from rfl) (hb hby at_247) rfl ?_
          refine g_istore X1 hx 250 #[.val (.long xa), .second, .val (.long xb), .second, .val (.int xm), .val (.int (xm &&& (3 : Int32))), .val (.ref wd), .unset, .unset, .val (.int (7 : Int32)), .val (.int ch), .val (.int (115 : Int32))] (hb hby at_248) rfl rfl ?_
          refine g_aload X1 hx 252 (hb hby at_250) rfl rfl rfl ?_
          refine g_iload X1 hx 254 (hb hby at_252) rfl rfl ?_
          refine g_iload X1 hx 256 (hb hby at_254) rfl rfl ?_
          refine g_castore X1 hx 257 hZ rfl V_wd 7 (by decide) ⟨by decide, by decide⟩ (Nat.le_of_ble_eq_true rfl) (hb hby at_256) rfl (fun T104 h104 X104 e104 W104 V104 => ?_)
          have V_wd : Arv Z h104 wd kw .char (11 : Int32) [(.int (105 : Int32)), (.int (115 : Int32)), (.int (69 : Int32)), (.int (120 : Int32)), (.int (104 : Int32)), (.int (97 : Int32)), (.int (117 : Int32)), (.int (nar .char ch)), (.int (116 : Int32)), (.int (101 : Int32)), (.int (100 : Int32))] (.int (0 : Int32)) := V104
          have N104 := Fr.snoc X104 N1 g_wd
          have Z104 : n0 ≤ h104.size := by rw [W104.size]; exact Z1
          have hk := Nat.le_trans hk (Nat.le_of_eq W104.size.symm)
          have K104 := K1.wr W104 (Or.inr SZ_wd)
          rw [hn] at V_wd
          rcases Decidable.em ((255 : Int32) < ch) with hbd | hbd
          · have hlt : (255 : Int32) < ch := hbd
            refine g_new X104 hx 260 hZ hown (own_w hw 5 rfl) (own_w hw 6 rfl) (own_w hw 7 rfl) e104 (hb hby at_257) (by decide) (by decide) rfl (fun T105 h105 b105 g105 X105 e105 E105 A105 D105 => ?_)
            have ne_wd_b105 : wd ≠ b105 := Nat.ne_of_lt (Nat.lt_of_lt_of_le V_wd.lt (Nat.le_of_eq g105.symm))
            have V_wd := V_wd.ext E105
            have G_b105 : n0 ≤ b105 := Nat.le_trans Z104 (Nat.le_of_eq g105.symm)
            have Z105 : n0 ≤ h105.size := Nat.le_trans Z104 E105.1
            have SZ_b105 : h0.size ≤ b105 := Nat.le_trans K104.1 (Nat.le_of_eq g105.symm)
            have K105 := K104.ext E105
            have hk := Nat.le_trans hk E105.1
            have E_b105 : Exa Z h105 b105 "java/lang/String" := A105
            have F_b105_coder : Fld Z h105 b105 "java/lang/String" "coder" "B" (.int (0 : Int32)) := D105 (Or.inr (own_w hw 31 rfl)) (ty := .byte) (by decide)
            have F_b105_value : Fld Z h105 b105 "java/lang/String" "value" "[B" .null := D105 (Or.inr (own_w hw 33 rfl)) (ty := (.array .byte)) (by decide)
            refine g_dup X105 hx 261 (hb hby at_260) rfl rfl ?_
            refine g_aload X105 hx 263 (hb hby at_261) rfl rfl rfl ?_
            refine g_callI X105 hx 266 hZ rfl hown (own_w hw 8 rfl) (own_w hw 9 rfl) (own_w hw 7 rfl) (own_w hw 10 rfl) (by decide) b105 [(.ref wd)] [(.ref b105)] (ru11_init1 l Z a0 hw b105 wd cs (105 : Int32) (115 : Int32) (69 : Int32) (120 : Int32) (104 : Int32) (97 : Int32) (117 : Int32) ch (116 : Int32) (101 : Int32) (100 : Int32) (7 : Int32) ch 14 15 kw _ _ h105 n0 Z105 G_b105 (own_sta_keep S_cs K105) hcs (own_sta_keep S_ad K105) (own_sta_keep S_hi K105) (own_sta_keep S_lo K105) E_b105 F_b105_value F_b105_coder V_wd ⟨by unfold own_fst11; exact ((if_neg (by decide)).trans ((if_neg (by decide)).trans ((if_neg (by decide)).trans ((if_neg (by decide)).trans ((if_neg (by decide)).trans ((if_neg (by decide)).trans ((if_neg (by decide)).trans (if_pos hbd)))))))), by decide, by decide, rfl, rfl, hbd, hn⟩) e105 1 (by decide) (by decide) (by decide) (by decide) (by rw [hml]; rfl) (lenOf own_pd11 rfl) (hb hby at_263) rfl (Nat.le_of_eq rfl) rfl (fun v106 T106 L106 X106 hQ106 => ?_)
            obtain ⟨rfl, N106q, K106, E_a, C_a⟩ := hQ106
            have N106 := Fr.app N104 N106q
            have KK106 := K105.trans K106 (allS (Or.inr SZ_b105) all0)
            have Z106 := Nat.le_trans Z105 K106.1
            have hk := Nat.le_trans hk K106.1
            refine g_astore X106 hx 268 #[.val (.long xa), .second, .val (.long xb), .second, .val (.int xm), .val (.int (xm &&& (3 : Int32))), .val (.ref wd), .val (.ref b105), .unset, .val (.int (7 : Int32)), .val (.int ch), .val (.int (115 : Int32))] (hb hby at_266) rfl rfl rfl ?_
            refine g_iload X106 hx 270 (hb hby at_268) rfl rfl ?_
            refine g_iload X106 hx 272 (hb hby at_270) rfl rfl ?_
            have hk107 : ¬ (ch = (115 : Int32)) := fun q => absurd hbd (by rw [q]; decide)
            refine g_icT X106 hx 279 (hb hby at_272) (feq hk107).2 (by decide) (by decide) ?_
            refine g_iconst X106 hx 280 (0 : Int32) (hb hby at_279) (by decide) rfl ?_
            refine g_istore X106 hx 282 #[.val (.long xa), .second, .val (.long xb), .second, .val (.int xm), .val (.int (xm &&& (3 : Int32))), .val (.ref wd), .val (.ref b105), .val (.int (0 : Int32)), .val (.int (7 : Int32)), .val (.int ch), .val (.int (115 : Int32))] (hb hby at_280) rfl rfl ?_
            refine g_goto X106 hx 454 (hb hby at_282) (by decide) (by decide) ?_
            refine g_aload X106 hx 456 (hb hby at_454) rfl rfl rfl ?_
            refine g_callSW X106 hx 459 hZ hI hown (own_w hw 34 rfl) (own_w hw 35 rfl) (own_w hw 36 rfl) (own_w hw 37 rfl) (by decide) [(.ref b105)] [] (ruvU l Z a0 hw b105 f cs T106.heap n0 Z106 (own_sta_keep S_cs KK106) hcs (own_sta_keep S_f KK106) (fun b cl q => KK106.2.1 b cl (hkp b cl q) nin0) hld hcw E_a C_a) rfl 0 (by decide) (by decide) (by decide) (by decide) (by rw [hml]; rfl) (lenOf own_pd12 rfl) (hb hby at_456) rfl hS hk (Nat.le_of_eq rfl) rfl (fun v108 T108 L108 X108 hS hZ hown hQ108 => ?_)
            have hk := Nat.le_refl T108.heap.size
            obtain ⟨rfl, N108q, K108⟩ := hQ108
            have N108 := Fr.app N106 N108q
            have KK108 := KK106.trans K108 all0
            refine g_astore X108 hx 461 #[.val (.long xa), .second, .val (.long xb), .second, .val (.int xm), .val (.int (xm &&& (3 : Int32))), .val (.ref wd), .val (.ref b105), .val (.int (0 : Int32)), .val .null, .val (.int ch), .val (.int (115 : Int32))] (hb hby at_459) rfl rfl rfl ?_
            refine g_iload X108 hx 463 (hb hby at_461) rfl rfl ?_
            refine g_ifT X108 hx 480 (hb hby at_463) (by decide) (by decide) (by decide) ?_
            refine g_aload X108 hx 482 (hb hby at_480) rfl rfl rfl ?_
            refine g_ifnonnullF X108 hx 485 (hb hby at_482) rfl ?_
            refine g_iconst X108 hx 486 (1 : Int32) (hb hby at_485) (by decide) rfl ?_
            refine g_goto X108 hx 490 (hb hby at_486) (by decide) (by decide) ?_
            exact g_retZW X108 hx hret hlk rfl (hb hby at_490) hS (Eq.subst (motive := fun z : Heap => _ ≤ z.size) (Eq.symm rfl) hk) (by decide) (by decide) ⟨rfl, N108⟩
          · have hlt : ¬ (255 : Int32) < ch := hbd
            refine g_new X104 hx 260 hZ hown (own_w hw 5 rfl) (own_w hw 6 rfl) (own_w hw 7 rfl) e104 (hb hby at_257) (by decide) (by decide) rfl (fun T109 h109 b109 g109 X109 e109 E109 A109 D109 => ?_)
            have ne_wd_b109 : wd ≠ b109 := Nat.ne_of_lt (Nat.lt_of_lt_of_le V_wd.lt (Nat.le_of_eq g109.symm))
            have V_wd := V_wd.ext E109
            have G_b109 : n0 ≤ b109 := Nat.le_trans Z104 (Nat.le_of_eq g109.symm)
            have Z109 : n0 ≤ h109.size := Nat.le_trans Z104 E109.1
            have SZ_b109 : h0.size ≤ b109 := Nat.le_trans K104.1 (Nat.le_of_eq g109.symm)
            have K109 := K104.ext E109
            have hk := Nat.le_trans hk E109.1
            have E_b109 : Exa Z h109 b109 "java/lang/String" := A109
            have F_b109_coder : Fld Z h109 b109 "java/lang/String" "coder" "B" (.int (0 : Int32)) := D109 (Or.inr (own_w hw 31 rfl)) (ty := .byte) (by decide)
            have F_b109_value : Fld Z h109 b109 "java/lang/String" "value" "[B" .null := D109 (Or.inr (own_w hw 33 rfl)) (ty := (.array .byte)) (by decide)
            refine g_dup X109 hx 261 (hb hby at_260) rfl rfl ?_
            refine g_aload X109 hx 263 (hb hby at_261) rfl rfl rfl ?_
            refine g_callI X109 hx 266 hZ rfl hown (own_w hw 8 rfl) (own_w hw 9 rfl) (own_w hw 7 rfl) (own_w hw 10 rfl) (by decide) b109 [(.ref wd)] [(.ref b109)] (rs11_init1 l Z a0 hw b109 wd cs (105 : Int32) (115 : Int32) (69 : Int32) (120 : Int32) (104 : Int32) (97 : Int32) (117 : Int32) ch (116 : Int32) (101 : Int32) (100 : Int32) kw _ _ h109 n0 Z109 G_b109 (own_sta_keep S_cs K109) hcs E_b109 F_b109_value F_b109_coder V_wd (by decide) (by decide) (by decide) (by decide) (by decide) (by decide) (by decide) hbd (by decide) (by decide) (by decide)) e109 1 (by decide) (by decide) (by decide) (by decide) (by rw [hml]; rfl) (lenOf own_pd11 rfl) (hb hby at_263) rfl (Nat.le_of_eq rfl) rfl (fun v110 T110 L110 X110 hQ110 => ?_)
            obtain ⟨rfl, N110q, K110, t, kT, hst, E_a, G_a, C_a, V_t⟩ := hQ110
            have N110 := Fr.app N104 N110q
            have KK110 := K109.trans K110 (allS (Or.inr SZ_b109) all0)
            have Z110 := Nat.le_trans Z109 K110.1
            have hk := Nat.le_trans hk K110.1
            refine g_astore X110 hx 268 #[.val (.long xa), .second, .val (.long xb), .second, .val (.int xm), .val (.int (xm &&& (3 : Int32))), .val (.ref wd), .val (.ref b109), .unset, .val (.int (7 : Int32)), .val (.int ch), .val (.int (115 : Int32))] (hb hby at_266) rfl rfl rfl ?_
            refine g_iload X110 hx 270 (hb hby at_268) rfl rfl ?_
            refine g_iload X110 hx 272 (hb hby at_270) rfl rfl ?_
            by_cases hc111 : ch = (115 : Int32)
            · refine g_icF X110 hx 275 (hb hby at_272) (teq hc111).2 rfl ?_
              refine g_iconst X110 hx 276 (1 : Int32) (hb hby at_275) (by decide) rfl ?_
              refine g_goto X110 hx 280 (hb hby at_276) (by decide) (by decide) ?_
              refine g_istore X110 hx 282 #[.val (.long xa), .second, .val (.long xb), .second, .val (.int xm), .val (.int (xm &&& (3 : Int32))), .val (.ref wd), .val (.ref b109), .val (.int (1 : Int32)), .val (.int (7 : Int32)), .val (.int ch), .val (.int (115 : Int32))] (hb hby at_280) rfl rfl ?_
              refine g_goto X110 hx 454 (hb hby at_282) (by decide) (by decide) ?_
              refine g_aload X110 hx 456 (hb hby at_454) rfl rfl rfl ?_
              refine g_callSW X110 hx 459 hZ hI hown (own_w hw 34 rfl) (own_w hw 35 rfl) (own_w hw 36 rfl) (own_w hw 37 rfl) (by decide) [(.ref b109)] [] (ruvE1 l Z a0 hw b109 f cs t _ _ _ _ _ _ _ _ _ _ _ kT T110.heap n0 Z110 (own_sta_keep S_cs KK110) hcs (own_sta_keep S_f KK110) (fun b cl q => KK110.2.1 b cl (hkp b cl q) nin0) hld hcw E_a C_a G_a V_t (by rw [hc111]; decide)) rfl 0 (by decide) (by decide) (by decide) (by decide) (by rw [hml]; rfl) (lenOf own_pd12 rfl) (hb hby at_456) rfl hS hk (Nat.le_of_eq rfl) rfl (fun v112 T112 L112 X112 hS hZ hown hQ112 => ?_)
              have hk := Nat.le_refl T112.heap.size
              obtain ⟨rfl, N112q, K112⟩ := hQ112
              have N112 := Fr.app N110 N112q
              have KK112 := KK110.trans K112 all0
              refine g_astore X112 hx 461 #[.val (.long xa), .second, .val (.long xb), .second, .val (.int xm), .val (.int (xm &&& (3 : Int32))), .val (.ref wd), .val (.ref b109), .val (.int (1 : Int32)), .val (.ref f), .val (.int ch), .val (.int (115 : Int32))] (hb hby at_459) rfl rfl rfl ?_
              refine g_iload X112 hx 463 (hb hby at_461) rfl rfl ?_
              refine g_ifF X112 hx 466 (hb hby at_463) (by decide) rfl ?_
              refine g_aload X112 hx 468 (hb hby at_466) rfl rfl rfl ?_
              refine g_getS X112 hx 471 hZ hown (host := "") (Or.inl (own_w hw 53 rfl)) Via.refl rfl (own_sta_keep S_f KK112) (hb hby at_468) rfl (fun T113 X113 e113 => ?_)
              refine g_ac X113 hx 474 true (hb hby at_471) rfl rfl (decide_eq_true rfl) (by decide) (by decide) ?_
              refine g_iconst X113 hx 475 (1 : Int32) (hb hby at_474) (by decide) rfl ?_
              refine g_goto X113 hx 479 (hb hby at_475) (by decide) (by decide) ?_
              exact g_retZW X113 hx hret hlk rfl (hb hby at_479) hS (Eq.subst (motive := fun z : Heap => _ ≤ z.size) (Eq.symm e113) hk) (by decide) (by decide) ⟨rfl, N112⟩
            · refine g_icT X110 hx 279 (hb hby at_272) (feq hc111).2 (by decide) (by decide) ?_
              refine g_iconst X110 hx 280 (0 : Int32) (hb hby at_279) (by decide) rfl ?_
              refine g_istore X110 hx 282 #[.val (.long xa), .second, .val (.long xb), .second, .val (.int xm), .val (.int (xm &&& (3 : Int32))), .val (.ref wd), .val (.ref b109), .val (.int (0 : Int32)), .val (.int (7 : Int32)), .val (.int ch), .val (.int (115 : Int32))] (hb hby at_280) rfl rfl ?_
              refine g_goto X110 hx 454 (hb hby at_282) (by decide) (by decide) ?_
              refine g_aload X110 hx 456 (hb hby at_454) rfl rfl rfl ?_
              refine g_callSW X110 hx 459 hZ hI hown (own_w hw 34 rfl) (own_w hw 35 rfl) (own_w hw 36 rfl) (own_w hw 37 rfl) (by decide) [(.ref b109)] [] (ruvE0 l Z a0 hw b109 f cs t _ _ _ _ _ _ _ _ _ _ _ kT T110.heap n0 Z110 (own_sta_keep S_cs KK110) hcs (own_sta_keep S_f KK110) (fun b cl q => KK110.2.1 b cl (hkp b cl q) nin0) hld hcw E_a C_a G_a V_t (own_isw0 _ _ _ _ _ _ _ _ _ _ _ (fun q => hc111 ((own_bt_eq ch (115 : Int32) hn hbd (by decide) (by decide)).mp q.2.2.2.2.2.2.2.1)))) rfl 0 (by decide) (by decide) (by decide) (by decide) (by rw [hml]; rfl) (lenOf own_pd12 rfl) (hb hby at_456) rfl hS hk (Nat.le_of_eq rfl) rfl (fun v114 T114 L114 X114 hS hZ hown hQ114 => ?_)
              have hk := Nat.le_refl T114.heap.size
              obtain ⟨rfl, N114q, K114⟩ := hQ114
              have N114 := Fr.app N110 N114q
              have KK114 := KK110.trans K114 all0
              refine g_astore X114 hx 461 #[.val (.long xa), .second, .val (.long xb), .second, .val (.int xm), .val (.int (xm &&& (3 : Int32))), .val (.ref wd), .val (.ref b109), .val (.int (0 : Int32)), .val .null, .val (.int ch), .val (.int (115 : Int32))] (hb hby at_459) rfl rfl rfl ?_
              refine g_iload X114 hx 463 (hb hby at_461) rfl rfl ?_
              refine g_ifT X114 hx 480 (hb hby at_463) (by decide) (by decide) (by decide) ?_
              refine g_aload X114 hx 482 (hb hby at_480) rfl rfl rfl ?_
              refine g_ifnonnullF X114 hx 485 (hb hby at_482) rfl ?_
              refine g_iconst X114 hx 486 (1 : Int32) (hb hby at_485) (by decide) rfl ?_
              refine g_goto X114 hx 490 (hb hby at_486) (by decide) (by decide) ?_
              exact g_retZW X114 hx hret hlk rfl (hb hby at_490) hS (Eq.subst (motive := fun z : Heap => _ ≤ z.size) (Eq.symm rfl) hk) (by decide) (by decide) ⟨rfl, N114⟩
        · show Go p e below _ _ T1 (mkF m 243 #[.val (.long xa), .second, .val (.long xb), .second, .val (.int xm), .val (.int (xm &&& (3 : Int32))), .val (.ref wd), .unset, .unset, .val (.int (8 : Int32)), .val (.int ch), .unset] [])
          refine g_aload X1 hx 245 (hb hby at_243) rfl rfl rfl ?_
          refine g_iload X1 hx 247 (hb hby at_245) rfl rfl ?_
          refine g_caload X1 hx 248 hZ rfl V_wd ⟨by decide, by decide⟩ (show _ = (.int (116 : Int32)) from rfl) (hb hby at_247) rfl ?_
          refine g_istore X1 hx 250 #[.val (.long xa), .second, .val (.long xb), .second, .val (.int xm), .val (.int (xm &&& (3 : Int32))), .val (.ref wd), .unset, .unset, .val (.int (8 : Int32)), .val (.int ch), .val (.int (116 : Int32))] (hb hby at_248) rfl rfl ?_
          refine g_aload X1 hx 252 (hb hby at_250) rfl rfl rfl ?_
          refine g_iload X1 hx 254 (hb hby at_252) rfl rfl ?_
          refine g_iload X1 hx 256 (hb hby at_254) rfl rfl ?_
          refine g_castore X1 hx 257 hZ rfl V_wd 8 (by decide) ⟨by decide, by decide⟩ (Nat.le_of_ble_eq_true rfl) (hb hby at_256) rfl (fun T115 h115 X115 e115 W115 V115 => ?_)
          have V_wd : Arv Z h115 wd kw .char (11 : Int32) [(.int (105 : Int32)), (.int (115 : Int32)), (.int (69 : Int32)), (.int (120 : Int32)), (.int (104 : Int32)), (.int (97 : Int32)), (.int (117 : Int32)), (.int (115 : Int32)), (.int (nar .char ch)), (.int (101 : Int32)), (.int (100 : Int32))] (.int (0 : Int32)) := V115
          have N115 := Fr.snoc X115 N1 g_wd
          have Z115 : n0 ≤ h115.size := by rw [W115.size]; exact Z1
          have hk := Nat.le_trans hk (Nat.le_of_eq W115.size.symm)
          have K115 := K1.wr W115 (Or.inr SZ_wd)
          rw [hn] at V_wd
          rcases Decidable.em ((255 : Int32) < ch) with hbd | hbd
          · have hlt : (255 : Int32) < ch := hbd
            refine g_new X115 hx 260 hZ hown (own_w hw 5 rfl) (own_w hw 6 rfl) (own_w hw 7 rfl) e115 (hb hby at_257) (by decide) (by decide) rfl (fun T116 h116 b116 g116 X116 e116 E116 A116 D116 => ?_)
            have ne_wd_b116 : wd ≠ b116 := Nat.ne_of_lt (Nat.lt_of_lt_of_le V_wd.lt (Nat.le_of_eq g116.symm))
            have V_wd := V_wd.ext E116
            have G_b116 : n0 ≤ b116 := Nat.le_trans Z115 (Nat.le_of_eq g116.symm)
            have Z116 : n0 ≤ h116.size := Nat.le_trans Z115 E116.1
            have SZ_b116 : h0.size ≤ b116 := Nat.le_trans K115.1 (Nat.le_of_eq g116.symm)
            have K116 := K115.ext E116
            have hk := Nat.le_trans hk E116.1
            have E_b116 : Exa Z h116 b116 "java/lang/String" := A116
            have F_b116_coder : Fld Z h116 b116 "java/lang/String" "coder" "B" (.int (0 : Int32)) := D116 (Or.inr (own_w hw 31 rfl)) (ty := .byte) (by decide)
            have F_b116_value : Fld Z h116 b116 "java/lang/String" "value" "[B" .null := D116 (Or.inr (own_w hw 33 rfl)) (ty := (.array .byte)) (by decide)
            refine g_dup X116 hx 261 (hb hby at_260) rfl rfl ?_
            refine g_aload X116 hx 263 (hb hby at_261) rfl rfl rfl ?_
            refine g_callI X116 hx 266 hZ rfl hown (own_w hw 8 rfl) (own_w hw 9 rfl) (own_w hw 7 rfl) (own_w hw 10 rfl) (by decide) b116 [(.ref wd)] [(.ref b116)] (ru11_init1 l Z a0 hw b116 wd cs (105 : Int32) (115 : Int32) (69 : Int32) (120 : Int32) (104 : Int32) (97 : Int32) (117 : Int32) (115 : Int32) ch (101 : Int32) (100 : Int32) (8 : Int32) ch 16 17 kw _ _ h116 n0 Z116 G_b116 (own_sta_keep S_cs K116) hcs (own_sta_keep S_ad K116) (own_sta_keep S_hi K116) (own_sta_keep S_lo K116) E_b116 F_b116_value F_b116_coder V_wd ⟨by unfold own_fst11; exact ((if_neg (by decide)).trans ((if_neg (by decide)).trans ((if_neg (by decide)).trans ((if_neg (by decide)).trans ((if_neg (by decide)).trans ((if_neg (by decide)).trans ((if_neg (by decide)).trans ((if_neg (by decide)).trans (if_pos hbd))))))))), by decide, by decide, rfl, rfl, hbd, hn⟩) e116 1 (by decide) (by decide) (by decide) (by decide) (by rw [hml]; rfl) (lenOf own_pd11 rfl) (hb hby at_263) rfl (Nat.le_of_eq rfl) rfl (fun v117 T117 L117 X117 hQ117 => ?_)
            obtain ⟨rfl, N117q, K117, E_a, C_a⟩ := hQ117
            have N117 := Fr.app N115 N117q
            have KK117 := K116.trans K117 (allS (Or.inr SZ_b116) all0)
            have Z117 := Nat.le_trans Z116 K117.1
            have hk := Nat.le_trans hk K117.1
            refine g_astore X117 hx 268 #[.val (.long xa), .second, .val (.long xb), .second, .val (.int xm), .val (.int (xm &&& (3 : Int32))), .val (.ref wd), .val (.ref b116), .unset, .val (.int (8 : Int32)), .val (.int ch), .val (.int (116 : Int32))] (hb hby at_266) rfl rfl rfl ?_
            refine g_iload X117 hx 270 (hb hby at_268) rfl rfl ?_
            refine g_iload X117 hx 272 (hb hby at_270) rfl rfl ?_
            have hk118 : ¬ (ch = (116 : Int32)) := fun q => absurd hbd (by rw [q]; decide)
            refine g_icT X117 hx 279 (hb hby at_272) (feq hk118).2 (by decide) (by decide) ?_
            refine g_iconst X117 hx 280 (0 : Int32) (hb hby at_279) (by decide) rfl ?_
            refine g_istore X117 hx 282 #[.val (.long xa), .second, .val (.long xb), .second, .val (.int xm), .val (.int (xm &&& (3 : Int32))), .val (.ref wd), .val (.ref b116), .val (.int (0 : Int32)), .val (.int (8 : Int32)), .val (.int ch), .val (.int (116 : Int32))] (hb hby at_280) rfl rfl ?_
            refine g_goto X117 hx 454 (hb hby at_282) (by decide) (by decide) ?_
            refine g_aload X117 hx 456 (hb hby at_454) rfl rfl rfl ?_
            refine g_callSW X117 hx 459 hZ hI hown (own_w hw 34 rfl) (own_w hw 35 rfl) (own_w hw 36 rfl) (own_w hw 37 rfl) (by decide) [(.ref b116)] [] (ruvU l Z a0 hw b116 f cs T117.heap n0 Z117 (own_sta_keep S_cs KK117) hcs (own_sta_keep S_f KK117) (fun b cl q => KK117.2.1 b cl (hkp b cl q) nin0) hld hcw E_a C_a) rfl 0 (by decide) (by decide) (by decide) (by decide) (by rw [hml]; rfl) (lenOf own_pd12 rfl) (hb hby at_456) rfl hS hk (Nat.le_of_eq rfl) rfl (fun v119 T119 L119 X119 hS hZ hown hQ119 => ?_)
            have hk := Nat.le_refl T119.heap.size
            obtain ⟨rfl, N119q, K119⟩ := hQ119
            have N119 := Fr.app N117 N119q
            have KK119 := KK117.trans K119 all0
            refine g_astore X119 hx 461 #[.val (.long xa), .second, .val (.long xb), .second, .val (.int xm), .val (.int (xm &&& (3 : Int32))), .val (.ref wd), .val (.ref b116), .val (.int (0 : Int32)), .val .null, .val (.int ch), .val (.int (116 : Int32))] (hb hby at_459) rfl rfl rfl ?_
            refine g_iload X119 hx 463 (hb hby at_461) rfl rfl ?_
            refine g_ifT X119 hx 480 (hb hby at_463) (by decide) (by decide) (by decide) ?_
            refine g_aload X119 hx 482 (hb hby at_480) rfl rfl rfl ?_
            refine g_ifnonnullF X119 hx 485 (hb hby at_482) rfl ?_
            refine g_iconst X119 hx 486 (1 : Int32) (hb hby at_485) (by decide) rfl ?_
            refine g_goto X119 hx 490 (hb hby at_486) (by decide) (by decide) ?_
            exact g_retZW X119 hx hret hlk rfl (hb hby at_490) hS (Eq.subst (motive := fun z : Heap => _ ≤ z.size) (Eq.symm rfl) hk) (by decide) (by decide) ⟨rfl, N119⟩
          · have hlt : ¬ (255 : Int32) < ch := hbd
            refine g_new X115 hx 260 hZ hown (own_w hw 5 rfl) (own_w hw 6 rfl) (own_w hw 7 rfl) e115 (hb hby at_257) (by decide) (by decide) rfl (fun T120 h120 b120 g120 X120 e120 E120 A120 D120 => ?_)
            have ne_wd_b120 : wd ≠ b120 := Nat.ne_of_lt (Nat.lt_of_lt_of_le V_wd.lt (Nat.le_of_eq g120.symm))
            have V_wd := V_wd.ext E120
            have G_b120 : n0 ≤ b120 := Nat.le_trans Z115 (Nat.le_of_eq g120.symm)
            have Z120 : n0 ≤ h120.size := Nat.le_trans Z115 E120.1
            have SZ_b120 : h0.size ≤ b120 := Nat.le_trans K115.1 (Nat.le_of_eq g120.symm)
            have K120 := K115.ext E120
            have hk := Nat.le_trans hk E120.1
            have E_b120 : Exa Z h120 b120 "java/lang/String" := A120
            have F_b120_coder : Fld Z h120 b120 "java/lang/String" "coder" "B" (.int (0 : Int32)) := D120 (Or.inr (own_w hw 31 rfl)) (ty := .byte) (by decide)
            have F_b120_value : Fld Z h120 b120 "java/lang/String" "value" "[B" .null := D120 (Or.inr (own_w hw 33 rfl)) (ty := (.array .byte)) (by decide)
            refine g_dup X120 hx 261 (hb hby at_260) rfl rfl ?_
            refine g_aload X120 hx 263 (hb hby at_261) rfl rfl rfl ?_
            refine g_callI X120 hx 266 hZ rfl hown (own_w hw 8 rfl) (own_w hw 9 rfl) (own_w hw 7 rfl) (own_w hw 10 rfl) (by decide) b120 [(.ref wd)] [(.ref b120)] (rs11_init1 l Z a0 hw b120 wd cs (105 : Int32) (115 : Int32) (69 : Int32) (120 : Int32) (104 : Int32) (97 : Int32) (117 : Int32) (115 : Int32) ch (101 : Int32) (100 : Int32) kw _ _ h120 n0 Z120 G_b120 (own_sta_keep S_cs K120) hcs E_b120 F_b120_value F_b120_coder V_wd (by decide) (by decide) (by decide) (by decide) (by decide) (by decide) (by decide) (by decide) hbd (by decide) (by decide)) e120 1 (by decide) (by decide) (by decide) (by decide) (by rw [hml]; rfl) (lenOf own_pd11 rfl) (hb hby at_263) rfl (Nat.le_of_eq rfl) rfl (fun v121 T121 L121 X121 hQ121 => ?_)
            obtain ⟨rfl, N121q, K121, t, kT, hst, E_a, G_a, C_a, V_t⟩ := hQ121
            have N121 := Fr.app N115 N121q
            have KK121 := K120.trans K121 (allS (Or.inr SZ_b120) all0)
            have Z121 := Nat.le_trans Z120 K121.1
            have hk := Nat.le_trans hk K121.1
            refine g_astore X121 hx 268 #[.val (.long xa), .second, .val (.long xb), .second, .val (.int xm), .val (.int (xm &&& (3 : Int32))), .val (.ref wd), .val (.ref b120), .unset, .val (.int (8 : Int32)), .val (.int ch), .val (.int (116 : Int32))] (hb hby at_266) rfl rfl rfl ?_
            refine g_iload X121 hx 270 (hb hby at_268) rfl rfl ?_
            refine g_iload X121 hx 272 (hb hby at_270) rfl rfl ?_
            by_cases hc122 : ch = (116 : Int32)
            · refine g_icF X121 hx 275 (hb hby at_272) (teq hc122).2 rfl ?_
              refine g_iconst X121 hx 276 (1 : Int32) (hb hby at_275) (by decide) rfl ?_
              refine g_goto X121 hx 280 (hb hby at_276) (by decide) (by decide) ?_
              refine g_istore X121 hx 282 #[.val (.long xa), .second, .val (.long xb), .second, .val (.int xm), .val (.int (xm &&& (3 : Int32))), .val (.ref wd), .val (.ref b120), .val (.int (1 : Int32)), .val (.int (8 : Int32)), .val (.int ch), .val (.int (116 : Int32))] (hb hby at_280) rfl rfl ?_
              refine g_goto X121 hx 454 (hb hby at_282) (by decide) (by decide) ?_
              refine g_aload X121 hx 456 (hb hby at_454) rfl rfl rfl ?_
              refine g_callSW X121 hx 459 hZ hI hown (own_w hw 34 rfl) (own_w hw 35 rfl) (own_w hw 36 rfl) (own_w hw 37 rfl) (by decide) [(.ref b120)] [] (ruvE1 l Z a0 hw b120 f cs t _ _ _ _ _ _ _ _ _ _ _ kT T121.heap n0 Z121 (own_sta_keep S_cs KK121) hcs (own_sta_keep S_f KK121) (fun b cl q => KK121.2.1 b cl (hkp b cl q) nin0) hld hcw E_a C_a G_a V_t (by rw [hc122]; decide)) rfl 0 (by decide) (by decide) (by decide) (by decide) (by rw [hml]; rfl) (lenOf own_pd12 rfl) (hb hby at_456) rfl hS hk (Nat.le_of_eq rfl) rfl (fun v123 T123 L123 X123 hS hZ hown hQ123 => ?_)
              have hk := Nat.le_refl T123.heap.size
              obtain ⟨rfl, N123q, K123⟩ := hQ123
              have N123 := Fr.app N121 N123q
              have KK123 := KK121.trans K123 all0
              refine g_astore X123 hx 461 #[.val (.long xa), .second, .val (.long xb), .second, .val (.int xm), .val (.int (xm &&& (3 : Int32))), .val (.ref wd), .val (.ref b120), .val (.int (1 : Int32)), .val (.ref f), .val (.int ch), .val (.int (116 : Int32))] (hb hby at_459) rfl rfl rfl ?_
              refine g_iload X123 hx 463 (hb hby at_461) rfl rfl ?_
              refine g_ifF X123 hx 466 (hb hby at_463) (by decide) rfl ?_
              refine g_aload X123 hx 468 (hb hby at_466) rfl rfl rfl ?_
              refine g_getS X123 hx 471 hZ hown (host := "") (Or.inl (own_w hw 53 rfl)) Via.refl rfl (own_sta_keep S_f KK123) (hb hby at_468) rfl (fun T124 X124 e124 => ?_)
              refine g_ac X124 hx 474 true (hb hby at_471) rfl rfl (decide_eq_true rfl) (by decide) (by decide) ?_
              refine g_iconst X124 hx 475 (1 : Int32) (hb hby at_474) (by decide) rfl ?_
              refine g_goto X124 hx 479 (hb hby at_475) (by decide) (by decide) ?_
              exact g_retZW X124 hx hret hlk rfl (hb hby at_479) hS (Eq.subst (motive := fun z : Heap => _ ≤ z.size) (Eq.symm e124) hk) (by decide) (by decide) ⟨rfl, N123⟩
            · refine g_icT X121 hx 279 (hb hby at_272) (feq hc122).2 (by decide) (by decide) ?_
              refine g_iconst X121 hx 280 (0 : Int32) (hb hby at_279) (by decide) rfl ?_
              refine g_istore X121 hx 282 #[.val (.long xa), .second, .val (.long xb), .second, .val (.int xm), .val (.int (xm &&& (3 : Int32))), .val (.ref wd), .val (.ref b120), .val (.int (0 : Int32)), .val (.int (8 : Int32)), .val (.int ch), .val (.int (116 : Int32))] (hb hby at_280) rfl rfl ?_
              refine g_goto X121 hx 454 (hb hby at_282) (by decide) (by decide) ?_
              refine g_aload X121 hx 456 (hb hby at_454) rfl rfl rfl ?_
              refine g_callSW X121 hx 459 hZ hI hown (own_w hw 34 rfl) (own_w hw 35 rfl) (own_w hw 36 rfl) (own_w hw 37 rfl) (by decide) [(.ref b120)] [] (ruvE0 l Z a0 hw b120 f cs t _ _ _ _ _ _ _ _ _ _ _ kT T121.heap n0 Z121 (own_sta_keep S_cs KK121) hcs (own_sta_keep S_f KK121) (fun b cl q => KK121.2.1 b cl (hkp b cl q) nin0) hld hcw E_a C_a G_a V_t (own_isw0 _ _ _ _ _ _ _ _ _ _ _ (fun q => hc122 ((own_bt_eq ch (116 : Int32) hn hbd (by decide) (by decide)).mp q.2.2.2.2.2.2.2.2.1)))) rfl 0 (by decide) (by decide) (by decide) (by decide) (by rw [hml]; rfl) (lenOf own_pd12 rfl) (hb hby at_456) rfl hS hk (Nat.le_of_eq rfl) rfl (fun v125 T125 L125 X125 hS hZ hown hQ125 => ?_)
              have hk := Nat.le_refl T125.heap.size
              obtain ⟨rfl, N125q, K125⟩ := hQ125
              have N125 := Fr.app N121 N125q
              have KK125 := KK121.trans K125 all0
              refine g_astore X125 hx 461 #[.val (.long xa), .second, .val (.long xb), .second, .val (.int xm), .val (.int (xm &&& (3 : Int32))), .val (.ref wd), .val (.ref b120), .val (.int (0 : Int32)), .val .null, .val (.int ch), .val (.int (116 : Int32))] (hb hby at_459) rfl rfl rfl ?_
              refine g_iload X125 hx 463 (hb hby at_461) rfl rfl ?_
              refine g_ifT X125 hx 480 (hb hby at_463) (by decide) (by decide) (by decide) ?_
              refine g_aload X125 hx 482 (hb hby at_480) rfl rfl rfl ?_
              refine g_ifnonnullF X125 hx 485 (hb hby at_482) rfl ?_
              refine g_iconst X125 hx 486 (1 : Int32) (hb hby at_485) (by decide) rfl ?_
              refine g_goto X125 hx 490 (hb hby at_486) (by decide) (by decide) ?_
              exact g_retZW X125 hx hret hlk rfl (hb hby at_490) hS (Eq.subst (motive := fun z : Heap => _ ≤ z.size) (Eq.symm rfl) hk) (by decide) (by decide) ⟨rfl, N125⟩
        · show Go p e below _ _ T1 (mkF m 243 #[.val (.long xa), .second, .val (.long xb), .second, .val (.int xm), .val (.int (xm &&& (3 : Int32))), .val (.ref wd), .unset, .unset, .val (.int (9 : Int32)), .val (.int ch), .unset] [])
          refine g_aload X1 hx 245 (hb hby at_243) rfl rfl rfl ?_
          refine g_iload X1 hx 247 (hb hby at_245) rfl rfl ?_
          refine g_caload X1 hx 248 hZ rfl V_wd ⟨by decide, by decide⟩ (show _ = (.int (101 : Int32)) from rfl) (hb hby at_247) rfl ?_
          refine g_istore X1 hx 250 #[.val (.long xa), .second, .val (.long xb), .second, .val (.int xm), .val (.int (xm &&& (3 : Int32))), .val (.ref wd), .unset, .unset, .val (.int (9 : Int32)), .val (.int ch), .val (.int (101 : Int32))] (hb hby at_248) rfl rfl ?_
          refine g_aload X1 hx 252 (hb hby at_250) rfl rfl rfl ?_
          refine g_iload X1 hx 254 (hb hby at_252) rfl rfl ?_
          refine g_iload X1 hx 256 (hb hby at_254) rfl rfl ?_
          refine g_castore X1 hx 257 hZ rfl V_wd 9 (by decide) ⟨by decide, by decide⟩ (Nat.le_of_ble_eq_true rfl) (hb hby at_256) rfl (fun T126 h126 X126 e126 W126 V126 => ?_)
          have V_wd : Arv Z h126 wd kw .char (11 : Int32) [(.int (105 : Int32)), (.int (115 : Int32)), (.int (69 : Int32)), (.int (120 : Int32)), (.int (104 : Int32)), (.int (97 : Int32)), (.int (117 : Int32)), (.int (115 : Int32)), (.int (116 : Int32)), (.int (nar .char ch)), (.int (100 : Int32))] (.int (0 : Int32)) := V126
          have N126 := Fr.snoc X126 N1 g_wd
          have Z126 : n0 ≤ h126.size := by rw [W126.size]; exact Z1
          have hk := Nat.le_trans hk (Nat.le_of_eq W126.size.symm)
          have K126 := K1.wr W126 (Or.inr SZ_wd)
          rw [hn] at V_wd
          rcases Decidable.em ((255 : Int32) < ch) with hbd | hbd
          · have hlt : (255 : Int32) < ch := hbd
            refine g_new X126 hx 260 hZ hown (own_w hw 5 rfl) (own_w hw 6 rfl) (own_w hw 7 rfl) e126 (hb hby at_257) (by decide) (by decide) rfl (fun T127 h127 b127 g127 X127 e127 E127 A127 D127 => ?_)
            have ne_wd_b127 : wd ≠ b127 := Nat.ne_of_lt (Nat.lt_of_lt_of_le V_wd.lt (Nat.le_of_eq g127.symm))
            have V_wd := V_wd.ext E127
            have G_b127 : n0 ≤ b127 := Nat.le_trans Z126 (Nat.le_of_eq g127.symm)
            have Z127 : n0 ≤ h127.size := Nat.le_trans Z126 E127.1
            have SZ_b127 : h0.size ≤ b127 := Nat.le_trans K126.1 (Nat.le_of_eq g127.symm)
            have K127 := K126.ext E127
            have hk := Nat.le_trans hk E127.1
            have E_b127 : Exa Z h127 b127 "java/lang/String" := A127
            have F_b127_coder : Fld Z h127 b127 "java/lang/String" "coder" "B" (.int (0 : Int32)) := D127 (Or.inr (own_w hw 31 rfl)) (ty := .byte) (by decide)
            have F_b127_value : Fld Z h127 b127 "java/lang/String" "value" "[B" .null := D127 (Or.inr (own_w hw 33 rfl)) (ty := (.array .byte)) (by decide)
            refine g_dup X127 hx 261 (hb hby at_260) rfl rfl ?_
            refine g_aload X127 hx 263 (hb hby at_261) rfl rfl rfl ?_
            refine g_callI X127 hx 266 hZ rfl hown (own_w hw 8 rfl) (own_w hw 9 rfl) (own_w hw 7 rfl) (own_w hw 10 rfl) (by decide) b127 [(.ref wd)] [(.ref b127)] (ru11_init1 l Z a0 hw b127 wd cs (105 : Int32) (115 : Int32) (69 : Int32) (120 : Int32) (104 : Int32) (97 : Int32) (117 : Int32) (115 : Int32) (116 : Int32) ch (100 : Int32) (9 : Int32) ch 18 19 kw _ _ h127 n0 Z127 G_b127 (own_sta_keep S_cs K127) hcs (own_sta_keep S_ad K127) (own_sta_keep S_hi K127) (own_sta_keep S_lo K127) E_b127 F_b127_value F_b127_coder V_wd ⟨by unfold own_fst11; exact ((if_neg (by decide)).trans ((if_neg (by decide)).trans ((if_neg (by decide)).trans ((if_neg (by decide)).trans ((if_neg (by decide)).trans ((if_neg (by decide)).trans ((if_neg (by decide)).trans ((if_neg (by decide)).trans ((if_neg (by decide)).trans (if_pos hbd)))))))))), by decide, by decide, rfl, rfl, hbd, hn⟩) e127 1 (by decide) (by decide) (by decide) (by decide) (by rw [hml]; rfl) (lenOf own_pd11 rfl) (hb hby at_263) rfl (Nat.le_of_eq rfl) rfl (fun v128 T128 L128 X128 hQ128 => ?_)
            obtain ⟨rfl, N128q, K128, E_a, C_a⟩ := hQ128
            have N128 := Fr.app N126 N128q
            have KK128 := K127.trans K128 (allS (Or.inr SZ_b127) all0)
            have Z128 := Nat.le_trans Z127 K128.1
            have hk := Nat.le_trans hk K128.1
            refine g_astore X128 hx 268 #[.val (.long xa), .second, .val (.long xb), .second, .val (.int xm), .val (.int (xm &&& (3 : Int32))), .val (.ref wd), .val (.ref b127), .unset, .val (.int (9 : Int32)), .val (.int ch), .val (.int (101 : Int32))] (hb hby at_266) rfl rfl rfl ?_
            refine g_iload X128 hx 270 (hb hby at_268) rfl rfl ?_
            refine g_iload X128 hx 272 (hb hby at_270) rfl rfl ?_
            have hk129 : ¬ (ch = (101 : Int32)) := fun q => absurd hbd (by rw [q]; decide)
            refine g_icT X128 hx 279 (hb hby at_272) (feq hk129).2 (by decide) (by decide) ?_
            refine g_iconst X128 hx 280 (0 : Int32) (hb hby at_279) (by decide) rfl ?_
            refine g_istore X128 hx 282 #[.val (.long xa), .second, .val (.long xb), .second, .val (.int xm), .val (.int (xm &&& (3 : Int32))), .val (.ref wd), .val (.ref b127), .val (.int (0 : Int32)), .val (.int (9 : Int32)), .val (.int ch), .val (.int (101 : Int32))] (hb hby at_280) rfl rfl ?_
            refine g_goto X128 hx 454 (hb hby at_282) (by decide) (by decide) ?_
            refine g_aload X128 hx 456 (hb hby at_454) rfl rfl rfl ?_
            refine g_callSW X128 hx 459 hZ hI hown (own_w hw 34 rfl) (own_w hw 35 rfl) (own_w hw 36 rfl) (own_w hw 37 rfl) (by decide) [(.ref b127)] [] (ruvU l Z a0 hw b127 f cs T128.heap n0 Z128 (own_sta_keep S_cs KK128) hcs (own_sta_keep S_f KK128) (fun b cl q => KK128.2.1 b cl (hkp b cl q) nin0) hld hcw E_a C_a) rfl 0 (by decide) (by decide) (by decide) (by decide) (by rw [hml]; rfl) (lenOf own_pd12 rfl) (hb hby at_456) rfl hS hk (Nat.le_of_eq rfl) rfl (fun v130 T130 L130 X130 hS hZ hown hQ130 => ?_)
            have hk := Nat.le_refl T130.heap.size
            obtain ⟨rfl, N130q, K130⟩ := hQ130
            have N130 := Fr.app N128 N130q
            have KK130 := KK128.trans K130 all0
            refine g_astore X130 hx 461 #[.val (.long xa), .second, .val (.long xb), .second, .val (.int xm), .val (.int (xm &&& (3 : Int32))), .val (.ref wd), .val (.ref b127), .val (.int (0 : Int32)), .val .null, .val (.int ch), .val (.int (101 : Int32))] (hb hby at_459) rfl rfl rfl ?_
            refine g_iload X130 hx 463 (hb hby at_461) rfl rfl ?_
            refine g_ifT X130 hx 480 (hb hby at_463) (by decide) (by decide) (by decide) ?_
            refine g_aload X130 hx 482 (hb hby at_480) rfl rfl rfl ?_
            refine g_ifnonnullF X130 hx 485 (hb hby at_482) rfl ?_
            refine g_iconst X130 hx 486 (1 : Int32) (hb hby at_485) (by decide) rfl ?_
            refine g_goto X130 hx 490 (hb hby at_486) (by decide) (by decide) ?_
            exact g_retZW X130 hx hret hlk rfl (hb hby at_490) hS (Eq.subst (motive := fun z : Heap => _ ≤ z.size) (Eq.symm rfl) hk) (by decide) (by decide) ⟨rfl, N130⟩
          · have hlt : ¬ (255 : Int32) < ch := hbd
            refine g_new X126 hx 260 hZ hown (own_w hw 5 rfl) (own_w hw 6 rfl) (own_w hw 7 rfl) e126 (hb hby at_257) (by decide) (by decide) rfl (fun T131 h131 b131 g131 X131 e131 E131 A131 D131 => ?_)
            have ne_wd_b131 : wd ≠ b131 := Nat.ne_of_lt (Nat.lt_of_lt_of_le V_wd.lt (Nat.le_of_eq g131.symm))
            have V_wd := V_wd.ext E131
            have G_b131 : n0 ≤ b131 := Nat.le_trans Z126 (Nat.le_of_eq g131.symm)
            have Z131 : n0 ≤ h131.size := Nat.le_trans Z126 E131.1
            have SZ_b131 : h0.size ≤ b131 := Nat.le_trans K126.1 (Nat.le_of_eq g131.symm)
            have K131 := K126.ext E131
            have hk := Nat.le_trans hk E131.1
            have E_b131 : Exa Z h131 b131 "java/lang/String" := A131
            have F_b131_coder : Fld Z h131 b131 "java/lang/String" "coder" "B" (.int (0 : Int32)) := D131 (Or.inr (own_w hw 31 rfl)) (ty := .byte) (by decide)
            have F_b131_value : Fld Z h131 b131 "java/lang/String" "value" "[B" .null := D131 (Or.inr (own_w hw 33 rfl)) (ty := (.array .byte)) (by decide)
            refine g_dup X131 hx 261 (hb hby at_260) rfl rfl ?_
            refine g_aload X131 hx 263 (hb hby at_261) rfl rfl rfl ?_
            refine g_callI X131 hx 266 hZ rfl hown (own_w hw 8 rfl) (own_w hw 9 rfl) (own_w hw 7 rfl) (own_w hw 10 rfl) (by decide) b131 [(.ref wd)] [(.ref b131)] (rs11_init1 l Z a0 hw b131 wd cs (105 : Int32) (115 : Int32) (69 : Int32) (120 : Int32) (104 : Int32) (97 : Int32) (117 : Int32) (115 : Int32) (116 : Int32) ch (100 : Int32) kw _ _ h131 n0 Z131 G_b131 (own_sta_keep S_cs K131) hcs E_b131 F_b131_value F_b131_coder V_wd (by decide) (by decide) (by decide) (by decide) (by decide) (by decide) (by decide) (by decide) (by decide) hbd (by decide)) e131 1 (by decide) (by decide) (by decide) (by decide) (by rw [hml]; rfl) (lenOf own_pd11 rfl) (hb hby at_263) rfl (Nat.le_of_eq rfl) rfl (fun v132 T132 L132 X132 hQ132 => ?_)
            obtain ⟨rfl, N132q, K132, t, kT, hst, E_a, G_a, C_a, V_t⟩ := hQ132
            have N132 := Fr.app N126 N132q
            have KK132 := K131.trans K132 (allS (Or.inr SZ_b131) all0)
            have Z132 := Nat.le_trans Z131 K132.1
            have hk := Nat.le_trans hk K132.1
            refine g_astore X132 hx 268 #[.val (.long xa), .second, .val (.long xb), .second, .val (.int xm), .val (.int (xm &&& (3 : Int32))), .val (.ref wd), .val (.ref b131), .unset, .val (.int (9 : Int32)), .val (.int ch), .val (.int (101 : Int32))] (hb hby at_266) rfl rfl rfl ?_
            refine g_iload X132 hx 270 (hb hby at_268) rfl rfl ?_
            refine g_iload X132 hx 272 (hb hby at_270) rfl rfl ?_
            by_cases hc133 : ch = (101 : Int32)
            · refine g_icF X132 hx 275 (hb hby at_272) (teq hc133).2 rfl ?_
              refine g_iconst X132 hx 276 (1 : Int32) (hb hby at_275) (by decide) rfl ?_
              refine g_goto X132 hx 280 (hb hby at_276) (by decide) (by decide) ?_
              refine g_istore X132 hx 282 #[.val (.long xa), .second, .val (.long xb), .second, .val (.int xm), .val (.int (xm &&& (3 : Int32))), .val (.ref wd), .val (.ref b131), .val (.int (1 : Int32)), .val (.int (9 : Int32)), .val (.int ch), .val (.int (101 : Int32))] (hb hby at_280) rfl rfl ?_
              refine g_goto X132 hx 454 (hb hby at_282) (by decide) (by decide) ?_
              refine g_aload X132 hx 456 (hb hby at_454) rfl rfl rfl ?_
              refine g_callSW X132 hx 459 hZ hI hown (own_w hw 34 rfl) (own_w hw 35 rfl) (own_w hw 36 rfl) (own_w hw 37 rfl) (by decide) [(.ref b131)] [] (ruvE1 l Z a0 hw b131 f cs t _ _ _ _ _ _ _ _ _ _ _ kT T132.heap n0 Z132 (own_sta_keep S_cs KK132) hcs (own_sta_keep S_f KK132) (fun b cl q => KK132.2.1 b cl (hkp b cl q) nin0) hld hcw E_a C_a G_a V_t (by rw [hc133]; decide)) rfl 0 (by decide) (by decide) (by decide) (by decide) (by rw [hml]; rfl) (lenOf own_pd12 rfl) (hb hby at_456) rfl hS hk (Nat.le_of_eq rfl) rfl (fun v134 T134 L134 X134 hS hZ hown hQ134 => ?_)
              have hk := Nat.le_refl T134.heap.size
              obtain ⟨rfl, N134q, K134⟩ := hQ134
              have N134 := Fr.app N132 N134q
              have KK134 := KK132.trans K134 all0
              refine g_astore X134 hx 461 #[.val (.long xa), .second, .val (.long xb), .second, .val (.int xm), .val (.int (xm &&& (3 : Int32))), .val (.ref wd), .val (.ref b131), .val (.int (1 : Int32)), .val (.ref f), .val (.int ch), .val (.int (101 : Int32))] (hb hby at_459) rfl rfl rfl ?_
              refine g_iload X134 hx 463 (hb hby at_461) rfl rfl ?_
              refine g_ifF X134 hx 466 (hb hby at_463) (by decide) rfl ?_
              refine g_aload X134 hx 468 (hb hby at_466) rfl rfl rfl ?_
              refine g_getS X134 hx 471 hZ hown (host := "") (Or.inl (own_w hw 53 rfl)) Via.refl rfl (own_sta_keep S_f KK134) (hb hby at_468) rfl (fun T135 X135 e135 => ?_)
              refine g_ac X135 hx 474 true (hb hby at_471) rfl rfl (decide_eq_true rfl) (by decide) (by decide) ?_
              refine g_iconst X135 hx 475 (1 : Int32) (hb hby at_474) (by decide) rfl ?_
              refine g_goto X135 hx 479 (hb hby at_475) (by decide) (by decide) ?_
              exact g_retZW X135 hx hret hlk rfl (hb hby at_479) hS (Eq.subst (motive := fun z : Heap => _ ≤ z.size) (Eq.symm e135) hk) (by decide) (by decide) ⟨rfl, N134⟩
            · refine g_icT X132 hx 279 (hb hby at_272) (feq hc133).2 (by decide) (by decide) ?_
              refine g_iconst X132 hx 280 (0 : Int32) (hb hby at_279) (by decide) rfl ?_
              refine g_istore X132 hx 282 #[.val (.long xa), .second, .val (.long xb), .second, .val (.int xm), .val (.int (xm &&& (3 : Int32))), .val (.ref wd), .val (.ref b131), .val (.int (0 : Int32)), .val (.int (9 : Int32)), .val (.int ch), .val (.int (101 : Int32))] (hb hby at_280) rfl rfl ?_
              refine g_goto X132 hx 454 (hb hby at_282) (by decide) (by decide) ?_
              refine g_aload X132 hx 456 (hb hby at_454) rfl rfl rfl ?_
              refine g_callSW X132 hx 459 hZ hI hown (own_w hw 34 rfl) (own_w hw 35 rfl) (own_w hw 36 rfl) (own_w hw 37 rfl) (by decide) [(.ref b131)] [] (ruvE0 l Z a0 hw b131 f cs t _ _ _ _ _ _ _ _ _ _ _ kT T132.heap n0 Z132 (own_sta_keep S_cs KK132) hcs (own_sta_keep S_f KK132) (fun b cl q => KK132.2.1 b cl (hkp b cl q) nin0) hld hcw E_a C_a G_a V_t (own_isw0 _ _ _ _ _ _ _ _ _ _ _ (fun q => hc133 ((own_bt_eq ch (101 : Int32) hn hbd (by decide) (by decide)).mp q.2.2.2.2.2.2.2.2.2.1)))) rfl 0 (by decide) (by decide) (by decide) (by decide) (by rw [hml]; rfl) (lenOf own_pd12 rfl) (hb hby at_456) rfl hS hk (Nat.le_of_eq rfl) rfl (fun v136 T136 L136 X136 hS hZ hown hQ136 => ?_)
              have hk := Nat.le_refl T136.heap.size
              obtain ⟨rfl, N136q, K136⟩ := hQ136
              have N136 := Fr.app N132 N136q
              have KK136 := KK132.trans K136 all0
              refine g_astore X136 hx 461 #[.val (.long xa), .second, .val (.long xb), .second, .val (.int xm), .val (.int (xm &&& (3 : Int32))), .val (.ref wd), .val (.ref b131), .val (.int (0 : Int32)), .val .null, .val (.int ch), .val (.int (101 : Int32))] (hb hby at_459) rfl rfl rfl ?_
              refine g_iload X136 hx 463 (hb hby at_461) rfl rfl ?_
              refine g_ifT X136 hx 480 (hb hby at_463) (by decide) (by decide) (by decide) ?_
              refine g_aload X136 hx 482 (hb hby at_480) rfl rfl rfl ?_
              refine g_ifnonnullF X136 hx 485 (hb hby at_482) rfl ?_
              refine g_iconst X136 hx 486 (1 : Int32) (hb hby at_485) (by decide) rfl ?_
              refine g_goto X136 hx 490 (hb hby at_486) (by decide) (by decide) ?_
              exact g_retZW X136 hx hret hlk rfl (hb hby at_490) hS (Eq.subst (motive := fun z : Heap => _ ≤ z.size) (Eq.symm rfl) hk) (by decide) (by decide) ⟨rfl, N136⟩
        · show Go p e below _ _ T1 (mkF m 243 #[.val (.long xa), .second, .val (.long xb), .second, .val (.int xm), .val (.int (xm &&& (3 : Int32))), .val (.ref wd), .unset, .unset, .val (.int (10 : Int32)), .val (.int ch), .unset] [])
          refine g_aload X1 hx 245 (hb hby at_243) rfl rfl rfl ?_
          refine g_iload X1 hx 247 (hb hby at_245) rfl rfl ?_
          refine g_caload X1 hx 248 hZ rfl V_wd ⟨by decide, by decide⟩ (show _ = (.int (100 : Int32)) from rfl) (hb hby at_247) rfl ?_
          refine g_istore X1 hx 250 #[.val (.long xa), .second, .val (.long xb), .second, .val (.int xm), .val (.int (xm &&& (3 : Int32))), .val (.ref wd), .unset, .unset, .val (.int (10 : Int32)), .val (.int ch), .val (.int (100 : Int32))] (hb hby at_248) rfl rfl ?_
          refine g_aload X1 hx 252 (hb hby at_250) rfl rfl rfl ?_
          refine g_iload X1 hx 254 (hb hby at_252) rfl rfl ?_
          refine g_iload X1 hx 256 (hb hby at_254) rfl rfl ?_
          refine g_castore X1 hx 257 hZ rfl V_wd 10 (by decide) ⟨by decide, by decide⟩ (Nat.le_of_ble_eq_true rfl) (hb hby at_256) rfl (fun T137 h137 X137 e137 W137 V137 => ?_)
          have V_wd : Arv Z h137 wd kw .char (11 : Int32) [(.int (105 : Int32)), (.int (115 : Int32)), (.int (69 : Int32)), (.int (120 : Int32)), (.int (104 : Int32)), (.int (97 : Int32)), (.int (117 : Int32)), (.int (115 : Int32)), (.int (116 : Int32)), (.int (101 : Int32)), (.int (nar .char ch))] (.int (0 : Int32)) := V137
          have N137 := Fr.snoc X137 N1 g_wd
          have Z137 : n0 ≤ h137.size := by rw [W137.size]; exact Z1
          have hk := Nat.le_trans hk (Nat.le_of_eq W137.size.symm)
          have K137 := K1.wr W137 (Or.inr SZ_wd)
          rw [hn] at V_wd
          rcases Decidable.em ((255 : Int32) < ch) with hbd | hbd
          · have hlt : (255 : Int32) < ch := hbd
            refine g_new X137 hx 260 hZ hown (own_w hw 5 rfl) (own_w hw 6 rfl) (own_w hw 7 rfl) e137 (hb hby at_257) (by decide) (by decide) rfl (fun T138 h138 b138 g138 X138 e138 E138 A138 D138 => ?_)
            have ne_wd_b138 : wd ≠ b138 := Nat.ne_of_lt (Nat.lt_of_lt_of_le V_wd.lt (Nat.le_of_eq g138.symm))
            have V_wd := V_wd.ext E138
            have G_b138 : n0 ≤ b138 := Nat.le_trans Z137 (Nat.le_of_eq g138.symm)
            have Z138 : n0 ≤ h138.size := Nat.le_trans Z137 E138.1
            have SZ_b138 : h0.size ≤ b138 := Nat.le_trans K137.1 (Nat.le_of_eq g138.symm)
            have K138 := K137.ext E138
            have hk := Nat.le_trans hk E138.1
            have E_b138 : Exa Z h138 b138 "java/lang/String" := A138
            have F_b138_coder : Fld Z h138 b138 "java/lang/String" "coder" "B" (.int (0 : Int32)) := D138 (Or.inr (own_w hw 31 rfl)) (ty := .byte) (by decide)
            have F_b138_value : Fld Z h138 b138 "java/lang/String" "value" "[B" .null := D138 (Or.inr (own_w hw 33 rfl)) (ty := (.array .byte)) (by decide)
            refine g_dup X138 hx 261 (hb hby at_260) rfl rfl ?_
            refine g_aload X138 hx 263 (hb hby at_261) rfl rfl rfl ?_
            refine g_callI X138 hx 266 hZ rfl hown (own_w hw 8 rfl) (own_w hw 9 rfl) (own_w hw 7 rfl) (own_w hw 10 rfl) (by decide) b138 [(.ref wd)] [(.ref b138)] (ru11_init1 l Z a0 hw b138 wd cs (105 : Int32) (115 : Int32) (69 : Int32) (120 : Int32) (104 : Int32) (97 : Int32) (117 : Int32) (115 : Int32) (116 : Int32) (101 : Int32) ch (10 : Int32) ch 20 21 kw _ _ h138 n0 Z138 G_b138 (own_sta_keep S_cs K138) hcs (own_sta_keep S_ad K138) (own_sta_keep S_hi K138) (own_sta_keep S_lo K138) E_b138 F_b138_value F_b138_coder V_wd ⟨by unfold own_fst11; exact ((if_neg (by decide)).trans ((if_neg (by decide)).trans ((if_neg (by decide)).trans ((if_neg (by decide)).trans ((if_neg (by decide)).trans ((if_neg (by decide)).trans ((if_neg (by decide)).trans ((if_neg (by decide)).trans ((if_neg (by decide)).trans ((if_neg (by decide)).trans (if_pos hbd))))))))))), by decide, by decide, rfl, rfl, hbd, hn⟩) e138 1 (by decide) (by decide) (by decide) (by decide) (by rw [hml]; rfl) (lenOf own_pd11 rfl) (hb hby at_263) rfl (Nat.le_of_eq rfl) rfl (fun v139 T139 L139 X139 hQ139 => ?_)
            obtain ⟨rfl, N139q, K139, E_a, C_a⟩ := hQ139
            have N139 := Fr.app N137 N139q
            have KK139 := K138.trans K139 (allS (Or.inr SZ_b138) all0)
            have Z139 := Nat.le_trans Z138 K139.1
            have hk := Nat.le_trans hk K139.1
            refine g_astore X139 hx 268 #[.val (.long xa), .second, .val (.long xb), .second, .val (.int xm), .val (.int (xm &&& (3 : Int32))), .val (.ref wd), .val (.ref b138), .unset, .val (.int (10 : Int32)), .val (.int ch), .val (.int (100 : Int32))] (hb hby at_266) rfl rfl rfl ?_
            refine g_iload X139 hx 270 (hb hby at_268) rfl rfl ?_
            refine g_iload X139 hx 272 (hb hby at_270) rfl rfl ?_
            have hk140 : ¬ (ch = (100 : Int32)) := fun q => absurd hbd (by rw [q]; decide)
            refine g_icT X139 hx 279 (hb hby at_272) (feq hk140).2 (by decide) (by decide) ?_
            refine g_iconst X139 hx 280 (0 : Int32) (hb hby at_279) (by decide) rfl ?_
            refine g_istore X139 hx 282 #[.val (.long xa), .second, .val (.long xb), .second, .val (.int xm), .val (.int (xm &&& (3 : Int32))), .val (.ref wd), .val (.ref b138), .val (.int (0 : Int32)), .val (.int (10 : Int32)), .val (.int ch), .val (.int (100 : Int32))] (hb hby at_280) rfl rfl ?_
            refine g_goto X139 hx 454 (hb hby at_282) (by decide) (by decide) ?_
            refine g_aload X139 hx 456 (hb hby at_454) rfl rfl rfl ?_
            refine g_callSW X139 hx 459 hZ hI hown (own_w hw 34 rfl) (own_w hw 35 rfl) (own_w hw 36 rfl) (own_w hw 37 rfl) (by decide) [(.ref b138)] [] (ruvU l Z a0 hw b138 f cs T139.heap n0 Z139 (own_sta_keep S_cs KK139) hcs (own_sta_keep S_f KK139) (fun b cl q => KK139.2.1 b cl (hkp b cl q) nin0) hld hcw E_a C_a) rfl 0 (by decide) (by decide) (by decide) (by decide) (by rw [hml]; rfl) (lenOf own_pd12 rfl) (hb hby at_456) rfl hS hk (Nat.le_of_eq rfl) rfl (fun v141 T141 L141 X141 hS hZ hown hQ141 => ?_)
            have hk := Nat.le_refl T141.heap.size
            obtain ⟨rfl, N141q, K141⟩ := hQ141
            have N141 := Fr.app N139 N141q
            have KK141 := KK139.trans K141 all0
            refine g_astore X141 hx 461 #[.val (.long xa), .second, .val (.long xb), .second, .val (.int xm), .val (.int (xm &&& (3 : Int32))), .val (.ref wd), .val (.ref b138), .val (.int (0 : Int32)), .val .null, .val (.int ch), .val (.int (100 : Int32))] (hb hby at_459) rfl rfl rfl ?_
            refine g_iload X141 hx 463 (hb hby at_461) rfl rfl ?_
            refine g_ifT X141 hx 480 (hb hby at_463) (by decide) (by decide) (by decide) ?_
            refine g_aload X141 hx 482 (hb hby at_480) rfl rfl rfl ?_
            refine g_ifnonnullF X141 hx 485 (hb hby at_482) rfl ?_
            refine g_iconst X141 hx 486 (1 : Int32) (hb hby at_485) (by decide) rfl ?_
            refine g_goto X141 hx 490 (hb hby at_486) (by decide) (by decide) ?_
            exact g_retZW X141 hx hret hlk rfl (hb hby at_490) hS (Eq.subst (motive := fun z : Heap => _ ≤ z.size) (Eq.symm rfl) hk) (by decide) (by decide) ⟨rfl, N141⟩
          · have hlt : ¬ (255 : Int32) < ch := hbd
            refine g_new X137 hx 260 hZ hown (own_w hw 5 rfl) (own_w hw 6 rfl) (own_w hw 7 rfl) e137 (hb hby at_257) (by decide) (by decide) rfl (fun T142 h142 b142 g142 X142 e142 E142 A142 D142 => ?_)
            have ne_wd_b142 : wd ≠ b142 := Nat.ne_of_lt (Nat.lt_of_lt_of_le V_wd.lt (Nat.le_of_eq g142.symm))
            have V_wd := V_wd.ext E142
            have G_b142 : n0 ≤ b142 := Nat.le_trans Z137 (Nat.le_of_eq g142.symm)
            have Z142 : n0 ≤ h142.size := Nat.le_trans Z137 E142.1
            have SZ_b142 : h0.size ≤ b142 := Nat.le_trans K137.1 (Nat.le_of_eq g142.symm)
            have K142 := K137.ext E142
            have hk := Nat.le_trans hk E142.1
            have E_b142 : Exa Z h142 b142 "java/lang/String" := A142
            have F_b142_coder : Fld Z h142 b142 "java/lang/String" "coder" "B" (.int (0 : Int32)) := D142 (Or.inr (own_w hw 31 rfl)) (ty := .byte) (by decide)
            have F_b142_value : Fld Z h142 b142 "java/lang/String" "value" "[B" .null := D142 (Or.inr (own_w hw 33 rfl)) (ty := (.array .byte)) (by decide)
            refine g_dup X142 hx 261 (hb hby at_260) rfl rfl ?_
            refine g_aload X142 hx 263 (hb hby at_261) rfl rfl rfl ?_
            refine g_callI X142 hx 266 hZ rfl hown (own_w hw 8 rfl) (own_w hw 9 rfl) (own_w hw 7 rfl) (own_w hw 10 rfl) (by decide) b142 [(.ref wd)] [(.ref b142)] (rs11_init1 l Z a0 hw b142 wd cs (105 : Int32) (115 : Int32) (69 : Int32) (120 : Int32) (104 : Int32) (97 : Int32) (117 : Int32) (115 : Int32) (116 : Int32) (101 : Int32) ch kw _ _ h142 n0 Z142 G_b142 (own_sta_keep S_cs K142) hcs E_b142 F_b142_value F_b142_coder V_wd (by decide) (by decide) (by decide) (by decide) (by decide) (by decide) (by decide) (by decide) (by decide) (by decide) hbd) e142 1 (by decide) (by decide) (by decide) (by decide) (by rw [hml]; rfl) (lenOf own_pd11 rfl) (hb hby at_263) rfl (Nat.le_of_eq rfl) rfl (fun v143 T143 L143 X143 hQ143 => ?_)
            obtain ⟨rfl, N143q, K143, t, kT, hst, E_a, G_a, C_a, V_t⟩ := hQ143
            have N143 := Fr.app N137 N143q
            have KK143 := K142.trans K143 (allS (Or.inr SZ_b142) all0)
            have Z143 := Nat.le_trans Z142 K143.1
            have hk := Nat.le_trans hk K143.1
            refine g_astore X143 hx 268 #[.val (.long xa), .second, .val (.long xb), .second, .val (.int xm), .val (.int (xm &&& (3 : Int32))), .val (.ref wd), .val (.ref b142), .unset, .val (.int (10 : Int32)), .val (.int ch), .val (.int (100 : Int32))] (hb hby at_266) rfl rfl rfl ?_
            refine g_iload X143 hx 270 (hb hby at_268) rfl rfl ?_
            refine g_iload X143 hx 272 (hb hby at_270) rfl rfl ?_
            by_cases hc144 : ch = (100 : Int32)
            · refine g_icF X143 hx 275 (hb hby at_272) (teq hc144).2 rfl ?_
              refine g_iconst X143 hx 276 (1 : Int32) (hb hby at_275) (by decide) rfl ?_
              refine g_goto X143 hx 280 (hb hby at_276) (by decide) (by decide) ?_
              refine g_istore X143 hx 282 #[.val (.long xa), .second, .val (.long xb), .second, .val (.int xm), .val (.int (xm &&& (3 : Int32))), .val (.ref wd), .val (.ref b142), .val (.int (1 : Int32)), .val (.int (10 : Int32)), .val (.int ch), .val (.int (100 : Int32))] (hb hby at_280) rfl rfl ?_
              refine g_goto X143 hx 454 (hb hby at_282) (by decide) (by decide) ?_
              refine g_aload X143 hx 456 (hb hby at_454) rfl rfl rfl ?_
              refine g_callSW X143 hx 459 hZ hI hown (own_w hw 34 rfl) (own_w hw 35 rfl) (own_w hw 36 rfl) (own_w hw 37 rfl) (by decide) [(.ref b142)] [] (ruvE1 l Z a0 hw b142 f cs t _ _ _ _ _ _ _ _ _ _ _ kT T143.heap n0 Z143 (own_sta_keep S_cs KK143) hcs (own_sta_keep S_f KK143) (fun b cl q => KK143.2.1 b cl (hkp b cl q) nin0) hld hcw E_a C_a G_a V_t (by rw [hc144]; decide)) rfl 0 (by decide) (by decide) (by decide) (by decide) (by rw [hml]; rfl) (lenOf own_pd12 rfl) (hb hby at_456) rfl hS hk (Nat.le_of_eq rfl) rfl (fun v145 T145 L145 X145 hS hZ hown hQ145 => ?_)
              have hk := Nat.le_refl T145.heap.size
              obtain ⟨rfl, N145q, K145⟩ := hQ145
              have N145 := Fr.app N143 N145q
              have KK145 := KK143.trans K145 all0
              refine g_astore X145 hx 461 #[.val (.long xa), .second, .val (.long xb), .second, .val (.int xm), .val (.int (xm &&& (3 : Int32))), .val (.ref wd), .val (.ref b142), .val (.int (1 : Int32)), .val (.ref f), .val (.int ch), .val (.int (100 : Int32))] (hb hby at_459) rfl rfl rfl ?_
              refine g_iload X145 hx 463 (hb hby at_461) rfl rfl ?_
              refine g_ifF X145 hx 466 (hb hby at_463) (by decide) rfl ?_
              refine g_aload X145 hx 468 (hb hby at_466) rfl rfl rfl ?_
              refine g_getS X145 hx 471 hZ hown (host := "") (Or.inl (own_w hw 53 rfl)) Via.refl rfl (own_sta_keep S_f KK145) (hb hby at_468) rfl (fun T146 X146 e146 => ?_)
              refine g_ac X146 hx 474 true (hb hby at_471) rfl rfl (decide_eq_true rfl) (by decide) (by decide) ?_
              refine g_iconst X146 hx 475 (1 : Int32) (hb hby at_474) (by decide) rfl ?_
              refine g_goto X146 hx 479 (hb hby at_475) (by decide) (by decide) ?_
              exact g_retZW X146 hx hret hlk rfl (hb hby at_479) hS (Eq.subst (motive := fun z : Heap => _ ≤ z.size) (Eq.symm e146) hk) (by decide) (by decide) ⟨rfl, N145⟩
            · refine g_icT X143 hx 279 (hb hby at_272) (feq hc144).2 (by decide) (by decide) ?_
              refine g_iconst X143 hx 280 (0 : Int32) (hb hby at_279) (by decide) rfl ?_
              refine g_istore X143 hx 282 #[.val (.long xa), .second, .val (.long xb), .second, .val (.int xm), .val (.int (xm &&& (3 : Int32))), .val (.ref wd), .val (.ref b142), .val (.int (0 : Int32)), .val (.int (10 : Int32)), .val (.int ch), .val (.int (100 : Int32))] (hb hby at_280) rfl rfl ?_
              refine g_goto X143 hx 454 (hb hby at_282) (by decide) (by decide) ?_
              refine g_aload X143 hx 456 (hb hby at_454) rfl rfl rfl ?_
              refine g_callSW X143 hx 459 hZ hI hown (own_w hw 34 rfl) (own_w hw 35 rfl) (own_w hw 36 rfl) (own_w hw 37 rfl) (by decide) [(.ref b142)] [] (ruvE0 l Z a0 hw b142 f cs t _ _ _ _ _ _ _ _ _ _ _ kT T143.heap n0 Z143 (own_sta_keep S_cs KK143) hcs (own_sta_keep S_f KK143) (fun b cl q => KK143.2.1 b cl (hkp b cl q) nin0) hld hcw E_a C_a G_a V_t (own_isw0 _ _ _ _ _ _ _ _ _ _ _ (fun q => hc144 ((own_bt_eq ch (100 : Int32) hn hbd (by decide) (by decide)).mp q.2.2.2.2.2.2.2.2.2.2)))) rfl 0 (by decide) (by decide) (by decide) (by decide) (by rw [hml]; rfl) (lenOf own_pd12 rfl) (hb hby at_456) rfl hS hk (Nat.le_of_eq rfl) rfl (fun v147 T147 L147 X147 hS hZ hown hQ147 => ?_)
              have hk := Nat.le_refl T147.heap.size
              obtain ⟨rfl, N147q, K147⟩ := hQ147
              have N147 := Fr.app N143 N147q
              have KK147 := KK143.trans K147 all0
              refine g_astore X147 hx 461 #[.val (.long xa), .second, .val (.long xb), .second, .val (.int xm), .val (.int (xm &&& (3 : Int32))), .val (.ref wd), .val (.ref b142), .val (.int (0 : Int32)), .val .null, .val (.int ch), .val (.int (100 : Int32))] (hb hby at_459) rfl rfl rfl ?_
              refine g_iload X147 hx 463 (hb hby at_461) rfl rfl ?_
              refine g_ifT X147 hx 480 (hb hby at_463) (by decide) (by decide) (by decide) ?_
              refine g_aload X147 hx 482 (hb hby at_480) rfl rfl rfl ?_
              refine g_ifnonnullF X147 hx 485 (hb hby at_482) rfl ?_
              refine g_iconst X147 hx 486 (1 : Int32) (hb hby at_485) (by decide) rfl ?_
              refine g_goto X147 hx 490 (hb hby at_486) (by decide) (by decide) ?_
              exact g_retZW X147 hx hret hlk rfl (hb hby at_490) hS (Eq.subst (motive := fun z : Heap => _ ≤ z.size) (Eq.symm rfl) hk) (by decide) (by decide) ⟨rfl, N147⟩
      · refine g_icT X1 hx 285 (hb hby at_222) (feq hc26).2 (by decide) (by decide) ?_
        refine g_lloadN X1 hx 286 (hb hby at_285) rfl rfl ?_
        refine g_ldc2J X1 hx 289 hZ hown (own_w hw 54 rfl) (hb hby at_286) rfl ?_
        refine g_land X1 hx 290 (xa &&& (65535 : Int64)) (hb hby at_289) rfl rfl ?_
        refine g_l2i X1 hx 291 ((xa &&& (65535 : Int64)).toInt32) (hb hby at_290) rfl rfl ?_
        refine g_i2c X1 hx 292 (((xa &&& (65535 : Int64)).toInt32).toUInt32.toUInt16.toUInt32.toInt32) (hb hby at_291) rfl rfl ?_
        refine g_istore X1 hx 294 #[.val (.long xa), .second, .val (.long xb), .second, .val (.int xm), .val (.int (xm &&& (3 : Int32))), .val (.ref wd), .unset, .unset, .val (.int (((xa &&& (65535 : Int64)).toInt32).toUInt32.toUInt16.toUInt32.toInt32)), .unset, .unset] (hb hby at_292) rfl rfl ?_
        show Go p e below _ _ T1 (mkF m 294 #[.val (.long xa), .second, .val (.long xb), .second, .val (.int xm), .val (.int (xm &&& (3 : Int32))), .val (.ref wd), .unset, .unset, .val (.int (((xa &&& (65535 : Int64)).toInt32).toUInt32.toUInt16.toUInt32.toInt32)), .unset, .unset] [])
        have hn : nar .char (((xa &&& (65535 : Int64)).toInt32).toUInt32.toUInt16.toUInt32.toInt32) = (((xa &&& (65535 : Int64)).toInt32).toUInt32.toUInt16.toUInt32.toInt32) := own_nar2 _
        generalize (((xa &&& (65535 : Int64)).toInt32).toUInt32.toUInt16.toUInt32.toInt32) = ch at hn ⊢
        refine g_lloadN X1 hx 295 (hb hby at_294) rfl rfl ?_
        refine g_lconst X1 hx 296 (1 : Int64) (hb hby at_295) (by decide) rfl ?_
        refine g_land X1 hx 297 (xb &&& (1 : Int64)) (hb hby at_296) rfl rfl ?_
        refine g_lconst X1 hx 298 (0 : Int64) (hb hby at_297) (by decide) rfl ?_
        refine g_lcmp X1 hx 299 (hb hby at_298) rfl ?_
        by_cases hc148 : (xb &&& (1 : Int64)) = (0 : Int64)
        · refine g_ifF X1 hx 302 (hb hby at_299) (own_eqL hc148).2 rfl ?_
          refine g_new X1 hx 305 hZ hown (own_w hw 5 rfl) (own_w hw 6 rfl) (own_w hw 7 rfl) rfl (hb hby at_302) (by decide) (by decide) rfl (fun T149 h149 b149 g149 X149 e149 E149 A149 D149 => ?_)
          have G_b149 : n0 ≤ b149 := Nat.le_trans Z1 (Nat.le_of_eq g149.symm)
          have Z149 : n0 ≤ h149.size := Nat.le_trans Z1 E149.1
          have SZ_b149 : h0.size ≤ b149 := Nat.le_trans K1.1 (Nat.le_of_eq g149.symm)
          have K149 := K1.ext E149
          have hk := Nat.le_trans hk E149.1
          have E_b149 : Exa Z h149 b149 "java/lang/String" := A149
          have F_b149_coder : Fld Z h149 b149 "java/lang/String" "coder" "B" (.int (0 : Int32)) := D149 (Or.inr (own_w hw 31 rfl)) (ty := .byte) (by decide)
          have F_b149_value : Fld Z h149 b149 "java/lang/String" "value" "[B" .null := D149 (Or.inr (own_w hw 33 rfl)) (ty := (.array .byte)) (by decide)
          refine g_dup X149 hx 306 (hb hby at_305) rfl rfl ?_
          refine g_bipush X149 hx 308 (12 : Int32) (hb hby at_306) (by decide) rfl ?_
          refine g_newP X149 hx 310 hZ (own_w hw 4 rfl) e149 (hb hby at_308) (by decide) 12 (by decide) (by decide) (by decide) (by decide) rfl (fun T150 h150 b150 kl150 g150 X150 e150 E150 A150 => ?_)
          have ne_b149_b150 : b149 ≠ b150 := Nat.ne_of_lt (Nat.lt_of_lt_of_le E_b149.lt (Nat.le_of_eq g150.symm))
          have E_b149 := E_b149.ext E150
          have F_b149_coder := F_b149_coder.ext E150
          have F_b149_value := F_b149_value.ext E150
          have G_b150 : n0 ≤ b150 := Nat.le_trans Z149 (Nat.le_of_eq g150.symm)
          have Z150 : n0 ≤ h150.size := Nat.le_trans Z149 E150.1
          have SZ_b150 : h0.size ≤ b150 := Nat.le_trans K149.1 (Nat.le_of_eq g150.symm)
          have K150 := K149.ext E150
          have hk := Nat.le_trans hk E150.1
          have V_b150 : Arv Z h150 b150 kl150 .char (12 : Int32) [(.int (0 : Int32)), (.int (0 : Int32)), (.int (0 : Int32)), (.int (0 : Int32)), (.int (0 : Int32)), (.int (0 : Int32)), (.int (0 : Int32)), (.int (0 : Int32)), (.int (0 : Int32)), (.int (0 : Int32)), (.int (0 : Int32)), (.int (0 : Int32))] (.int (0 : Int32)) := A150.pad (pad_rep [] (.int (0 : Int32)) 12)
          refine g_dup X150 hx 311 (hb hby at_310) rfl rfl ?_
          refine g_iconst X150 hx 312 (0 : Int32) (hb hby at_311) (by decide) rfl ?_
          refine g_bipush X150 hx 314 (105 : Int32) (hb hby at_312) (by decide) rfl ?_
          refine g_castore X150 hx 315 hZ e150 V_b150 0 (by decide) ⟨by decide, by decide⟩ (Nat.le_of_ble_eq_true rfl) (hb hby at_314) rfl (fun T151 h151 X151 e151 W151 V151 => ?_)
          have E_b149 := E_b149.wr W151
          have F_b149_coder := F_b149_coder.other W151 (Or.inl ne_b149_b150)
          have F_b149_value := F_b149_value.other W151 (Or.inl ne_b149_b150)
          have V_b150 : Arv Z h151 b150 kl150 .char (12 : Int32) [(.int (105 : Int32)), (.int (0 : Int32)), (.int (0 : Int32)), (.int (0 : Int32)), (.int (0 : Int32)), (.int (0 : Int32)), (.int (0 : Int32)), (.int (0 : Int32)), (.int (0 : Int32)), (.int (0 : Int32)), (.int (0 : Int32)), (.int (0 : Int32))] (.int (0 : Int32)) := V151
          have N151 := Fr.snoc X151 N1 G_b150
          have Z151 : n0 ≤ h151.size := by rw [W151.size]; exact Z150
          have hk := Nat.le_trans hk (Nat.le_of_eq W151.size.symm)
          have K151 := K150.wr W151 (Or.inr SZ_b150)
          refine g_dup X151 hx 316 (hb hby at_315) rfl rfl ?_
          refine g_iconst X151 hx 317 (1 : Int32) (hb hby at_316) (by decide) rfl ?_
          refine g_bipush X151 hx 319 (115 : Int32) (hb hby at_317) (by decide) rfl ?_
          refine g_castore X151 hx 320 hZ e151 V_b150 1 (by decide) ⟨by decide, by decide⟩ (Nat.le_of_ble_eq_true rfl) (hb hby at_319) rfl (fun T152 h152 X152 e152 W152 V152 => ?_)
          have E_b149 := E_b149.wr W152
          have F_b149_coder := F_b149_coder.other W152 (Or.inl ne_b149_b150)
          have F_b149_value := F_b149_value.other W152 (Or.inl ne_b149_b150)
          have V_b150 : Arv Z h152 b150 kl150 .char (12 : Int32) [(.int (105 : Int32)), (.int (115 : Int32)), (.int (0 : Int32)), (.int (0 : Int32)), (.int (0 : Int32)), (.int (0 : Int32)), (.int (0 : Int32)), (.int (0 : Int32)), (.int (0 : Int32)), (.int (0 : Int32)), (.int (0 : Int32)), (.int (0 : Int32))] (.int (0 : Int32)) := V152
          have N152 := Fr.snoc X152 N151 G_b150
          have Z152 : n0 ≤ h152.size := by rw [W152.size]; exact Z151
          have hk := Nat.le_trans hk (Nat.le_of_eq W152.size.symm)
          have K152 := K151.wr W152 (Or.inr SZ_b150)
          refine g_dup X152 hx 321 (hb hby at_320) rfl rfl ?_
          refine g_iconst X152 hx 322 (2 : Int32) (hb hby at_321) (by decide) rfl ?_
          refine g_bipush X152 hx 324 (69 : Int32) (hb hby at_322) (by decide) rfl ?_
          refine g_castore X152 hx 325 hZ e152 V_b150 2 (by decide) ⟨by decide, by decide⟩ (Nat.le_of_ble_eq_true rfl) (hb hby at_324) rfl (fun T153 h153 X153 e153 W153 V153 => ?_)
          have E_b149 := E_b149.wr W153
          have F_b149_coder := F_b149_coder.other W153 (Or.inl ne_b149_b150)
          have F_b149_value := F_b149_value.other W153 (Or.inl ne_b149_b150)
          have V_b150 : Arv Z h153 b150 kl150 .char (12 : Int32) [(.int (105 : Int32)), (.int (115 : Int32)), (.int (69 : Int32)), (.int (0 : Int32)), (.int (0 : Int32)), (.int (0 : Int32)), (.int (0 : Int32)), (.int (0 : Int32)), (.int (0 : Int32)), (.int (0 : Int32)), (.int (0 : Int32)), (.int (0 : Int32))] (.int (0 : Int32)) := V153
          have N153 := Fr.snoc X153 N152 G_b150
          have Z153 : n0 ≤ h153.size := by rw [W153.size]; exact Z152
          have hk := Nat.le_trans hk (Nat.le_of_eq W153.size.symm)
          have K153 := K152.wr W153 (Or.inr SZ_b150)
          refine g_dup X153 hx 326 (hb hby at_325) rfl rfl ?_
          refine g_iconst X153 hx 327 (3 : Int32) (hb hby at_326) (by decide) rfl ?_
          refine g_bipush X153 hx 329 (120 : Int32) (hb hby at_327) (by decide) rfl ?_
          refine g_castore X153 hx 330 hZ e153 V_b150 3 (by decide) ⟨by decide, by decide⟩ (Nat.le_of_ble_eq_true rfl) (hb hby at_329) rfl (fun T154 h154 X154 e154 W154 V154 => ?_)
          have E_b149 := E_b149.wr W154
          have F_b149_coder := F_b149_coder.other W154 (Or.inl ne_b149_b150)
          have F_b149_value := F_b149_value.other W154 (Or.inl ne_b149_b150)
          have V_b150 : Arv Z h154 b150 kl150 .char (12 : Int32) [(.int (105 : Int32)), (.int (115 : Int32)), (.int (69 : Int32)), (.int (120 : Int32)), (.int (0 : Int32)), (.int (0 : Int32)), (.int (0 : Int32)), (.int (0 : Int32)), (.int (0 : Int32)), (.int (0 : Int32)), (.int (0 : Int32)), (.int (0 : Int32))] (.int (0 : Int32)) := V154
          have N154 := Fr.snoc X154 N153 G_b150
          have Z154 : n0 ≤ h154.size := by rw [W154.size]; exact Z153
          have hk := Nat.le_trans hk (Nat.le_of_eq W154.size.symm)
          have K154 := K153.wr W154 (Or.inr SZ_b150)
          refine g_dup X154 hx 331 (hb hby at_330) rfl rfl ?_
          refine g_iconst X154 hx 332 (4 : Int32) (hb hby at_331) (by decide) rfl ?_
          refine g_bipush X154 hx 334 (104 : Int32) (hb hby at_332) (by decide) rfl ?_
          refine g_castore X154 hx 335 hZ e154 V_b150 4 (by decide) ⟨by decide, by decide⟩ (Nat.le_of_ble_eq_true rfl) (hb hby at_334) rfl (fun T155 h155 X155 e155 W155 V155 => ?_)
          have E_b149 := E_b149.wr W155
          have F_b149_coder := F_b149_coder.other W155 (Or.inl ne_b149_b150)
          have F_b149_value := F_b149_value.other W155 (Or.inl ne_b149_b150)
          have V_b150 : Arv Z h155 b150 kl150 .char (12 : Int32) [(.int (105 : Int32)), (.int (115 : Int32)), (.int (69 : Int32)), (.int (120 : Int32)), (.int (104 : Int32)), (.int (0 : Int32)), (.int (0 : Int32)), (.int (0 : Int32)), (.int (0 : Int32)), (.int (0 : Int32)), (.int (0 : Int32)), (.int (0 : Int32))] (.int (0 : Int32)) := V155
          have N155 := Fr.snoc X155 N154 G_b150
          have Z155 : n0 ≤ h155.size := by rw [W155.size]; exact Z154
          have hk := Nat.le_trans hk (Nat.le_of_eq W155.size.symm)
          have K155 := K154.wr W155 (Or.inr SZ_b150)
          refine g_dup X155 hx 336 (hb hby at_335) rfl rfl ?_
          refine g_iconst X155 hx 337 (5 : Int32) (hb hby at_336) (by decide) rfl ?_
          refine g_bipush X155 hx 339 (97 : Int32) (hb hby at_337) (by decide) rfl ?_
          refine g_castore X155 hx 340 hZ e155 V_b150 5 (by decide) ⟨by decide, by decide⟩ (Nat.le_of_ble_eq_true rfl) (hb hby at_339) rfl (fun T156 h156 X156 e156 W156 V156 => ?_)
          have E_b149 := E_b149.wr W156
          have F_b149_coder := F_b149_coder.other W156 (Or.inl ne_b149_b150)
          have F_b149_value := F_b149_value.other W156 (Or.inl ne_b149_b150)
          have V_b150 : Arv Z h156 b150 kl150 .char (12 : Int32) [(.int (105 : Int32)), (.int (115 : Int32)), (.int (69 : Int32)), (.int (120 : Int32)), (.int (104 : Int32)), (.int (97 : Int32)), (.int (0 : Int32)), (.int (0 : Int32)), (.int (0 : Int32)), (.int (0 : Int32)), (.int (0 : Int32)), (.int (0 : Int32))] (.int (0 : Int32)) := V156
          have N156 := Fr.snoc X156 N155 G_b150
          have Z156 : n0 ≤ h156.size := by rw [W156.size]; exact Z155
          have hk := Nat.le_trans hk (Nat.le_of_eq W156.size.symm)
          have K156 := K155.wr W156 (Or.inr SZ_b150)
          refine g_dup X156 hx 341 (hb hby at_340) rfl rfl ?_
          refine g_bipush X156 hx 343 (6 : Int32) (hb hby at_341) (by decide) rfl ?_
          refine g_bipush X156 hx 345 (117 : Int32) (hb hby at_343) (by decide) rfl ?_
          refine g_castore X156 hx 346 hZ e156 V_b150 6 (by decide) ⟨by decide, by decide⟩ (Nat.le_of_ble_eq_true rfl) (hb hby at_345) rfl (fun T157 h157 X157 e157 W157 V157 => ?_)
          have E_b149 := E_b149.wr W157
          have F_b149_coder := F_b149_coder.other W157 (Or.inl ne_b149_b150)
          have F_b149_value := F_b149_value.other W157 (Or.inl ne_b149_b150)
          have V_b150 : Arv Z h157 b150 kl150 .char (12 : Int32) [(.int (105 : Int32)), (.int (115 : Int32)), (.int (69 : Int32)), (.int (120 : Int32)), (.int (104 : Int32)), (.int (97 : Int32)), (.int (117 : Int32)), (.int (0 : Int32)), (.int (0 : Int32)), (.int (0 : Int32)), (.int (0 : Int32)), (.int (0 : Int32))] (.int (0 : Int32)) := V157
          have N157 := Fr.snoc X157 N156 G_b150
          have Z157 : n0 ≤ h157.size := by rw [W157.size]; exact Z156
          have hk := Nat.le_trans hk (Nat.le_of_eq W157.size.symm)
          have K157 := K156.wr W157 (Or.inr SZ_b150)
          refine g_dup X157 hx 347 (hb hby at_346) rfl rfl ?_
          refine g_bipush X157 hx 349 (7 : Int32) (hb hby at_347) (by decide) rfl ?_
          refine g_bipush X157 hx 351 (115 : Int32) (hb hby at_349) (by decide) rfl ?_
          refine g_castore X157 hx 352 hZ e157 V_b150 7 (by decide) ⟨by decide, by decide⟩ (Nat.le_of_ble_eq_true rfl) (hb hby at_351) rfl (fun T158 h158 X158 e158 W158 V158 => ?_)
          have E_b149 := E_b149.wr W158
          have F_b149_coder := F_b149_coder.other W158 (Or.inl ne_b149_b150)
          have F_b149_value := F_b149_value.other W158 (Or.inl ne_b149_b150)
          have V_b150 : Arv Z h158 b150 kl150 .char (12 : Int32) [(.int (105 : Int32)), (.int (115 : Int32)), (.int (69 : Int32)), (.int (120 : Int32)), (.int (104 : Int32)), (.int (97 : Int32)), (.int (117 : Int32)), (.int (115 : Int32)), (.int (0 : Int32)), (.int (0 : Int32)), (.int (0 : Int32)), (.int (0 : Int32))] (.int (0 : Int32)) := V158
          have N158 := Fr.snoc X158 N157 G_b150
          have Z158 : n0 ≤ h158.size := by rw [W158.size]; exact Z157
          have hk := Nat.le_trans hk (Nat.le_of_eq W158.size.symm)
          have K158 := K157.wr W158 (Or.inr SZ_b150)
          refine g_dup X158 hx 353 (hb hby at_352) rfl rfl ?_
          refine g_bipush X158 hx 355 (8 : Int32) (hb hby at_353) (by decide) rfl ?_
          refine g_bipush X158 hx 357 (116 : Int32) (hb hby at_355) (by decide) rfl ?_
          refine g_castore X158 hx 358 hZ e158 V_b150 8 (by decide) ⟨by decide, by decide⟩ (Nat.le_of_ble_eq_true rfl) (hb hby at_357) rfl (fun T159 h159 X159 e159 W159 V159 => ?_)
          have E_b149 := E_b149.wr W159
          have F_b149_coder := F_b149_coder.other W159 (Or.inl ne_b149_b150)
          have F_b149_value := F_b149_value.other W159 (Or.inl ne_b149_b150)
          have V_b150 : Arv Z h159 b150 kl150 .char (12 : Int32) [(.int (105 : Int32)), (.int (115 : Int32)), (.int (69 : Int32)), (.int (120 : Int32)), (.int (104 : Int32)), (.int (97 : Int32)), (.int (117 : Int32)), (.int (115 : Int32)), (.int (116 : Int32)), (.int (0 : Int32)), (.int (0 : Int32)), (.int (0 : Int32))] (.int (0 : Int32)) := V159
          have N159 := Fr.snoc X159 N158 G_b150
          have Z159 : n0 ≤ h159.size := by rw [W159.size]; exact Z158
          have hk := Nat.le_trans hk (Nat.le_of_eq W159.size.symm)
          have K159 := K158.wr W159 (Or.inr SZ_b150)
          refine g_dup X159 hx 359 (hb hby at_358) rfl rfl ?_
          refine g_bipush X159 hx 361 (9 : Int32) (hb hby at_359) (by decide) rfl ?_
          refine g_bipush X159 hx 363 (101 : Int32) (hb hby at_361) (by decide) rfl ?_
          refine g_castore X159 hx 364 hZ e159 V_b150 9 (by decide) ⟨by decide, by decide⟩ (Nat.le_of_ble_eq_true rfl) (hb hby at_363) rfl (fun T160 h160 X160 e160 W160 V160 => ?_)
          have E_b149 := E_b149.wr W160
          have F_b149_coder := F_b149_coder.other W160 (Or.inl ne_b149_b150)
          have F_b149_value := F_b149_value.other W160 (Or.inl ne_b149_b150)
          have V_b150 : Arv Z h160 b150 kl150 .char (12 : Int32) [(.int (105 : Int32)), (.int (115 : Int32)), (.int (69 : Int32)), (.int (120 : Int32)), (.int (104 : Int32)), (.int (97 : Int32)), (.int (117 : Int32)), (.int (115 : Int32)), (.int (116 : Int32)), (.int (101 : Int32)), (.int (0 : Int32)), (.int (0 : Int32))] (.int (0 : Int32)) := V160
          have N160 := Fr.snoc X160 N159 G_b150
          have Z160 : n0 ≤ h160.size := by rw [W160.size]; exact Z159
          have hk := Nat.le_trans hk (Nat.le_of_eq W160.size.symm)
          have K160 := K159.wr W160 (Or.inr SZ_b150)
          refine g_dup X160 hx 365 (hb hby at_364) rfl rfl ?_
          refine g_bipush X160 hx 367 (10 : Int32) (hb hby at_365) (by decide) rfl ?_
          refine g_bipush X160 hx 369 (100 : Int32) (hb hby at_367) (by decide) rfl ?_
          refine g_castore X160 hx 370 hZ e160 V_b150 10 (by decide) ⟨by decide, by decide⟩ (Nat.le_of_ble_eq_true rfl) (hb hby at_369) rfl (fun T161 h161 X161 e161 W161 V161 => ?_)
          have E_b149 := E_b149.wr W161
          have F_b149_coder := F_b149_coder.other W161 (Or.inl ne_b149_b150)
          have F_b149_value := F_b149_value.other W161 (Or.inl ne_b149_b150)
          have V_b150 : Arv Z h161 b150 kl150 .char (12 : Int32) [(.int (105 : Int32)), (.int (115 : Int32)), (.int (69 : Int32)), (.int (120 : Int32)), (.int (104 : Int32)), (.int (97 : Int32)), (.int (117 : Int32)), (.int (115 : Int32)), (.int (116 : Int32)), (.int (101 : Int32)), (.int (100 : Int32)), (.int (0 : Int32))] (.int (0 : Int32)) := V161
          have N161 := Fr.snoc X161 N160 G_b150
          have Z161 : n0 ≤ h161.size := by rw [W161.size]; exact Z160
          have hk := Nat.le_trans hk (Nat.le_of_eq W161.size.symm)
          have K161 := K160.wr W161 (Or.inr SZ_b150)
          refine g_dup X161 hx 371 (hb hby at_370) rfl rfl ?_
          refine g_bipush X161 hx 373 (11 : Int32) (hb hby at_371) (by decide) rfl ?_
          refine g_iload X161 hx 375 (hb hby at_373) rfl rfl ?_
          refine g_castore X161 hx 376 hZ e161 V_b150 11 (by decide) ⟨by decide, by decide⟩ (Nat.le_of_ble_eq_true rfl) (hb hby at_375) rfl (fun T162 h162 X162 e162 W162 V162 => ?_)
          have E_b149 := E_b149.wr W162
          have F_b149_coder := F_b149_coder.other W162 (Or.inl ne_b149_b150)
          have F_b149_value := F_b149_value.other W162 (Or.inl ne_b149_b150)
          have V_b150 : Arv Z h162 b150 kl150 .char (12 : Int32) [(.int (105 : Int32)), (.int (115 : Int32)), (.int (69 : Int32)), (.int (120 : Int32)), (.int (104 : Int32)), (.int (97 : Int32)), (.int (117 : Int32)), (.int (115 : Int32)), (.int (116 : Int32)), (.int (101 : Int32)), (.int (100 : Int32)), (.int (nar .char ch))] (.int (0 : Int32)) := V162
          have N162 := Fr.snoc X162 N161 G_b150
          have Z162 : n0 ≤ h162.size := by rw [W162.size]; exact Z161
          have hk := Nat.le_trans hk (Nat.le_of_eq W162.size.symm)
          have K162 := K161.wr W162 (Or.inr SZ_b150)
          rw [hn] at V_b150
          rcases Decidable.em ((255 : Int32) < ch) with hbd | hbd
          · have hlt : (255 : Int32) < ch := hbd
            refine g_callI X162 hx 379 hZ rfl hown (own_w hw 8 rfl) (own_w hw 9 rfl) (own_w hw 7 rfl) (own_w hw 10 rfl) (by decide) b149 [(.ref b150)] [(.ref b149)] (ru12_init1 l Z a0 hw b149 b150 cs (105 : Int32) (115 : Int32) (69 : Int32) (120 : Int32) (104 : Int32) (97 : Int32) (117 : Int32) (115 : Int32) (116 : Int32) (101 : Int32) (100 : Int32) ch (11 : Int32) ch 22 23 kl150 _ _ h162 n0 Z162 G_b149 (own_sta_keep S_cs K162) hcs (own_sta_keep S_ad K162) (own_sta_keep S_hi K162) (own_sta_keep S_lo K162) E_b149 F_b149_value F_b149_coder V_b150 ⟨by unfold own_fst12; exact ((if_neg (by decide)).trans ((if_neg (by decide)).trans ((if_neg (by decide)).trans ((if_neg (by decide)).trans ((if_neg (by decide)).trans ((if_neg (by decide)).trans ((if_neg (by decide)).trans ((if_neg (by decide)).trans ((if_neg (by decide)).trans ((if_neg (by decide)).trans ((if_neg (by decide)).trans (if_pos hbd)))))))))))), by decide, by decide, rfl, rfl, hbd, hn⟩) e162 1 (by decide) (by decide) (by decide) (by decide) (by rw [hml]; rfl) (lenOf own_pd11 rfl) (hb hby at_376) rfl (Nat.le_of_eq rfl) rfl (fun v163 T163 L163 X163 hQ163 => ?_)
            obtain ⟨rfl, N163q, K163, E_a, C_a⟩ := hQ163
            have N163 := Fr.app N162 N163q
            have KK163 := K162.trans K163 (allS (Or.inr SZ_b149) all0)
            have Z163 := Nat.le_trans Z162 K163.1
            have hk := Nat.le_trans hk K163.1
            refine g_astore X163 hx 381 #[.val (.long xa), .second, .val (.long xb), .second, .val (.int xm), .val (.int (xm &&& (3 : Int32))), .val (.ref wd), .val (.ref b149), .unset, .val (.int ch), .unset, .unset] (hb hby at_379) rfl rfl rfl ?_
            refine g_goto X163 hx 451 (hb hby at_381) (by decide) (by decide) ?_
            refine g_iconst X163 hx 452 (0 : Int32) (hb hby at_451) (by decide) rfl ?_
            refine g_istore X163 hx 454 #[.val (.long xa), .second, .val (.long xb), .second, .val (.int xm), .val (.int (xm &&& (3 : Int32))), .val (.ref wd), .val (.ref b149), .val (.int (0 : Int32)), .val (.int ch), .unset, .unset] (hb hby at_452) rfl rfl ?_
            refine g_aload X163 hx 456 (hb hby at_454) rfl rfl rfl ?_
            refine g_callSW X163 hx 459 hZ hI hown (own_w hw 34 rfl) (own_w hw 35 rfl) (own_w hw 36 rfl) (own_w hw 37 rfl) (by decide) [(.ref b149)] [] (ruvU l Z a0 hw b149 f cs T163.heap n0 Z163 (own_sta_keep S_cs KK163) hcs (own_sta_keep S_f KK163) (fun b cl q => KK163.2.1 b cl (hkp b cl q) nin0) hld hcw E_a C_a) rfl 0 (by decide) (by decide) (by decide) (by decide) (by rw [hml]; rfl) (lenOf own_pd12 rfl) (hb hby at_456) rfl hS hk (Nat.le_of_eq rfl) rfl (fun v164 T164 L164 X164 hS hZ hown hQ164 => ?_)
            have hk := Nat.le_refl T164.heap.size
            obtain ⟨rfl, N164q, K164⟩ := hQ164
            have N164 := Fr.app N163 N164q
            have KK164 := KK163.trans K164 all0
            refine g_astore X164 hx 461 #[.val (.long xa), .second, .val (.long xb), .second, .val (.int xm), .val (.int (xm &&& (3 : Int32))), .val (.ref wd), .val (.ref b149), .val (.int (0 : Int32)), .val .null, .unset, .unset] (hb hby at_459) rfl rfl rfl ?_
            refine g_iload X164 hx 463 (hb hby at_461) rfl rfl ?_
            refine g_ifT X164 hx 480 (hb hby at_463) (by decide) (by decide) (by decide) ?_
            refine g_aload X164 hx 482 (hb hby at_480) rfl rfl rfl ?_
            refine g_ifnonnullF X164 hx 485 (hb hby at_482) rfl ?_
            refine g_iconst X164 hx 486 (1 : Int32) (hb hby at_485) (by decide) rfl ?_
            refine g_goto X164 hx 490 (hb hby at_486) (by decide) (by decide) ?_
            exact g_retZW X164 hx hret hlk rfl (hb hby at_490) hS (Eq.subst (motive := fun z : Heap => _ ≤ z.size) (Eq.symm rfl) hk) (by decide) (by decide) ⟨rfl, N164⟩
          · have hlt : ¬ (255 : Int32) < ch := hbd
            refine g_callI X162 hx 379 hZ rfl hown (own_w hw 8 rfl) (own_w hw 9 rfl) (own_w hw 7 rfl) (own_w hw 10 rfl) (by decide) b149 [(.ref b150)] [(.ref b149)] (rs12_init1 l Z a0 hw b149 b150 cs (105 : Int32) (115 : Int32) (69 : Int32) (120 : Int32) (104 : Int32) (97 : Int32) (117 : Int32) (115 : Int32) (116 : Int32) (101 : Int32) (100 : Int32) ch kl150 _ _ h162 n0 Z162 G_b149 (own_sta_keep S_cs K162) hcs E_b149 F_b149_value F_b149_coder V_b150 (by decide) (by decide) (by decide) (by decide) (by decide) (by decide) (by decide) (by decide) (by decide) (by decide) (by decide) hbd) e162 1 (by decide) (by decide) (by decide) (by decide) (by rw [hml]; rfl) (lenOf own_pd11 rfl) (hb hby at_376) rfl (Nat.le_of_eq rfl) rfl (fun v165 T165 L165 X165 hQ165 => ?_)
            obtain ⟨rfl, N165q, K165, t, kT, hst, E_a, G_a, C_a, V_t⟩ := hQ165
            have N165 := Fr.app N162 N165q
            have KK165 := K162.trans K165 (allS (Or.inr SZ_b149) all0)
            have Z165 := Nat.le_trans Z162 K165.1
            have hk := Nat.le_trans hk K165.1
            refine g_astore X165 hx 381 #[.val (.long xa), .second, .val (.long xb), .second, .val (.int xm), .val (.int (xm &&& (3 : Int32))), .val (.ref wd), .val (.ref b149), .unset, .val (.int ch), .unset, .unset] (hb hby at_379) rfl rfl rfl ?_
            refine g_goto X165 hx 451 (hb hby at_381) (by decide) (by decide) ?_
            refine g_iconst X165 hx 452 (0 : Int32) (hb hby at_451) (by decide) rfl ?_
            refine g_istore X165 hx 454 #[.val (.long xa), .second, .val (.long xb), .second, .val (.int xm), .val (.int (xm &&& (3 : Int32))), .val (.ref wd), .val (.ref b149), .val (.int (0 : Int32)), .val (.int ch), .unset, .unset] (hb hby at_452) rfl rfl ?_
            refine g_aload X165 hx 456 (hb hby at_454) rfl rfl rfl ?_
            refine g_callSW X165 hx 459 hZ hI hown (own_w hw 34 rfl) (own_w hw 35 rfl) (own_w hw 36 rfl) (own_w hw 37 rfl) (by decide) [(.ref b149)] [] (ruvN l Z a0 hw b149 f cs t (12 : Int32) kT _ T165.heap n0 Z165 (own_sta_keep S_cs KK165) hcs (own_sta_keep S_f KK165) (fun b cl q => KK165.2.1 b cl (hkp b cl q) nin0) hld hcw E_a C_a G_a V_t (by decide)) rfl 0 (by decide) (by decide) (by decide) (by decide) (by rw [hml]; rfl) (lenOf own_pd12 rfl) (hb hby at_456) rfl hS hk (Nat.le_of_eq rfl) rfl (fun v166 T166 L166 X166 hS hZ hown hQ166 => ?_)
            have hk := Nat.le_refl T166.heap.size
            obtain ⟨rfl, N166q, K166⟩ := hQ166
            have N166 := Fr.app N165 N166q
            have KK166 := KK165.trans K166 all0
            refine g_astore X166 hx 461 #[.val (.long xa), .second, .val (.long xb), .second, .val (.int xm), .val (.int (xm &&& (3 : Int32))), .val (.ref wd), .val (.ref b149), .val (.int (0 : Int32)), .val .null, .unset, .unset] (hb hby at_459) rfl rfl rfl ?_
            refine g_iload X166 hx 463 (hb hby at_461) rfl rfl ?_
            refine g_ifT X166 hx 480 (hb hby at_463) (by decide) (by decide) (by decide) ?_
            refine g_aload X166 hx 482 (hb hby at_480) rfl rfl rfl ?_
            refine g_ifnonnullF X166 hx 485 (hb hby at_482) rfl ?_
            refine g_iconst X166 hx 486 (1 : Int32) (hb hby at_485) (by decide) rfl ?_
            refine g_goto X166 hx 490 (hb hby at_486) (by decide) (by decide) ?_
            exact g_retZW X166 hx hret hlk rfl (hb hby at_490) hS (Eq.subst (motive := fun z : Heap => _ ≤ z.size) (Eq.symm rfl) hk) (by decide) (by decide) ⟨rfl, N166⟩
        · refine g_ifT X1 hx 384 (hb hby at_299) (own_neL hc148).2 (by decide) (by decide) ?_
          refine g_new X1 hx 387 hZ hown (own_w hw 5 rfl) (own_w hw 6 rfl) (own_w hw 7 rfl) rfl (hb hby at_384) (by decide) (by decide) rfl (fun T167 h167 b167 g167 X167 e167 E167 A167 D167 => ?_)
          have G_b167 : n0 ≤ b167 := Nat.le_trans Z1 (Nat.le_of_eq g167.symm)
          have Z167 : n0 ≤ h167.size := Nat.le_trans Z1 E167.1
          have SZ_b167 : h0.size ≤ b167 := Nat.le_trans K1.1 (Nat.le_of_eq g167.symm)
          have K167 := K1.ext E167
          have hk := Nat.le_trans hk E167.1
          have E_b167 : Exa Z h167 b167 "java/lang/String" := A167
          have F_b167_coder : Fld Z h167 b167 "java/lang/String" "coder" "B" (.int (0 : Int32)) := D167 (Or.inr (own_w hw 31 rfl)) (ty := .byte) (by decide)
          have F_b167_value : Fld Z h167 b167 "java/lang/String" "value" "[B" .null := D167 (Or.inr (own_w hw 33 rfl)) (ty := (.array .byte)) (by decide)
          refine g_dup X167 hx 388 (hb hby at_387) rfl rfl ?_
          refine g_bipush X167 hx 390 (10 : Int32) (hb hby at_388) (by decide) rfl ?_
          refine g_newP X167 hx 392 hZ (own_w hw 4 rfl) e167 (hb hby at_390) (by decide) 10 (by decide) (by decide) (by decide) (by decide) rfl (fun T168 h168 b168 kl168 g168 X168 e168 E168 A168 => ?_)
          have ne_b167_b168 : b167 ≠ b168 := Nat.ne_of_lt (Nat.lt_of_lt_of_le E_b167.lt (Nat.le_of_eq g168.symm))
          have E_b167 := E_b167.ext E168
          have F_b167_coder := F_b167_coder.ext E168
          have F_b167_value := F_b167_value.ext E168
          have G_b168 : n0 ≤ b168 := Nat.le_trans Z167 (Nat.le_of_eq g168.symm)
          have Z168 : n0 ≤ h168.size := Nat.le_trans Z167 E168.1
          have SZ_b168 : h0.size ≤ b168 := Nat.le_trans K167.1 (Nat.le_of_eq g168.symm)
          have K168 := K167.ext E168
          have hk := Nat.le_trans hk E168.1
          have V_b168 : Arv Z h168 b168 kl168 .char (10 : Int32) [(.int (0 : Int32)), (.int (0 : Int32)), (.int (0 : Int32)), (.int (0 : Int32)), (.int (0 : Int32)), (.int (0 : Int32)), (.int (0 : Int32)), (.int (0 : Int32)), (.int (0 : Int32)), (.int (0 : Int32))] (.int (0 : Int32)) := A168.pad (pad_rep [] (.int (0 : Int32)) 10)
          refine g_dup X168 hx 393 (hb hby at_392) rfl rfl ?_
          refine g_iconst X168 hx 394 (0 : Int32) (hb hby at_393) (by decide) rfl ?_
          refine g_bipush X168 hx 396 (105 : Int32) (hb hby at_394) (by decide) rfl ?_
          refine g_castore X168 hx 397 hZ e168 V_b168 0 (by decide) ⟨by decide, by decide⟩ (Nat.le_of_ble_eq_true rfl) (hb hby at_396) rfl (fun T169 h169 X169 e169 W169 V169 => ?_)
          have E_b167 := E_b167.wr W169
          have F_b167_coder := F_b167_coder.other W169 (Or.inl ne_b167_b168)
          have F_b167_value := F_b167_value.other W169 (Or.inl ne_b167_b168)
          have V_b168 : Arv Z h169 b168 kl168 .char (10 : Int32) [(.int (105 : Int32)), (.int (0 : Int32)), (.int (0 : Int32)), (.int (0 : Int32)), (.int (0 : Int32)), (.int (0 : Int32)), (.int (0 : Int32)), (.int (0 : Int32)), (.int (0 : Int32)), (.int (0 : Int32))] (.int (0 : Int32)) := V169
          have N169 := Fr.snoc X169 N1 G_b168
          have Z169 : n0 ≤ h169.size := by rw [W169.size]; exact Z168
          have hk := Nat.le_trans hk (Nat.le_of_eq W169.size.symm)
          have K169 := K168.wr W169 (Or.inr SZ_b168)
          refine g_dup X169 hx 398 (hb hby at_397) rfl rfl ?_
          refine g_iconst X169 hx 399 (1 : Int32) (hb hby at_398) (by decide) rfl ?_
          refine g_bipush X169 hx 401 (115 : Int32) (hb hby at_399) (by decide) rfl ?_
          refine g_castore X169 hx 402 hZ e169 V_b168 1 (by decide) ⟨by decide, by decide⟩ (Nat.le_of_ble_eq_true rfl) (hb hby at_401) rfl (fun T170 h170 X170 e170 W170 V170 => ?_)
          have E_b167 := E_b167.wr W170
          have F_b167_coder := F_b167_coder.other W170 (Or.inl ne_b167_b168)
          have F_b167_value := F_b167_value.other W170 (Or.inl ne_b167_b168)
          have V_b168 : Arv Z h170 b168 kl168 .char (10 : Int32) [(.int (105 : Int32)), (.int (115 : Int32)), (.int (0 : Int32)), (.int (0 : Int32)), (.int (0 : Int32)), (.int (0 : Int32)), (.int (0 : Int32)), (.int (0 : Int32)), (.int (0 : Int32)), (.int (0 : Int32))] (.int (0 : Int32)) := V170
          have N170 := Fr.snoc X170 N169 G_b168
          have Z170 : n0 ≤ h170.size := by rw [W170.size]; exact Z169
          have hk := Nat.le_trans hk (Nat.le_of_eq W170.size.symm)
          have K170 := K169.wr W170 (Or.inr SZ_b168)
          refine g_dup X170 hx 403 (hb hby at_402) rfl rfl ?_
          refine g_iconst X170 hx 404 (2 : Int32) (hb hby at_403) (by decide) rfl ?_
          refine g_bipush X170 hx 406 (69 : Int32) (hb hby at_404) (by decide) rfl ?_
          refine g_castore X170 hx 407 hZ e170 V_b168 2 (by decide) ⟨by decide, by decide⟩ (Nat.le_of_ble_eq_true rfl) (hb hby at_406) rfl (fun T171 h171 X171 e171 W171 V171 => ?_)
          have E_b167 := E_b167.wr W171
          have F_b167_coder := F_b167_coder.other W171 (Or.inl ne_b167_b168)
          have F_b167_value := F_b167_value.other W171 (Or.inl ne_b167_b168)
          have V_b168 : Arv Z h171 b168 kl168 .char (10 : Int32) [(.int (105 : Int32)), (.int (115 : Int32)), (.int (69 : Int32)), (.int (0 : Int32)), (.int (0 : Int32)), (.int (0 : Int32)), (.int (0 : Int32)), (.int (0 : Int32)), (.int (0 : Int32)), (.int (0 : Int32))] (.int (0 : Int32)) := V171
          have N171 := Fr.snoc X171 N170 G_b168
          have Z171 : n0 ≤ h171.size := by rw [W171.size]; exact Z170
          have hk := Nat.le_trans hk (Nat.le_of_eq W171.size.symm)
          have K171 := K170.wr W171 (Or.inr SZ_b168)
          refine g_dup X171 hx 408 (hb hby at_407) rfl rfl ?_
          refine g_iconst X171 hx 409 (3 : Int32) (hb hby at_408) (by decide) rfl ?_
          refine g_bipush X171 hx 411 (120 : Int32) (hb hby at_409) (by decide) rfl ?_
          refine g_castore X171 hx 412 hZ e171 V_b168 3 (by decide) ⟨by decide, by decide⟩ (Nat.le_of_ble_eq_true rfl) (hb hby at_411) rfl (fun T172 h172 X172 e172 W172 V172 => ?_)
          have E_b167 := E_b167.wr W172
          have F_b167_coder := F_b167_coder.other W172 (Or.inl ne_b167_b168)
          have F_b167_value := F_b167_value.other W172 (Or.inl ne_b167_b168)
          have V_b168 : Arv Z h172 b168 kl168 .char (10 : Int32) [(.int (105 : Int32)), (.int (115 : Int32)), (.int (69 : Int32)), (.int (120 : Int32)), (.int (0 : Int32)), (.int (0 : Int32)), (.int (0 : Int32)), (.int (0 : Int32)), (.int (0 : Int32)), (.int (0 : Int32))] (.int (0 : Int32)) := V172
          have N172 := Fr.snoc X172 N171 G_b168
          have Z172 : n0 ≤ h172.size := by rw [W172.size]; exact Z171
          have hk := Nat.le_trans hk (Nat.le_of_eq W172.size.symm)
          have K172 := K171.wr W172 (Or.inr SZ_b168)
          refine g_dup X172 hx 413 (hb hby at_412) rfl rfl ?_
          refine g_iconst X172 hx 414 (4 : Int32) (hb hby at_413) (by decide) rfl ?_
          refine g_bipush X172 hx 416 (104 : Int32) (hb hby at_414) (by decide) rfl ?_
          refine g_castore X172 hx 417 hZ e172 V_b168 4 (by decide) ⟨by decide, by decide⟩ (Nat.le_of_ble_eq_true rfl) (hb hby at_416) rfl (fun T173 h173 X173 e173 W173 V173 => ?_)
          have E_b167 := E_b167.wr W173
          have F_b167_coder := F_b167_coder.other W173 (Or.inl ne_b167_b168)
          have F_b167_value := F_b167_value.other W173 (Or.inl ne_b167_b168)
          have V_b168 : Arv Z h173 b168 kl168 .char (10 : Int32) [(.int (105 : Int32)), (.int (115 : Int32)), (.int (69 : Int32)), (.int (120 : Int32)), (.int (104 : Int32)), (.int (0 : Int32)), (.int (0 : Int32)), (.int (0 : Int32)), (.int (0 : Int32)), (.int (0 : Int32))] (.int (0 : Int32)) := V173
          have N173 := Fr.snoc X173 N172 G_b168
          have Z173 : n0 ≤ h173.size := by rw [W173.size]; exact Z172
          have hk := Nat.le_trans hk (Nat.le_of_eq W173.size.symm)
          have K173 := K172.wr W173 (Or.inr SZ_b168)
          refine g_dup X173 hx 418 (hb hby at_417) rfl rfl ?_
          refine g_iconst X173 hx 419 (5 : Int32) (hb hby at_418) (by decide) rfl ?_
          refine g_bipush X173 hx 421 (97 : Int32) (hb hby at_419) (by decide) rfl ?_
          refine g_castore X173 hx 422 hZ e173 V_b168 5 (by decide) ⟨by decide, by decide⟩ (Nat.le_of_ble_eq_true rfl) (hb hby at_421) rfl (fun T174 h174 X174 e174 W174 V174 => ?_)
          have E_b167 := E_b167.wr W174
          have F_b167_coder := F_b167_coder.other W174 (Or.inl ne_b167_b168)
          have F_b167_value := F_b167_value.other W174 (Or.inl ne_b167_b168)
          have V_b168 : Arv Z h174 b168 kl168 .char (10 : Int32) [(.int (105 : Int32)), (.int (115 : Int32)), (.int (69 : Int32)), (.int (120 : Int32)), (.int (104 : Int32)), (.int (97 : Int32)), (.int (0 : Int32)), (.int (0 : Int32)), (.int (0 : Int32)), (.int (0 : Int32))] (.int (0 : Int32)) := V174
          have N174 := Fr.snoc X174 N173 G_b168
          have Z174 : n0 ≤ h174.size := by rw [W174.size]; exact Z173
          have hk := Nat.le_trans hk (Nat.le_of_eq W174.size.symm)
          have K174 := K173.wr W174 (Or.inr SZ_b168)
          refine g_dup X174 hx 423 (hb hby at_422) rfl rfl ?_
          refine g_bipush X174 hx 425 (6 : Int32) (hb hby at_423) (by decide) rfl ?_
          refine g_bipush X174 hx 427 (117 : Int32) (hb hby at_425) (by decide) rfl ?_
          refine g_castore X174 hx 428 hZ e174 V_b168 6 (by decide) ⟨by decide, by decide⟩ (Nat.le_of_ble_eq_true rfl) (hb hby at_427) rfl (fun T175 h175 X175 e175 W175 V175 => ?_)
          have E_b167 := E_b167.wr W175
          have F_b167_coder := F_b167_coder.other W175 (Or.inl ne_b167_b168)
          have F_b167_value := F_b167_value.other W175 (Or.inl ne_b167_b168)
          have V_b168 : Arv Z h175 b168 kl168 .char (10 : Int32) [(.int (105 : Int32)), (.int (115 : Int32)), (.int (69 : Int32)), (.int (120 : Int32)), (.int (104 : Int32)), (.int (97 : Int32)), (.int (117 : Int32)), (.int (0 : Int32)), (.int (0 : Int32)), (.int (0 : Int32))] (.int (0 : Int32)) := V175
          have N175 := Fr.snoc X175 N174 G_b168
          have Z175 : n0 ≤ h175.size := by rw [W175.size]; exact Z174
          have hk := Nat.le_trans hk (Nat.le_of_eq W175.size.symm)
          have K175 := K174.wr W175 (Or.inr SZ_b168)
          refine g_dup X175 hx 429 (hb hby at_428) rfl rfl ?_
          refine g_bipush X175 hx 431 (7 : Int32) (hb hby at_429) (by decide) rfl ?_
          refine g_bipush X175 hx 433 (115 : Int32) (hb hby at_431) (by decide) rfl ?_
          refine g_castore X175 hx 434 hZ e175 V_b168 7 (by decide) ⟨by decide, by decide⟩ (Nat.le_of_ble_eq_true rfl) (hb hby at_433) rfl (fun T176 h176 X176 e176 W176 V176 => ?_)
          have E_b167 := E_b167.wr W176
          have F_b167_coder := F_b167_coder.other W176 (Or.inl ne_b167_b168)
          have F_b167_value := F_b167_value.other W176 (Or.inl ne_b167_b168)
          have V_b168 : Arv Z h176 b168 kl168 .char (10 : Int32) [(.int (105 : Int32)), (.int (115 : Int32)), (.int (69 : Int32)), (.int (120 : Int32)), (.int (104 : Int32)), (.int (97 : Int32)), (.int (117 : Int32)), (.int (115 : Int32)), (.int (0 : Int32)), (.int (0 : Int32))] (.int (0 : Int32)) := V176
          have N176 := Fr.snoc X176 N175 G_b168
          have Z176 : n0 ≤ h176.size := by rw [W176.size]; exact Z175
          have hk := Nat.le_trans hk (Nat.le_of_eq W176.size.symm)
          have K176 := K175.wr W176 (Or.inr SZ_b168)
          refine g_dup X176 hx 435 (hb hby at_434) rfl rfl ?_
          refine g_bipush X176 hx 437 (8 : Int32) (hb hby at_435) (by decide) rfl ?_
          refine g_bipush X176 hx 439 (116 : Int32) (hb hby at_437) (by decide) rfl ?_
          refine g_castore X176 hx 440 hZ e176 V_b168 8 (by decide) ⟨by decide, by decide⟩ (Nat.le_of_ble_eq_true rfl) (hb hby at_439) rfl (fun T177 h177 X177 e177 W177 V177 => ?_)
          have E_b167 := E_b167.wr W177
          have F_b167_coder := F_b167_coder.other W177 (Or.inl ne_b167_b168)
          have F_b167_value := F_b167_value.other W177 (Or.inl ne_b167_b168)
          have V_b168 : Arv Z h177 b168 kl168 .char (10 : Int32) [(.int (105 : Int32)), (.int (115 : Int32)), (.int (69 : Int32)), (.int (120 : Int32)), (.int (104 : Int32)), (.int (97 : Int32)), (.int (117 : Int32)), (.int (115 : Int32)), (.int (116 : Int32)), (.int (0 : Int32))] (.int (0 : Int32)) := V177
          have N177 := Fr.snoc X177 N176 G_b168
          have Z177 : n0 ≤ h177.size := by rw [W177.size]; exact Z176
          have hk := Nat.le_trans hk (Nat.le_of_eq W177.size.symm)
          have K177 := K176.wr W177 (Or.inr SZ_b168)
          refine g_dup X177 hx 441 (hb hby at_440) rfl rfl ?_
          refine g_bipush X177 hx 443 (9 : Int32) (hb hby at_441) (by decide) rfl ?_
          refine g_iload X177 hx 445 (hb hby at_443) rfl rfl ?_
          refine g_castore X177 hx 446 hZ e177 V_b168 9 (by decide) ⟨by decide, by decide⟩ (Nat.le_of_ble_eq_true rfl) (hb hby at_445) rfl (fun T178 h178 X178 e178 W178 V178 => ?_)
          have E_b167 := E_b167.wr W178
          have F_b167_coder := F_b167_coder.other W178 (Or.inl ne_b167_b168)
          have F_b167_value := F_b167_value.other W178 (Or.inl ne_b167_b168)
          have V_b168 : Arv Z h178 b168 kl168 .char (10 : Int32) [(.int (105 : Int32)), (.int (115 : Int32)), (.int (69 : Int32)), (.int (120 : Int32)), (.int (104 : Int32)), (.int (97 : Int32)), (.int (117 : Int32)), (.int (115 : Int32)), (.int (116 : Int32)), (.int (nar .char ch))] (.int (0 : Int32)) := V178
          have N178 := Fr.snoc X178 N177 G_b168
          have Z178 : n0 ≤ h178.size := by rw [W178.size]; exact Z177
          have hk := Nat.le_trans hk (Nat.le_of_eq W178.size.symm)
          have K178 := K177.wr W178 (Or.inr SZ_b168)
          rw [hn] at V_b168
          rcases Decidable.em ((255 : Int32) < ch) with hbd | hbd
          · have hlt : (255 : Int32) < ch := hbd
            refine g_callI X178 hx 449 hZ rfl hown (own_w hw 8 rfl) (own_w hw 9 rfl) (own_w hw 7 rfl) (own_w hw 10 rfl) (by decide) b167 [(.ref b168)] [(.ref b167)] (ru10_init1 l Z a0 hw b167 b168 cs (105 : Int32) (115 : Int32) (69 : Int32) (120 : Int32) (104 : Int32) (97 : Int32) (117 : Int32) (115 : Int32) (116 : Int32) ch (9 : Int32) ch 18 19 kl168 _ _ h178 n0 Z178 G_b167 (own_sta_keep S_cs K178) hcs (own_sta_keep S_ad K178) (own_sta_keep S_hi K178) (own_sta_keep S_lo K178) E_b167 F_b167_value F_b167_coder V_b168 ⟨by unfold own_fst10; exact ((if_neg (by decide)).trans ((if_neg (by decide)).trans ((if_neg (by decide)).trans ((if_neg (by decide)).trans ((if_neg (by decide)).trans ((if_neg (by decide)).trans ((if_neg (by decide)).trans ((if_neg (by decide)).trans ((if_neg (by decide)).trans (if_pos hbd)))))))))), by decide, by decide, rfl, rfl, hbd, hn⟩) e178 1 (by decide) (by decide) (by decide) (by decide) (by rw [hml]; rfl) (lenOf own_pd11 rfl) (hb hby at_446) rfl (Nat.le_of_eq rfl) rfl (fun v179 T179 L179 X179 hQ179 => ?_)
            obtain ⟨rfl, N179q, K179, E_a, C_a⟩ := hQ179
            have N179 := Fr.app N178 N179q
            have KK179 := K178.trans K179 (allS (Or.inr SZ_b167) all0)
            have Z179 := Nat.le_trans Z178 K179.1
            have hk := Nat.le_trans hk K179.1
            refine g_astore X179 hx 451 #[.val (.long xa), .second, .val (.long xb), .second, .val (.int xm), .val (.int (xm &&& (3 : Int32))), .val (.ref wd), .val (.ref b167), .unset, .val (.int ch), .unset, .unset] (hb hby at_449) rfl rfl rfl ?_
            refine g_iconst X179 hx 452 (0 : Int32) (hb hby at_451) (by decide) rfl ?_
            refine g_istore X179 hx 454 #[.val (.long xa), .second, .val (.long xb), .second, .val (.int xm), .val (.int (xm &&& (3 : Int32))), .val (.ref wd), .val (.ref b167), .val (.int (0 : Int32)), .val (.int ch), .unset, .unset] (hb hby at_452) rfl rfl ?_
            refine g_aload X179 hx 456 (hb hby at_454) rfl rfl rfl ?_
            refine g_callSW X179 hx 459 hZ hI hown (own_w hw 34 rfl) (own_w hw 35 rfl) (own_w hw 36 rfl) (own_w hw 37 rfl) (by decide) [(.ref b167)] [] (ruvU l Z a0 hw b167 f cs T179.heap n0 Z179 (own_sta_keep S_cs KK179) hcs (own_sta_keep S_f KK179) (fun b cl q => KK179.2.1 b cl (hkp b cl q) nin0) hld hcw E_a C_a) rfl 0 (by decide) (by decide) (by decide) (by decide) (by rw [hml]; rfl) (lenOf own_pd12 rfl) (hb hby at_456) rfl hS hk (Nat.le_of_eq rfl) rfl (fun v180 T180 L180 X180 hS hZ hown hQ180 => ?_)
            have hk := Nat.le_refl T180.heap.size
            obtain ⟨rfl, N180q, K180⟩ := hQ180
            have N180 := Fr.app N179 N180q
            have KK180 := KK179.trans K180 all0
            refine g_astore X180 hx 461 #[.val (.long xa), .second, .val (.long xb), .second, .val (.int xm), .val (.int (xm &&& (3 : Int32))), .val (.ref wd), .val (.ref b167), .val (.int (0 : Int32)), .val .null, .unset, .unset] (hb hby at_459) rfl rfl rfl ?_
            refine g_iload X180 hx 463 (hb hby at_461) rfl rfl ?_
            refine g_ifT X180 hx 480 (hb hby at_463) (by decide) (by decide) (by decide) ?_
            refine g_aload X180 hx 482 (hb hby at_480) rfl rfl rfl ?_
            refine g_ifnonnullF X180 hx 485 (hb hby at_482) rfl ?_
            refine g_iconst X180 hx 486 (1 : Int32) (hb hby at_485) (by decide) rfl ?_
            refine g_goto X180 hx 490 (hb hby at_486) (by decide) (by decide) ?_
            exact g_retZW X180 hx hret hlk rfl (hb hby at_490) hS (Eq.subst (motive := fun z : Heap => _ ≤ z.size) (Eq.symm rfl) hk) (by decide) (by decide) ⟨rfl, N180⟩
          · have hlt : ¬ (255 : Int32) < ch := hbd
            refine g_callI X178 hx 449 hZ rfl hown (own_w hw 8 rfl) (own_w hw 9 rfl) (own_w hw 7 rfl) (own_w hw 10 rfl) (by decide) b167 [(.ref b168)] [(.ref b167)] (rs10_init1 l Z a0 hw b167 b168 cs (105 : Int32) (115 : Int32) (69 : Int32) (120 : Int32) (104 : Int32) (97 : Int32) (117 : Int32) (115 : Int32) (116 : Int32) ch kl168 _ _ h178 n0 Z178 G_b167 (own_sta_keep S_cs K178) hcs E_b167 F_b167_value F_b167_coder V_b168 (by decide) (by decide) (by decide) (by decide) (by decide) (by decide) (by decide) (by decide) (by decide) hbd) e178 1 (by decide) (by decide) (by decide) (by decide) (by rw [hml]; rfl) (lenOf own_pd11 rfl) (hb hby at_446) rfl (Nat.le_of_eq rfl) rfl (fun v181 T181 L181 X181 hQ181 => ?_)
            obtain ⟨rfl, N181q, K181, t, kT, hst, E_a, G_a, C_a, V_t⟩ := hQ181
            have N181 := Fr.app N178 N181q
            have KK181 := K178.trans K181 (allS (Or.inr SZ_b167) all0)
            have Z181 := Nat.le_trans Z178 K181.1
            have hk := Nat.le_trans hk K181.1
            refine g_astore X181 hx 451 #[.val (.long xa), .second, .val (.long xb), .second, .val (.int xm), .val (.int (xm &&& (3 : Int32))), .val (.ref wd), .val (.ref b167), .unset, .val (.int ch), .unset, .unset] (hb hby at_449) rfl rfl rfl ?_
            refine g_iconst X181 hx 452 (0 : Int32) (hb hby at_451) (by decide) rfl ?_
            refine g_istore X181 hx 454 #[.val (.long xa), .second, .val (.long xb), .second, .val (.int xm), .val (.int (xm &&& (3 : Int32))), .val (.ref wd), .val (.ref b167), .val (.int (0 : Int32)), .val (.int ch), .unset, .unset] (hb hby at_452) rfl rfl ?_
            refine g_aload X181 hx 456 (hb hby at_454) rfl rfl rfl ?_
            refine g_callSW X181 hx 459 hZ hI hown (own_w hw 34 rfl) (own_w hw 35 rfl) (own_w hw 36 rfl) (own_w hw 37 rfl) (by decide) [(.ref b167)] [] (ruvN l Z a0 hw b167 f cs t (10 : Int32) kT _ T181.heap n0 Z181 (own_sta_keep S_cs KK181) hcs (own_sta_keep S_f KK181) (fun b cl q => KK181.2.1 b cl (hkp b cl q) nin0) hld hcw E_a C_a G_a V_t (by decide)) rfl 0 (by decide) (by decide) (by decide) (by decide) (by rw [hml]; rfl) (lenOf own_pd12 rfl) (hb hby at_456) rfl hS hk (Nat.le_of_eq rfl) rfl (fun v182 T182 L182 X182 hS hZ hown hQ182 => ?_)
            have hk := Nat.le_refl T182.heap.size
            obtain ⟨rfl, N182q, K182⟩ := hQ182
            have N182 := Fr.app N181 N182q
            have KK182 := KK181.trans K182 all0
            refine g_astore X182 hx 461 #[.val (.long xa), .second, .val (.long xb), .second, .val (.int xm), .val (.int (xm &&& (3 : Int32))), .val (.ref wd), .val (.ref b167), .val (.int (0 : Int32)), .val .null, .unset, .unset] (hb hby at_459) rfl rfl rfl ?_
            refine g_iload X182 hx 463 (hb hby at_461) rfl rfl ?_
            refine g_ifT X182 hx 480 (hb hby at_463) (by decide) (by decide) (by decide) ?_
            refine g_aload X182 hx 482 (hb hby at_480) rfl rfl rfl ?_
            refine g_ifnonnullF X182 hx 485 (hb hby at_482) rfl ?_
            refine g_iconst X182 hx 486 (1 : Int32) (hb hby at_485) (by decide) rfl ?_
            refine g_goto X182 hx 490 (hb hby at_486) (by decide) (by decide) ?_
            exact g_retZW X182 hx hret hlk rfl (hb hby at_490) hS (Eq.subst (motive := fun z : Heap => _ ≤ z.size) (Eq.symm rfl) hk) (by decide) (by decide) ⟨rfl, N182⟩
set_option maxRecDepth 65536 in
set_option maxHeartbeats 40000000 in
theorem comes_1 {Post : Tables → Env → Array Value → State → Outcome → State → Prop} (hpost : ∀ tb e args s v u, (limb_1_1.after args s (.returned v) u = true ∧ limb_1_2.after args s (.returned v) u = true ∧ True) → ReturnedEndW s (.returned v) u (Jvm.fieldLocs frame_1_writes args s ++ Jvm.arrayLocs frame_1_arrays args s ++ Jvm.staticLocs frame_1_statics s) 24 1280 → Post tb e args s (.returned v) u) :
    ArmFor flags0 classFile x code maxLocals ret World_1 tables_1 room_1 Calls_1 rest_1 Pre_1 Post := by
  intro l hfl _ _ p e ha hc hk s m args below hf hA hF happ hP
  obtain ⟨hcalls, hrest, hpre⟩ := hP
  obtain ⟨-, -, -, hnamed, -, -, -, hat⟩ := (Spec.applies_iff hf).mp happ
  obtain ⟨hg, hn⟩ := and_e (Cond.before_iff.mp (show (Jvm.Cond.and given_1 narrow_1).before args s = true from hpre))
  obtain ⟨ga1, gb1⟩ := and_e hg
  obtain ⟨ga2, gb2⟩ := and_e gb1
  obtain ⟨ga3, gb3⟩ := and_e gb2
  obtain ⟨w0, w1, w2, rfl⟩ : ∃ w0 w1 w2 : Value, args = #[w0, w1, w2] := by
    have hs : args.size = 3 := by simpa [Cond.value, given_1] using ga1
    obtain ⟨L⟩ := args
    match L, hs with
    | [w0, w1, w2], _ => exact ⟨w0, w1, w2, rfl⟩
  have hw := fun d (hd : d ∈ tables_1) => atoms_spec (ws := Jvm.Cond.code x code maxLocals ret :: tables_1) hat d (List.mem_cons_of_mem _ hd)
  have hfit : Fit s := fun {y c} hc i hi => by
    obtain ⟨ha, rfl⟩ := Array.getElem?_eq_some_iff.mp hc
    have q := List.all_eq_true.mp ((Array.all_eq_true_iff_forall_mem.mp hF) _ (Array.getElem_mem ha)) i (List.mem_range.mpr hi)
    simpa [Array.getElem?_eq_getElem hi] using q
  obtain ⟨hsets, hown0⟩ := atoms_of _ (rest_1_c_eq ▸ (show rest_1_c.before _ s = true from hrest))
  have hr0 := Cond.before_iff.mp hown0
  obtain ⟨i0, ei0⟩ := isL_v ga2
  obtain rfl : w0 = (.long i0) := Option.some.inj ei0
  obtain ⟨i1, ei1⟩ := isL_v ga3
  obtain rfl : w1 = (.long i1) := Option.some.inj ei1
  obtain ⟨i2, ei2⟩ := is_v gb3
  obtain rfl : w2 = (.int i2) := Option.some.inj ei2
  have hcs0 := Cond.before_iff.mp (hsets _ (List.mem_of_getElem? (i := 1) rfl))
  obtain ⟨cs, ecs⟩ := is_v hcs0
  have hcs1 := not_v (Cond.before_iff.mp (hsets _ (List.mem_of_getElem? (i := 2) rfl)))
  have hcs : ¬ cs = 0 := gotF (Cond.eq_ints ecs (Term.int_eval 0)) hcs1
  have S_cs : Sta s s.heap "java/lang/String" "COMPACT_STRINGS" "Z" (.int cs) := Sta.start ecs (Or.inl (hsets _ (List.mem_of_getElem? (i := 0) rfl)))
  have S_ad : Sta s s.heap "java/lang/StringUTF16" "$assertionsDisabled" "Z" (.int 1) := Sta.start (own_int_v (Cond.before_iff.mp (hsets _ (List.mem_of_getElem? (i := 16) rfl)))) (Or.inl (hsets _ (List.mem_of_getElem? (i := 15) rfl)))
  have S_hi : Sta s s.heap "java/lang/StringUTF16" "HI_BYTE_SHIFT" "I" (.int 0) := Sta.start (own_int_v (Cond.before_iff.mp (hsets _ (List.mem_of_getElem? (i := 19) rfl)))) (Or.inl (hsets _ (List.mem_of_getElem? (i := 18) rfl)))
  have S_lo : Sta s s.heap "java/lang/StringUTF16" "LO_BYTE_SHIFT" "I" (.int 8) := Sta.start (own_int_v (Cond.before_iff.mp (hsets _ (List.mem_of_getElem? (i := 22) rfl)))) (Or.inl (hsets _ (List.mem_of_getElem? (i := 21) rfl)))
  obtain ⟨f, ef⟩ := exa_v (Cond.before_iff.mp (hsets _ (List.mem_of_getElem? (i := 11) rfl)))
  have S_f : Sta s s.heap "java/lang/Boolean" "FALSE" "Ljava/lang/Boolean;" (.ref f) := Sta.start ef (Or.inl (hsets _ (List.mem_of_getElem? (i := 10) rfl)))
  have hld : Jvm.Lit.constHeld s "com/example/kohortd/kohortd/member/Member" 168 := hcalls.1 _ (List.mem_of_getElem? (i := 0) rfl)
  have hcw : Jvm.Lit.compactW.before _ s = true := (hsets _ (List.mem_of_getElem? (i := 2) rfl))
  obtain ⟨n, o, h1, h2, h3, _, L, rfl, ⟨rfl, N⟩, hq⟩ := rm0 l s _ hw i0 i1 i2 cs f s.heap s.heap.size (Nat.le_refl _) S_cs hcs S_ad S_hi S_lo S_f (fun _ _ q => q) hld hcw p e ha hc hk s m _ below hf ((Spec.applies_iff_loose hf).mp happ).1 ⟨rfl, State.Warmed39.refl s, rfl, rfl⟩ trivial
  refine ⟨n, _, h1, h2, h3, hpost _ _ _ _ _ _ ⟨Cond.after_iff.mpr rfl, Cond.after_iff.mpr (eq_i res_at (Term.int_eval (1)) rfl), trivial⟩ ⟨hq.1, hq.2.1, hq.2.2.1, (hq.2.2.2.sift fun y hy => Or.inr (N y hy)).mono (by decide) (by decide)⟩⟩
theorem main_1_1 : Claimed_1_1 := comes_1 fun _ _ _ _ _ _ h hF => ⟨h.1, hF⟩
theorem main_1_2 : Claimed_1_2 := comes_1 fun _ _ _ _ _ _ h hF => ⟨h.2.1, hF⟩
end Jvm.Pilot.@@N@@
namespace Jvm.Pilot.@@N@@
open Jvm Jvm.ClassFile Sem Op Lib Jvm.Free Jvm.Stand Jvm.Pilot.@@N@@.Jvm.D
/-! MADE BY PROGRAM (witnessworld.py) out of the Statement's table words and the real class files: 22 classes; the members and pool entries that the words name. The judged class is class 1, her method 3. -/
namespace start1
open Jvm.ClassFile
def u (s : String) : CpInfo := .utf8 (stringToUtf16 s)
/-- a pool by its gaps: so many unusable entries, then the entry; so many at the end -/
def gap : Nat → List CpInfo → List CpInfo
  | 0, r => r
  | n + 1, r => .unusable :: gap n r
def poolList (es : List (Nat × CpInfo)) (last : Nat) : List CpInfo := es.foldr (fun e r => gap e.1 (e.2 :: r)) (gap last [])
def pool (es : List (Nat × CpInfo)) (last : Nat) : Array CpInfo := ⟨poolList es last⟩
def fileOf (pool : Array CpInfo) (this : Nat) (attrs : Array Attribute := #[]) (ms : Array MethodInfo := #[]) (fl : Nat := 33) (sup : Nat := 0) (ifs : Array Nat := #[]) (fds : Array FieldInfo := #[]) : ClassFile where
  minorVersion := 0
  majorVersion := 65
  constantPool := pool
  accessFlags := fl
  thisClass := this
  superClass := sup
  interfaces := ifs
  fields := fds
  methods := ms
  attributes := attrs
def plain (name : String) (sup : Option ClassId) : Class where
  name := name
  kind := .ordinary
  loader := none
  accessFlags := 33
  super := sup
  interfaces := #[]
  cf := none
  fields := #[]
  methods := #[]
  instanceTypes := #[]
  staticTypes := #[]
  resolved := #[]
  callSites := []
  init := .initialized
  statics := none
  mirror := none

def pool0 : Array CpInfo := pool [(5, u "<init>"), (0, u "()V"), (1, .class_ 10), (1, u "java/lang/Object")] 113

def k0c0 : Code := { maxStack := 0, maxLocals := 1, code := object_method_1_code, exceptionTable := #[], attributes := #[] }
def k0m0 : Method := { name := "<init>", desc := "()V", sig := { parameters := [], returnType := none }, accessFlags := 1, code := some k0c0 }
/-- java/lang/Object -/
def k0 : Class := { plain "java/lang/Object" none with
  accessFlags := 33
  interfaces := #[]
  cf := some (fileOf pool0 8 #[] #[{ accessFlags := 1, nameIndex := 5, descriptorIndex := 6, attributes := #[] }] 33 0 #[] #[])
  fields := #[]
  methods := #[k0m0]
  instanceTypes := #[]
  staticTypes := #[]
  resolved := Array.replicate 124 none
  statics := none }

def pool1 : Array CpInfo := pool [(2, .class_ 4), (1, u "java/lang/Object"), (0, u "<init>"), (0, u "()V"), (0, .methodref 8 9), (0, .class_ 10), (0, .nameAndType 11 12), (0, u "com/example/kohortd/kohortd/member/MemberUnsetValuePinLaw"), (0, u "word"), (0, u "()[C"), (0, .class_ 14), (0, u "java/lang/String"), (0, .methodref 13 16), (0, .nameAndType 5 17), (0, u "([C)V"), (0, .long 255), (1, .methodref 8 21), (0, .nameAndType 22 23), (0, u "isWord"), (0, u "([C)Z"), (0, .long 65535), (1, .methodref 27 28), (0, .class_ 29), (0, .nameAndType 30 31), (0, u "com/example/kohortd/kohortd/member/Member"), (0, u "unsetValue"), (0, u "(Ljava/lang/String;)Ljava/lang/Object;"), (0, .fieldref 33 34), (0, .class_ 35), (0, .nameAndType 36 37), (0, u "java/lang/Boolean"), (0, u "FALSE"), (0, u "Ljava/lang/Boolean;"), (3, u "law"), (0, u "(JJI)Z")] 4

def k1m0 : Method := { name := "<init>", desc := "()V", sig := { parameters := [], returnType := none }, accessFlags := 1, code := none }
def k1c1 : Code := { maxStack := 4, maxLocals := 0, code := method_2_code, exceptionTable := #[], attributes := #[] }
def k1m1 : Method := { name := "word", desc := "()[C", sig := { parameters := [], returnType := some (.array .char) }, accessFlags := 10, code := some k1c1 }
def k1c2 : Code := { maxStack := 2, maxLocals := 1, code := method_3_code, exceptionTable := #[], attributes := #[] }
def k1m2 : Method := { name := "isWord", desc := "([C)Z", sig := { parameters := [(.array .char)], returnType := some .boolean }, accessFlags := 10, code := some k1c2 }
def k1c3 : Code := { maxStack := 6, maxLocals := 12, code := code, exceptionTable := #[], attributes := #[] }
def k1m3 : Method := { name := "law", desc := "(JJI)Z", sig := { parameters := [.long, .long, .int], returnType := some .boolean }, accessFlags := 9, code := some k1c3 }
/-- com/example/kohortd/kohortd/member/MemberUnsetValuePinLaw -/
def k1 : Class := { plain "com/example/kohortd/kohortd/member/MemberUnsetValuePinLaw" (some 0) with
  accessFlags := 49
  interfaces := #[]
  cf := some (fileOf pool1 8 #[] #[{ accessFlags := 1, nameIndex := 5, descriptorIndex := 6, attributes := #[] }, { accessFlags := 10, nameIndex := 11, descriptorIndex := 12, attributes := #[] }, { accessFlags := 10, nameIndex := 22, descriptorIndex := 23, attributes := #[] }, { accessFlags := 9, nameIndex := 41, descriptorIndex := 42, attributes := #[] }] 49 2 #[] #[])
  fields := #[]
  methods := #[k1m0, k1m1, k1m2, k1m3]
  instanceTypes := #[]
  staticTypes := #[]
  resolved := Array.replicate 47 none
  statics := none }

def pool2 : Array CpInfo := pool [(1, .class_ 2), (0, u "java/io/Serializable"), (0, .class_ 4), (0, u "java/lang/Object")] 2

/-- java/io/Serializable -/
def k2 : Class := { plain "java/io/Serializable" (some 0) with
  accessFlags := 1537
  interfaces := #[]
  cf := some (fileOf pool2 1 #[] #[] 1537 3 #[] #[])
  fields := #[]
  methods := #[]
  instanceTypes := #[]
  staticTypes := #[]
  resolved := Array.replicate 7 none
  statics := none }

def pool3 : Array CpInfo := pool [(1, .class_ 2), (0, u "java/lang/Comparable"), (0, .class_ 4), (0, u "java/lang/Object")] 7

/-- java/lang/Comparable -/
def k3 : Class := { plain "java/lang/Comparable" (some 0) with
  accessFlags := 1537
  interfaces := #[]
  cf := some (fileOf pool3 1 #[] #[] 1537 3 #[] #[])
  fields := #[]
  methods := #[]
  instanceTypes := #[]
  staticTypes := #[]
  resolved := Array.replicate 12 none
  statics := none }

def pool4 : Array CpInfo := pool [(2, .class_ 4), (1, u "java/lang/CharSequence"), (42, .class_ 48), (0, u "java/lang/CharSequence$1CodePointIterator"), (10, .class_ 60), (0, u "java/lang/CharSequence$1CharIterator"), (5, .class_ 67), (0, u "java/lang/Object")] 63

/-- java/lang/CharSequence -/
def k4 : Class := { plain "java/lang/CharSequence" (some 0) with
  accessFlags := 1537
  interfaces := #[]
  cf := some (fileOf pool4 2 #[.nestMembers #[47, 59]] #[] 1537 66 #[] #[])
  fields := #[]
  methods := #[]
  instanceTypes := #[]
  staticTypes := #[]
  resolved := Array.replicate 131 none
  statics := none }

def pool5 : Array CpInfo := pool [(1, .class_ 2), (0, u "java/lang/constant/Constable"), (0, .class_ 4), (0, u "java/lang/Object")] 6

/-- java/lang/constant/Constable -/
def k5 : Class := { plain "java/lang/constant/Constable" (some 0) with
  accessFlags := 1537
  interfaces := #[]
  cf := some (fileOf pool5 1 #[] #[] 1537 3 #[] #[])
  fields := #[]
  methods := #[]
  instanceTypes := #[]
  staticTypes := #[]
  resolved := Array.replicate 11 none
  statics := none }

def pool6 : Array CpInfo := pool [(1, .class_ 2), (0, u "java/lang/constant/ConstantDesc"), (0, .class_ 4), (0, u "java/lang/Object")] 32

/-- java/lang/constant/ConstantDesc -/
def k6 : Class := { plain "java/lang/constant/ConstantDesc" (some 0) with
  accessFlags := 1537
  interfaces := #[]
  cf := some (fileOf pool6 1 #[] #[] 1537 3 #[] #[])
  fields := #[]
  methods := #[]
  instanceTypes := #[]
  staticTypes := #[]
  resolved := Array.replicate 37 none
  statics := none }

def pool7 : Array CpInfo := pool [(1, .methodref 2 3), (0, .class_ 4), (0, .nameAndType 5 6), (0, u "java/lang/Object"), (0, u "<init>"), (0, u "()V"), (2, .fieldref 10 11), (0, .class_ 12), (0, .nameAndType 13 14), (0, u "java/lang/String"), (0, u "value"), (0, u "[B"), (0, .fieldref 10 16), (0, .nameAndType 17 18), (0, u "coder"), (0, u "B"), (2, u "hash"), (0, u "I"), (2, u "hashIsZero"), (0, u "Z"), (0, .methodref 10 28), (0, .nameAndType 5 29), (0, u "([CIILjava/lang/Void;)V"), (8, .fieldref 10 39), (0, .nameAndType 40 26), (0, u "COMPACT_STRINGS"), (1, .class_ 44), (1, u "java/lang/StringUTF16"), (0, u "compress"), (1, .methodref 42 48), (0, .nameAndType 49 50), (0, u "coderFromArrayLen"), (0, u "([BI)B"), (56, .class_ 109), (1, u "java/lang/StringLatin1"), (67, .methodref 42 178), (0, .nameAndType 45 179), (0, u "([CII)[B"), (361, .methodref 107 542), (0, .nameAndType 543 544), (0, u "equals"), (0, u "([B[B)Z"), (28, u "(Ljava/lang/Object;)Z"), (1, .class_ 576), (0, u "java/lang/CharSequence"), (22, u "CASE_INSENSITIVE_ORDER"), (0, u "Ljava/util/Comparator;"), (409, u "([C)V"), (90, u "serialPersistentFields"), (0, u "[Ljava/io/ObjectStreamField;"), (0, .class_ 1104), (0, u "java/lang/String$CaseInsensitiveComparator"), (1, .class_ 1107), (0, u "java/io/Serializable"), (0, .class_ 1109), (0, u "java/lang/Comparable"), (0, .class_ 1111), (0, u "java/lang/constant/Constable"), (0, .class_ 1113), (0, u "java/lang/constant/ConstantDesc"), (2, u "serialVersionUID"), (0, u "J"), (3, u "REPL"), (0, u "C"), (2, u "LATIN1"), (1, u "UTF16")] 323

def k7m0 : Method := { name := "<init>", desc := "()V", sig := { parameters := [], returnType := none }, accessFlags := 1, code := none }
def k7c1 : Code := { maxStack := 5, maxLocals := 2, code := jdk_42_method_3_code, exceptionTable := #[], attributes := #[] }
def k7m1 : Method := { name := "<init>", desc := "([C)V", sig := { parameters := [(.array .char)], returnType := none }, accessFlags := 1, code := some k7c1 }
def k7c2 : Code := { maxStack := 2, maxLocals := 3, code := jdk_42_method_66_code, exceptionTable := #[], attributes := #[] }
def k7m2 : Method := { name := "equals", desc := "(Ljava/lang/Object;)Z", sig := { parameters := [(.object "java/lang/Object")], returnType := some .boolean }, accessFlags := 1, code := some k7c2 }
def k7c3 : Code := { maxStack := 4, maxLocals := 6, code := jdk_42_method_149_code, exceptionTable := #[], attributes := #[] }
def k7m3 : Method := { name := "<init>", desc := "([CIILjava/lang/Void;)V", sig := { parameters := [(.array .char), .int, .int, (.object "java/lang/Void")], returnType := none }, accessFlags := 2, code := some k7c3 }
/-- java/lang/String -/
def k7 : Class := { plain "java/lang/String" (some 0) with
  accessFlags := 49
  interfaces := #[2, 3, 4, 5, 6]
  cf := some (fileOf pool7 10 #[.nestMembers #[1103]] #[{ accessFlags := 1, nameIndex := 5, descriptorIndex := 6, attributes := #[] }, { accessFlags := 1, nameIndex := 5, descriptorIndex := 1010, attributes := #[] }, { accessFlags := 1, nameIndex := 543, descriptorIndex := 573, attributes := #[] }, { accessFlags := 2, nameIndex := 5, descriptorIndex := 29, attributes := #[] }] 49 2 #[1106, 1108, 575, 1110, 1112] #[{ accessFlags := 18, nameIndex := 13, descriptorIndex := 14, attributes := #[] }, { accessFlags := 18, nameIndex := 17, descriptorIndex := 18, attributes := #[] }, { accessFlags := 2, nameIndex := 21, descriptorIndex := 22, attributes := #[] }, { accessFlags := 2, nameIndex := 25, descriptorIndex := 26, attributes := #[] }, { accessFlags := 26, nameIndex := 1116, descriptorIndex := 1117, attributes := #[] }, { accessFlags := 24, nameIndex := 40, descriptorIndex := 26, attributes := #[] }, { accessFlags := 26, nameIndex := 1101, descriptorIndex := 1102, attributes := #[] }, { accessFlags := 26, nameIndex := 1121, descriptorIndex := 1122, attributes := #[] }, { accessFlags := 25, nameIndex := 599, descriptorIndex := 600, attributes := #[] }, { accessFlags := 24, nameIndex := 1125, descriptorIndex := 18, attributes := #[] }, { accessFlags := 24, nameIndex := 1127, descriptorIndex := 18, attributes := #[] }])
  fields := #[{ name := "value", type := (.array .byte), accessFlags := 18, slot := 0, constantValue := 0 }, { name := "coder", type := .byte, accessFlags := 18, slot := 1, constantValue := 0 }, { name := "hash", type := .int, accessFlags := 2, slot := 2, constantValue := 0 }, { name := "hashIsZero", type := .boolean, accessFlags := 2, slot := 3, constantValue := 0 }, { name := "serialVersionUID", type := .long, accessFlags := 26, slot := 0, constantValue := 0 }, { name := "COMPACT_STRINGS", type := .boolean, accessFlags := 24, slot := 1, constantValue := 0 }, { name := "serialPersistentFields", type := (.array (.object "java/io/ObjectStreamField")), accessFlags := 26, slot := 2, constantValue := 0 }, { name := "REPL", type := .char, accessFlags := 26, slot := 3, constantValue := 0 }, { name := "CASE_INSENSITIVE_ORDER", type := (.object "java/util/Comparator"), accessFlags := 25, slot := 4, constantValue := 0 }, { name := "LATIN1", type := .byte, accessFlags := 24, slot := 5, constantValue := 0 }, { name := "UTF16", type := .byte, accessFlags := 24, slot := 6, constantValue := 0 }]
  methods := #[k7m0, k7m1, k7m2, k7m3]
  instanceTypes := #[(.array .byte), .byte, .int, .boolean]
  staticTypes := #[.long, .boolean, (.array (.object "java/io/ObjectStreamField")), .char, (.object "java/util/Comparator"), .byte, .byte]
  resolved := Array.replicate 1451 none
  statics := some 0 }

def pool8 : Array CpInfo := pool [(6, .class_ 8), (1, u "java/lang/Object"), (0, u "<init>"), (0, u "()V"), (0, .methodref 12 13), (0, .class_ 14), (0, .nameAndType 15 16), (0, u "java/lang/StringUTF16"), (0, u "newBytesLength"), (0, u "(I)I"), (3, .integer 1073741823), (23, .fieldref 12 45), (0, .nameAndType 46 47), (0, u "$assertionsDisabled"), (0, u "Z"), (11, .fieldref 12 60), (0, .nameAndType 61 62), (0, u "HI_BYTE_SHIFT"), (0, u "I"), (0, .fieldref 12 64), (0, .nameAndType 65 62), (0, u "LO_BYTE_SHIFT"), (5, .methodref 12 72), (0, .nameAndType 73 74), (0, u "getChar"), (0, u "([BI)C"), (32, .methodref 12 108), (0, .nameAndType 109 110), (0, u "newBytesFor"), (0, u "(I)[B"), (0, .methodref 12 112), (0, .nameAndType 113 114), (0, u "putChar"), (0, u "([BII)V"), (0, .methodref 12 116), (0, .nameAndType 117 118), (0, u "compress"), (0, u "([CI[BII)I"), (0, .methodref 12 120), (0, .nameAndType 121 122), (0, u "toBytes"), (0, u "([CII)[B"), (138, u "coderFromArrayLen"), (0, u "([BI)B"), (106, .class_ 371), (1, u "java/lang/StringUTF16$LinesSpliterator"), (58, u "MAX_LENGTH"), (196, .class_ 628), (0, u "java/lang/StringUTF16$CodePointsSpliterator"), (0, .class_ 630), (0, u "java/lang/StringUTF16$CharsSpliterator")] 4

def k8m0 : Method := { name := "<init>", desc := "()V", sig := { parameters := [], returnType := none }, accessFlags := 0, code := none }
def k8c1 : Code := { maxStack := 1, maxLocals := 1, code := jdk_52_method_2_code, exceptionTable := #[], attributes := #[] }
def k8m1 : Method := { name := "newBytesFor", desc := "(I)[B", sig := { parameters := [.int], returnType := some (.array .byte) }, accessFlags := 9, code := some k8c1 }
def k8c2 : Code := { maxStack := 4, maxLocals := 1, code := jdk_52_method_3_code, exceptionTable := #[], attributes := #[] }
def k8m2 : Method := { name := "newBytesLength", desc := "(I)I", sig := { parameters := [.int], returnType := some .int }, accessFlags := 9, code := some k8c2 }
def k8c3 : Code := { maxStack := 4, maxLocals := 3, code := jdk_52_method_4_code, exceptionTable := #[], attributes := #[] }
def k8m3 : Method := { name := "putChar", desc := "([BII)V", sig := { parameters := [(.array .byte), .int, .int], returnType := none }, accessFlags := 8, code := some k8c3 }
def k8c4 : Code := { maxStack := 3, maxLocals := 2, code := jdk_52_method_5_code, exceptionTable := #[], attributes := #[] }
def k8m4 : Method := { name := "getChar", desc := "([BI)C", sig := { parameters := [(.array .byte), .int], returnType := some .char }, accessFlags := 8, code := some k8c4 }
def k8c5 : Code := { maxStack := 4, maxLocals := 5, code := jdk_52_method_14_code, exceptionTable := #[], attributes := #[] }
def k8m5 : Method := { name := "toBytes", desc := "([CII)[B", sig := { parameters := [(.array .char), .int, .int], returnType := some (.array .byte) }, accessFlags := 9, code := some k8c5 }
def k8c6 : Code := { maxStack := 2, maxLocals := 2, code := jdk_52_method_15_code, exceptionTable := #[], attributes := #[] }
def k8m6 : Method := { name := "coderFromArrayLen", desc := "([BI)B", sig := { parameters := [(.array .byte), .int], returnType := some .byte }, accessFlags := 8, code := some k8c6 }
def k8c7 : Code := { maxStack := 5, maxLocals := 6, code := jdk_52_method_16_code, exceptionTable := #[], attributes := #[] }
def k8m7 : Method := { name := "compress", desc := "([CII)[B", sig := { parameters := [(.array .char), .int, .int], returnType := some (.array .byte) }, accessFlags := 9, code := some k8c7 }
def k8c8 : Code := { maxStack := 3, maxLocals := 7, code := jdk_52_method_21_code, exceptionTable := #[], attributes := #[] }
def k8m8 : Method := { name := "compress", desc := "([CI[BII)I", sig := { parameters := [(.array .char), .int, (.array .byte), .int, .int], returnType := some .int }, accessFlags := 9, code := some k8c8 }
/-- java/lang/StringUTF16 -/
def k8 : Class := { plain "java/lang/StringUTF16" (some 0) with
  accessFlags := 48
  interfaces := #[]
  cf := some (fileOf pool8 12 #[.nestMembers #[627, 629, 369]] #[{ accessFlags := 0, nameIndex := 9, descriptorIndex := 10, attributes := #[] }, { accessFlags := 9, nameIndex := 109, descriptorIndex := 110, attributes := #[] }, { accessFlags := 9, nameIndex := 15, descriptorIndex := 16, attributes := #[] }, { accessFlags := 8, nameIndex := 113, descriptorIndex := 114, attributes := #[] }, { accessFlags := 8, nameIndex := 73, descriptorIndex := 74, attributes := #[] }, { accessFlags := 9, nameIndex := 121, descriptorIndex := 122, attributes := #[] }, { accessFlags := 8, nameIndex := 261, descriptorIndex := 262, attributes := #[] }, { accessFlags := 9, nameIndex := 117, descriptorIndex := 122, attributes := #[] }, { accessFlags := 9, nameIndex := 117, descriptorIndex := 118, attributes := #[] }] 48 6 #[] #[{ accessFlags := 26, nameIndex := 61, descriptorIndex := 62, attributes := #[] }, { accessFlags := 26, nameIndex := 65, descriptorIndex := 62, attributes := #[] }, { accessFlags := 24, nameIndex := 430, descriptorIndex := 62, attributes := #[] }, { accessFlags := 4120, nameIndex := 46, descriptorIndex := 47, attributes := #[] }])
  fields := #[{ name := "HI_BYTE_SHIFT", type := .int, accessFlags := 26, slot := 0, constantValue := 0 }, { name := "LO_BYTE_SHIFT", type := .int, accessFlags := 26, slot := 1, constantValue := 0 }, { name := "MAX_LENGTH", type := .int, accessFlags := 24, slot := 2, constantValue := 0 }, { name := "$assertionsDisabled", type := .boolean, accessFlags := 4120, slot := 3, constantValue := 0 }]
  methods := #[k8m0, k8m1, k8m2, k8m3, k8m4, k8m5, k8m6, k8m7, k8m8]
  instanceTypes := #[]
  staticTypes := #[.int, .int, .int, .boolean]
  resolved := Array.replicate 635 none
  statics := some 1 }

def pool9 : Array CpInfo := pool [(2, .class_ 4), (1, u "java/lang/Object"), (0, u "<init>"), (0, u "()V"), (0, .class_ 8), (0, u "java/lang/Record")] 13

def k9m0 : Method := { name := "<init>", desc := "()V", sig := { parameters := [], returnType := none }, accessFlags := 4, code := none }
/-- java/lang/Record -/
def k9 : Class := { plain "java/lang/Record" (some 0) with
  accessFlags := 1057
  interfaces := #[]
  cf := some (fileOf pool9 7 #[] #[{ accessFlags := 4, nameIndex := 5, descriptorIndex := 6, attributes := #[] }] 1057 2 #[] #[])
  fields := #[]
  methods := #[k9m0]
  instanceTypes := #[]
  staticTypes := #[]
  resolved := Array.replicate 22 none
  statics := none }

def pool10 : Array CpInfo := pool [(2, .class_ 4), (1, u "java/lang/Record"), (3, u "statusName"), (7, u "membershipDate"), (1, u "updatedAt"), (7, u "reachedSuccessDate"), (14, .class_ 43), (1, u "com/example/kohortd/kohortd/member/Member"), (4, u "programId"), (0, u "J"), (2, u "leadId"), (2, u "Ljava/lang/String;"), (2, u "acquiredBy"), (0, u "Z"), (2, u "reachedSuccess"), (2, u "Ljava/time/Instant;"), (6, u "values"), (0, u "Ljava/util/Map;"), (42, .class_ 117), (0, u "java/lang/String"), (50, .string 169), (0, u "isExhausted"), (0, .methodref 116 171), (0, .nameAndType 172 173), (0, u "equals"), (0, u "(Ljava/lang/Object;)Z"), (0, .fieldref 175 176), (0, .class_ 177), (0, .nameAndType 178 179), (0, u "java/lang/Boolean"), (0, u "FALSE"), (0, u "Ljava/lang/Boolean;"), (22, u "unsetValue"), (0, u "(Ljava/lang/String;)Ljava/lang/Object;")] 40

def k10c0 : Code := { maxStack := 2, maxLocals := 1, code := prog_45_method_6_code, exceptionTable := #[], attributes := #[] }
def k10m0 : Method := { name := "unsetValue", desc := "(Ljava/lang/String;)Ljava/lang/Object;", sig := { parameters := [(.object "java/lang/String")], returnType := some (.object "java/lang/Object") }, accessFlags := 9, code := some k10c0 }
/-- com/example/kohortd/kohortd/member/Member -/
def k10 : Class := { plain "com/example/kohortd/kohortd/member/Member" (some 9) with
  accessFlags := 49
  interfaces := #[]
  cf := some (fileOf pool10 41 #[] #[{ accessFlags := 9, nameIndex := 202, descriptorIndex := 203, attributes := #[] }] 49 2 #[] #[{ accessFlags := 18, nameIndex := 48, descriptorIndex := 49, attributes := #[] }, { accessFlags := 18, nameIndex := 52, descriptorIndex := 49, attributes := #[] }, { accessFlags := 18, nameIndex := 8, descriptorIndex := 55, attributes := #[] }, { accessFlags := 18, nameIndex := 58, descriptorIndex := 59, attributes := #[] }, { accessFlags := 18, nameIndex := 62, descriptorIndex := 59, attributes := #[] }, { accessFlags := 18, nameIndex := 26, descriptorIndex := 65, attributes := #[] }, { accessFlags := 18, nameIndex := 16, descriptorIndex := 65, attributes := #[] }, { accessFlags := 18, nameIndex := 18, descriptorIndex := 65, attributes := #[] }, { accessFlags := 18, nameIndex := 72, descriptorIndex := 73, attributes := #[] }])
  fields := #[{ name := "programId", type := .long, accessFlags := 18, slot := 0, constantValue := 0 }, { name := "leadId", type := .long, accessFlags := 18, slot := 1, constantValue := 0 }, { name := "statusName", type := (.object "java/lang/String"), accessFlags := 18, slot := 2, constantValue := 0 }, { name := "acquiredBy", type := .boolean, accessFlags := 18, slot := 3, constantValue := 0 }, { name := "reachedSuccess", type := .boolean, accessFlags := 18, slot := 4, constantValue := 0 }, { name := "reachedSuccessDate", type := (.object "java/time/Instant"), accessFlags := 18, slot := 5, constantValue := 0 }, { name := "membershipDate", type := (.object "java/time/Instant"), accessFlags := 18, slot := 6, constantValue := 0 }, { name := "updatedAt", type := (.object "java/time/Instant"), accessFlags := 18, slot := 7, constantValue := 0 }, { name := "values", type := (.object "java/util/Map"), accessFlags := 18, slot := 8, constantValue := 0 }]
  methods := #[k10m0]
  instanceTypes := #[.long, .long, (.object "java/lang/String"), .boolean, .boolean, (.object "java/time/Instant"), (.object "java/time/Instant"), (.object "java/time/Instant"), (.object "java/util/Map")]
  staticTypes := #[]
  resolved := Array.replicate 244 none
  statics := none }

def pool11 : Array CpInfo := pool [(4, .class_ 6), (1, u "java/lang/Object"), (0, u "<init>"), (0, u "()V"), (5, .class_ 16), (1, u "java/lang/StringLatin1"), (104, u "$assertionsDisabled"), (0, u "Z"), (98, .class_ 223), (1, u "java/lang/StringLatin1$LinesSpliterator"), (57, u "equals"), (0, u "([B[B)Z"), (107, .class_ 391), (0, u "java/lang/StringLatin1$CharsSpliterator")] 3

def k11m0 : Method := { name := "<init>", desc := "()V", sig := { parameters := [], returnType := none }, accessFlags := 0, code := none }
def k11c1 : Code := { maxStack := 3, maxLocals := 3, code := jdk_43_method_13_code, exceptionTable := #[], attributes := #[] }
def k11m1 : Method := { name := "equals", desc := "([B[B)Z", sig := { parameters := [(.array .byte), (.array .byte)], returnType := some .boolean }, accessFlags := 9, code := some k11c1 }
/-- java/lang/StringLatin1 -/
def k11 : Class := { plain "java/lang/StringLatin1" (some 0) with
  accessFlags := 48
  interfaces := #[]
  cf := some (fileOf pool11 14 #[.nestMembers #[390, 221]] #[{ accessFlags := 0, nameIndex := 7, descriptorIndex := 8, attributes := #[] }, { accessFlags := 9, nameIndex := 281, descriptorIndex := 282, attributes := #[] }] 48 4 #[] #[{ accessFlags := 4120, nameIndex := 121, descriptorIndex := 122, attributes := #[] }])
  fields := #[{ name := "$assertionsDisabled", type := .boolean, accessFlags := 4120, slot := 0, constantValue := 0 }]
  methods := #[k11m0, k11m1]
  instanceTypes := #[]
  staticTypes := #[.boolean]
  resolved := Array.replicate 395 none
  statics := none }

def pool12 : Array CpInfo := pool [(2, .class_ 4), (1, u "java/lang/Object"), (3, .class_ 10), (1, u "java/lang/Boolean"), (0, u "value"), (0, u "Z"), (16, u "TRUE"), (0, u "Ljava/lang/Boolean;"), (2, u "FALSE"), (53, u "TYPE"), (0, u "Ljava/lang/Class;"), (0, .class_ 90), (0, u "java/io/Serializable"), (0, .class_ 92), (0, u "java/lang/Comparable"), (0, .class_ 94), (0, u "java/lang/constant/Constable"), (2, u "serialVersionUID"), (0, u "J")] 53

/-- java/lang/Boolean -/
def k12 : Class := { plain "java/lang/Boolean" (some 0) with
  accessFlags := 49
  interfaces := #[2, 3, 5]
  cf := some (fileOf pool12 8 #[] #[] 49 2 #[89, 91, 93] #[{ accessFlags := 25, nameIndex := 29, descriptorIndex := 30, attributes := #[] }, { accessFlags := 25, nameIndex := 33, descriptorIndex := 30, attributes := #[] }, { accessFlags := 25, nameIndex := 87, descriptorIndex := 88, attributes := #[] }, { accessFlags := 18, nameIndex := 11, descriptorIndex := 12, attributes := #[] }, { accessFlags := 26, nameIndex := 97, descriptorIndex := 98, attributes := #[] }])
  fields := #[{ name := "TRUE", type := (.object "java/lang/Boolean"), accessFlags := 25, slot := 0, constantValue := 0 }, { name := "FALSE", type := (.object "java/lang/Boolean"), accessFlags := 25, slot := 1, constantValue := 0 }, { name := "TYPE", type := (.object "java/lang/Class"), accessFlags := 25, slot := 2, constantValue := 0 }, { name := "value", type := .boolean, accessFlags := 18, slot := 0, constantValue := 0 }, { name := "serialVersionUID", type := .long, accessFlags := 26, slot := 3, constantValue := 0 }]
  methods := #[]
  instanceTypes := #[.boolean]
  staticTypes := #[(.object "java/lang/Boolean"), (.object "java/lang/Boolean"), (.object "java/lang/Class"), .long]
  resolved := Array.replicate 152 none
  statics := some 2 }

def pool13 : Array CpInfo := pool [(2, .class_ 4), (1, u "java/lang/Object"), (0, u "<init>"), (0, u "()V"), (17, .class_ 26), (1, u "jdk/internal/util/Preconditions"), (28, .class_ 56), (0, u "jdk/internal/util/Preconditions$4"), (57, .class_ 115), (0, u "jdk/internal/util/Preconditions$1"), (7, u "SIOOBE_FORMATTER"), (0, u "Ljava/util/function/BiFunction;"), (0, .class_ 126), (0, u "jdk/internal/util/Preconditions$2"), (3, u "AIOOBE_FORMATTER"), (0, .class_ 132), (0, u "jdk/internal/util/Preconditions$3"), (3, u "IOOBE_FORMATTER")] 57

def k13m0 : Method := { name := "<init>", desc := "()V", sig := { parameters := [], returnType := none }, accessFlags := 1, code := none }
/-- jdk/internal/util/Preconditions -/
def k13 : Class := { plain "jdk/internal/util/Preconditions" (some 0) with
  accessFlags := 33
  interfaces := #[]
  cf := some (fileOf pool13 24 #[.nestMembers #[55, 131, 125, 114]] #[{ accessFlags := 1, nameIndex := 5, descriptorIndex := 6, attributes := #[] }] 33 2 #[] #[{ accessFlags := 25, nameIndex := 123, descriptorIndex := 124, attributes := #[] }, { accessFlags := 25, nameIndex := 130, descriptorIndex := 124, attributes := #[] }, { accessFlags := 25, nameIndex := 136, descriptorIndex := 124, attributes := #[] }])
  fields := #[{ name := "SIOOBE_FORMATTER", type := (.object "java/util/function/BiFunction"), accessFlags := 25, slot := 0, constantValue := 0 }, { name := "AIOOBE_FORMATTER", type := (.object "java/util/function/BiFunction"), accessFlags := 25, slot := 1, constantValue := 0 }, { name := "IOOBE_FORMATTER", type := (.object "java/util/function/BiFunction"), accessFlags := 25, slot := 2, constantValue := 0 }]
  methods := #[k13m0]
  instanceTypes := #[]
  staticTypes := #[(.object "java/util/function/BiFunction"), (.object "java/util/function/BiFunction"), (.object "java/util/function/BiFunction")]
  resolved := Array.replicate 194 none
  statics := some 3 }

def pool14 : Array CpInfo := pool [(9, u "<init>"), (6, .class_ 18), (1, u "java/lang/Object"), (0, u "()V"), (1, .class_ 23), (1, u "jdk/internal/util/ArraysSupport"), (0, u "LOG2_ARRAY_LONG_INDEX_SCALE"), (0, u "I"), (2, u "U"), (0, u "Ljdk/internal/misc/Unsafe;"), (8, u "BIG_ENDIAN"), (0, u "Z"), (8, u "LOG2_BYTE_BIT_SIZE"), (4, u "LOG2_ARRAY_INT_INDEX_SCALE"), (54, u "JLA"), (0, u "Ljdk/internal/access/JavaLangAccess;"), (11, u "LOG2_ARRAY_BOOLEAN_INDEX_SCALE"), (9, u "LOG2_ARRAY_BYTE_INDEX_SCALE"), (5, u "LOG2_ARRAY_CHAR_INDEX_SCALE"), (5, u "LOG2_ARRAY_SHORT_INDEX_SCALE"), (18, u "LOG2_ARRAY_FLOAT_INDEX_SCALE"), (24, u "LOG2_ARRAY_DOUBLE_INDEX_SCALE"), (89, u "T_BOOLEAN"), (2, u "T_CHAR"), (1, u "T_FLOAT"), (1, u "T_DOUBLE"), (1, u "T_BYTE"), (1, u "T_SHORT"), (1, u "T_INT"), (1, u "T_LONG"), (1, u "SOFT_MAX_ARRAY_LENGTH")] 83

def k14m0 : Method := { name := "<init>", desc := "()V", sig := { parameters := [], returnType := none }, accessFlags := 2, code := none }
/-- jdk/internal/util/ArraysSupport -/
def k14 : Class := { plain "jdk/internal/util/ArraysSupport" (some 0) with
  accessFlags := 33
  interfaces := #[]
  cf := some (fileOf pool14 21 #[] #[{ accessFlags := 2, nameIndex := 9, descriptorIndex := 19, attributes := #[] }] 33 16 #[] #[{ accessFlags := 24, nameIndex := 28, descriptorIndex := 29, attributes := #[] }, { accessFlags := 26, nameIndex := 38, descriptorIndex := 39, attributes := #[] }, { accessFlags := 25, nameIndex := 121, descriptorIndex := 25, attributes := #[] }, { accessFlags := 25, nameIndex := 131, descriptorIndex := 25, attributes := #[] }, { accessFlags := 25, nameIndex := 137, descriptorIndex := 25, attributes := #[] }, { accessFlags := 25, nameIndex := 143, descriptorIndex := 25, attributes := #[] }, { accessFlags := 25, nameIndex := 53, descriptorIndex := 25, attributes := #[] }, { accessFlags := 25, nameIndex := 24, descriptorIndex := 25, attributes := #[] }, { accessFlags := 25, nameIndex := 162, descriptorIndex := 25, attributes := #[] }, { accessFlags := 25, nameIndex := 187, descriptorIndex := 25, attributes := #[] }, { accessFlags := 26, nameIndex := 48, descriptorIndex := 25, attributes := #[] }, { accessFlags := 25, nameIndex := 277, descriptorIndex := 25, attributes := #[] }, { accessFlags := 25, nameIndex := 280, descriptorIndex := 25, attributes := #[] }, { accessFlags := 25, nameIndex := 282, descriptorIndex := 25, attributes := #[] }, { accessFlags := 25, nameIndex := 284, descriptorIndex := 25, attributes := #[] }, { accessFlags := 25, nameIndex := 286, descriptorIndex := 25, attributes := #[] }, { accessFlags := 25, nameIndex := 288, descriptorIndex := 25, attributes := #[] }, { accessFlags := 25, nameIndex := 290, descriptorIndex := 25, attributes := #[] }, { accessFlags := 25, nameIndex := 292, descriptorIndex := 25, attributes := #[] }, { accessFlags := 26, nameIndex := 108, descriptorIndex := 109, attributes := #[] }, { accessFlags := 25, nameIndex := 294, descriptorIndex := 25, attributes := #[] }])
  fields := #[{ name := "U", type := (.object "jdk/internal/misc/Unsafe"), accessFlags := 24, slot := 0, constantValue := 0 }, { name := "BIG_ENDIAN", type := .boolean, accessFlags := 26, slot := 1, constantValue := 0 }, { name := "LOG2_ARRAY_BOOLEAN_INDEX_SCALE", type := .int, accessFlags := 25, slot := 2, constantValue := 0 }, { name := "LOG2_ARRAY_BYTE_INDEX_SCALE", type := .int, accessFlags := 25, slot := 3, constantValue := 0 }, { name := "LOG2_ARRAY_CHAR_INDEX_SCALE", type := .int, accessFlags := 25, slot := 4, constantValue := 0 }, { name := "LOG2_ARRAY_SHORT_INDEX_SCALE", type := .int, accessFlags := 25, slot := 5, constantValue := 0 }, { name := "LOG2_ARRAY_INT_INDEX_SCALE", type := .int, accessFlags := 25, slot := 6, constantValue := 0 }, { name := "LOG2_ARRAY_LONG_INDEX_SCALE", type := .int, accessFlags := 25, slot := 7, constantValue := 0 }, { name := "LOG2_ARRAY_FLOAT_INDEX_SCALE", type := .int, accessFlags := 25, slot := 8, constantValue := 0 }, { name := "LOG2_ARRAY_DOUBLE_INDEX_SCALE", type := .int, accessFlags := 25, slot := 9, constantValue := 0 }, { name := "LOG2_BYTE_BIT_SIZE", type := .int, accessFlags := 26, slot := 10, constantValue := 0 }, { name := "T_BOOLEAN", type := .int, accessFlags := 25, slot := 11, constantValue := 0 }, { name := "T_CHAR", type := .int, accessFlags := 25, slot := 12, constantValue := 0 }, { name := "T_FLOAT", type := .int, accessFlags := 25, slot := 13, constantValue := 0 }, { name := "T_DOUBLE", type := .int, accessFlags := 25, slot := 14, constantValue := 0 }, { name := "T_BYTE", type := .int, accessFlags := 25, slot := 15, constantValue := 0 }, { name := "T_SHORT", type := .int, accessFlags := 25, slot := 16, constantValue := 0 }, { name := "T_INT", type := .int, accessFlags := 25, slot := 17, constantValue := 0 }, { name := "T_LONG", type := .int, accessFlags := 25, slot := 18, constantValue := 0 }, { name := "JLA", type := (.object "jdk/internal/access/JavaLangAccess"), accessFlags := 26, slot := 19, constantValue := 0 }, { name := "SOFT_MAX_ARRAY_LENGTH", type := .int, accessFlags := 25, slot := 20, constantValue := 0 }]
  methods := #[k14m0]
  instanceTypes := #[]
  staticTypes := #[(.object "jdk/internal/misc/Unsafe"), .boolean, .int, .int, .int, .int, .int, .int, .int, .int, .int, .int, .int, .int, .int, .int, .int, .int, .int, (.object "jdk/internal/access/JavaLangAccess"), .int]
  resolved := Array.replicate 378 none
  statics := none }

def pool15 : Array CpInfo := pool [(1, u "java/lang/Cloneable"), (0, .class_ 1), (0, u "java/lang/Object"), (0, .class_ 3)] 3

/-- java/lang/Cloneable -/
def k15 : Class := { plain "java/lang/Cloneable" (some 0) with
  accessFlags := 1537
  interfaces := #[]
  cf := some (fileOf pool15 2 #[] #[] 1537 4 #[] #[])
  fields := #[]
  methods := #[]
  instanceTypes := #[]
  staticTypes := #[]
  resolved := Array.replicate 8 none
  statics := none }

/-- the primitive byte -/
def k16 : Class := { plain "byte" none with kind := .primitive 'B', accessFlags := 0x411 }
/-- [B -/
def k17 : Class := { plain "[B" (some 0) with kind := .array 16 .byte, interfaces := #[15, 2], accessFlags := 1041 }

/-- the primitive char -/
def k18 : Class := { plain "char" none with kind := .primitive 'C', accessFlags := 0x411 }
/-- [C -/
def k19 : Class := { plain "[C" (some 0) with kind := .array 18 .char, interfaces := #[15, 2], accessFlags := 1041 }

/-- the primitive int -/
def k20 : Class := { plain "int" none with kind := .primitive 'I', accessFlags := 0x411 }
/-- [I -/
def k21 : Class := { plain "[I" (some 0) with kind := .array 20 .int, interfaces := #[15, 2], accessFlags := 1041 }

def heap : Heap := #[{ cls := 7, slots := #[.long 0, .int 1, .null, .int 0, .null, .int 0, .int 0], vm := .statics 7 },
  { cls := 8, slots := #[.int 0, .int 8, .int 0, .int 1], vm := .statics 8 },
  { cls := 12, slots := #[.null, .ref 6, .null, .long 0], vm := .statics 12 },
  { cls := 13, slots := #[.null, .null, .null], vm := .statics 13 },
  { cls := 7, slots := #[.ref 5, .int 0, .int 0, .int 0], vm := .none },
  { cls := 17, slots := #[.int 105, .int 115, .int 69, .int 120, .int 104, .int 97, .int 117, .int 115, .int 116, .int 101, .int 100], vm := .none },
  { cls := 12, slots := #[.int 0], vm := .none }]
def classes : Array Class := #[k0, k1, k2, k3, k4, k5, k6, k7, k8, k9, k10, k11, k12, k13, k14, k15, k16, k17, k18, k19, k20, k21]
def interned : List (Array UInt16 × Addr) := [(#[105, 115, 69, 120, 104, 97, 117, 115, 116, 101, 100], 4)]
def slotsUsed : Nat := 34
def theMethod : MethodId := ⟨1, 3⟩
def args0 : Array Value := #[.long 5, .long 9, .int 3]
def aboutOver (below : List Frame) : State where
  vm := { classes := classes, interned := interned.toArray }
  heap := heap
  slotsUsed := slotsUsed
  threads := #[{ frames := .invoking theMethod args0 :: below }]
def below0 : List Frame := [.native { method := ⟨0, 0⟩, args := #[] }]
def about1 : State := aboutOver below0
def p0 : Program := .bare "" "" ""
def e0 : Env := launch0.env 0 0 0
theorem w_frames : about1.frames = Frame.invoking theMethod args0 :: below0 := rfl
set_option maxRecDepth 65536 in
theorem w_args : argsFit about1.vm theMethod args0 = true := by decide +kernel
set_option maxRecDepth 65536 in
theorem w_heap : heapFits about1 = true := by decide +kernel
set_option maxRecDepth 65536 in
theorem w_runnable : about1.curStatus? = some .runnable := by decide +kernel
set_option maxRecDepth 65536 in
theorem w_alone : about1.alone = true := by decide +kernel
set_option maxRecDepth 65536 in
theorem w_named : about1.methodNamed? x = some theMethod := by decide +kernel
set_option maxRecDepth 65536 in
theorem w_hears : about1.hears theMethod below0 = true := by decide +kernel
set_option maxRecDepth 65536 in
theorem w_ripe : about1.ripe theMethod args0 below0 = true := by decide +kernel
theorem w_running : about1.status = .running := rfl
set_option maxRecDepth 65536 in
theorem w_room : about1.hasRoom e0.platform room_1 = true :=
  launch0.hasRoom_least _ room_1 (by decide +kernel) (by decide +kernel) (by decide +kernel) (by decide +kernel) (by decide +kernel) (by decide +kernel)
theorem allAtoms_all (ts : List Jvm.Cond) (a : Array Jvm.Value) (st : Jvm.State) : (allAtoms ts).before a st = ts.all (fun c => c.before a st) := by
  induction ts with
  | nil => rfl
  | cons c t ih =>
    show (Jvm.Cond.and c (allAtoms t)).before a st = _
    rw [Jvm.Cond.before_and, ih, List.all_cons]
def words1 : List Jvm.Cond := Jvm.Cond.code x code maxLocals ret :: tables_1
/-- a 'code' word, met by the world's own term for the bytes: nothing is compared byte by byte -/
theorem code_word {y : MethodName} {bytes : ByteArray} {mx : Nat} {rt : Option FieldType} {a : Array Value} {s : State} {m : MethodId} {meth : Method} {c : Code} (h1 : s.methodNamed? y = some m) (h2 : s.vm.method? m = some meth) (h3 : meth.code = some c) (h4 : c.code = bytes)
    (h5 : (c.maxLocals == mx && c.exceptionTable.isEmpty && decide (c.maxStack ≤ mostOperands) && decide (meth.sig.returnType = rt) && !meth.locks && decide (parseMethodDescriptor y.desc = some meth.sig)) = true) : (Jvm.Cond.code y bytes mx rt).before a s = true := by
  simp only [Bool.and_eq_true, beq_iff_eq, Bool.not_eq_true', decide_eq_true_eq] at h5
  obtain ⟨⟨⟨⟨⟨g1, g2⟩, g3⟩, g4⟩, g5⟩, g6⟩ := h5
  simp [Cond.before, Cond.holds, Cond.value, h1, h2, h3, h4, g1, g2, g3, g4, g5, g6]
def isCode : Jvm.Cond → Bool
  | .code _ _ _ _ => true
  | _ => false
theorem all_split {L : List Jvm.Cond} {P : Jvm.Cond → Bool} (h1 : L.all (fun c => isCode c || P c) = true) (h2 : ∀ c ∈ L.filter isCode, P c = true) : L.all P = true := by
  refine List.all_eq_true.mpr fun c hc => ?_
  have h := List.all_eq_true.mp h1 c hc
  rcases Bool.eq_false_or_eq_true (isCode c) with hi | hi
  · exact h2 c (List.mem_filter.mpr ⟨hc, hi⟩)
  · simpa [hi] using h
set_option maxRecDepth 65536 in
theorem w_c0 : (Jvm.Cond.code x code maxLocals ret).before args0 about1 = true := code_word (m := ⟨1, 3⟩) (meth := k1m3) (c := k1c3) (by decide +kernel) rfl rfl rfl (by decide +kernel)
set_option maxRecDepth 65536 in
theorem w_c1 : (Jvm.Cond.code ({ cls := "com/example/kohortd/kohortd/member/MemberUnsetValuePinLaw", name := "word", desc := "()[C" } : Jvm.MethodName) method_2_code (0 : Nat) (Option.some (Jvm.ClassFile.FieldType.array Jvm.ClassFile.FieldType.char))).before args0 about1 = true := code_word (m := ⟨1, 1⟩) (meth := k1m1) (c := k1c1) (by decide +kernel) rfl rfl rfl (by decide +kernel)
set_option maxRecDepth 65536 in
theorem w_c2 : (Jvm.Cond.code ({ cls := "java/lang/String", name := "<init>", desc := "([C)V" } : Jvm.MethodName) jdk_42_method_3_code (2 : Nat) (Option.none : Option Jvm.ClassFile.FieldType)).before args0 about1 = true := code_word (m := ⟨7, 1⟩) (meth := k7m1) (c := k7c1) (by decide +kernel) rfl rfl rfl (by decide +kernel)
set_option maxRecDepth 65536 in
theorem w_c3 : (Jvm.Cond.code ({ cls := "java/lang/String", name := "<init>", desc := "([CIILjava/lang/Void;)V" } : Jvm.MethodName) jdk_42_method_149_code (6 : Nat) (Option.none : Option Jvm.ClassFile.FieldType)).before args0 about1 = true := code_word (m := ⟨7, 3⟩) (meth := k7m3) (c := k7c3) (by decide +kernel) rfl rfl rfl (by decide +kernel)
set_option maxRecDepth 65536 in
theorem w_c4 : (Jvm.Cond.code ({ cls := "java/lang/Object", name := "<init>", desc := "()V" } : Jvm.MethodName) object_method_1_code (1 : Nat) (Option.none : Option Jvm.ClassFile.FieldType)).before args0 about1 = true := code_word (m := ⟨0, 0⟩) (meth := k0m0) (c := k0c0) (by decide +kernel) rfl rfl rfl (by decide +kernel)
set_option maxRecDepth 65536 in
theorem w_c5 : (Jvm.Cond.code ({ cls := "java/lang/StringUTF16", name := "compress", desc := "([CII)[B" } : Jvm.MethodName) jdk_52_method_16_code (6 : Nat) (Option.some (Jvm.ClassFile.FieldType.array Jvm.ClassFile.FieldType.byte))).before args0 about1 = true := code_word (m := ⟨8, 7⟩) (meth := k8m7) (c := k8c7) (by decide +kernel) rfl rfl rfl (by decide +kernel)
set_option maxRecDepth 65536 in
theorem w_c6 : (Jvm.Cond.code ({ cls := "java/lang/StringUTF16", name := "compress", desc := "([CI[BII)I" } : Jvm.MethodName) jdk_52_method_21_code (7 : Nat) (Option.some Jvm.ClassFile.FieldType.int)).before args0 about1 = true := code_word (m := ⟨8, 8⟩) (meth := k8m8) (c := k8c8) (by decide +kernel) rfl rfl rfl (by decide +kernel)
set_option maxRecDepth 65536 in
theorem w_c7 : (Jvm.Cond.code ({ cls := "java/lang/StringUTF16", name := "coderFromArrayLen", desc := "([BI)B" } : Jvm.MethodName) jdk_52_method_15_code (2 : Nat) (Option.some Jvm.ClassFile.FieldType.byte)).before args0 about1 = true := code_word (m := ⟨8, 6⟩) (meth := k8m6) (c := k8c6) (by decide +kernel) rfl rfl rfl (by decide +kernel)
set_option maxRecDepth 65536 in
theorem w_c8 : (Jvm.Cond.code ({ cls := "com/example/kohortd/kohortd/member/Member", name := "unsetValue", desc := "(Ljava/lang/String;)Ljava/lang/Object;" } : Jvm.MethodName) prog_45_method_6_code (1 : Nat) (Option.some (Jvm.ClassFile.FieldType.object "java/lang/Object"))).before args0 about1 = true := code_word (m := ⟨10, 0⟩) (meth := k10m0) (c := k10c0) (by decide +kernel) rfl rfl rfl (by decide +kernel)
set_option maxRecDepth 65536 in
theorem w_c9 : (Jvm.Cond.code ({ cls := "java/lang/String", name := "equals", desc := "(Ljava/lang/Object;)Z" } : Jvm.MethodName) jdk_42_method_66_code (3 : Nat) (Option.some Jvm.ClassFile.FieldType.boolean)).before args0 about1 = true := code_word (m := ⟨7, 2⟩) (meth := k7m2) (c := k7c2) (by decide +kernel) rfl rfl rfl (by decide +kernel)
set_option maxRecDepth 65536 in
theorem w_c10 : (Jvm.Cond.code ({ cls := "java/lang/StringLatin1", name := "equals", desc := "([B[B)Z" } : Jvm.MethodName) jdk_43_method_13_code (3 : Nat) (Option.some Jvm.ClassFile.FieldType.boolean)).before args0 about1 = true := code_word (m := ⟨11, 1⟩) (meth := k11m1) (c := k11c1) (by decide +kernel) rfl rfl rfl (by decide +kernel)
set_option maxRecDepth 65536 in
theorem w_c11 : (Jvm.Cond.code ({ cls := "java/lang/StringUTF16", name := "toBytes", desc := "([CII)[B" } : Jvm.MethodName) jdk_52_method_14_code (5 : Nat) (Option.some (Jvm.ClassFile.FieldType.array Jvm.ClassFile.FieldType.byte))).before args0 about1 = true := code_word (m := ⟨8, 5⟩) (meth := k8m5) (c := k8c5) (by decide +kernel) rfl rfl rfl (by decide +kernel)
set_option maxRecDepth 65536 in
theorem w_c12 : (Jvm.Cond.code ({ cls := "java/lang/StringUTF16", name := "newBytesFor", desc := "(I)[B" } : Jvm.MethodName) jdk_52_method_2_code (1 : Nat) (Option.some (Jvm.ClassFile.FieldType.array Jvm.ClassFile.FieldType.byte))).before args0 about1 = true := code_word (m := ⟨8, 1⟩) (meth := k8m1) (c := k8c1) (by decide +kernel) rfl rfl rfl (by decide +kernel)
set_option maxRecDepth 65536 in
theorem w_c13 : (Jvm.Cond.code ({ cls := "java/lang/StringUTF16", name := "newBytesLength", desc := "(I)I" } : Jvm.MethodName) jdk_52_method_3_code (1 : Nat) (Option.some Jvm.ClassFile.FieldType.int)).before args0 about1 = true := code_word (m := ⟨8, 2⟩) (meth := k8m2) (c := k8c2) (by decide +kernel) rfl rfl rfl (by decide +kernel)
set_option maxRecDepth 65536 in
theorem w_c14 : (Jvm.Cond.code ({ cls := "java/lang/StringUTF16", name := "putChar", desc := "([BII)V" } : Jvm.MethodName) jdk_52_method_4_code (3 : Nat) (Option.none : Option Jvm.ClassFile.FieldType)).before args0 about1 = true := code_word (m := ⟨8, 3⟩) (meth := k8m3) (c := k8c3) (by decide +kernel) rfl rfl rfl (by decide +kernel)
set_option maxRecDepth 65536 in
theorem w_c15 : (Jvm.Cond.code ({ cls := "java/lang/StringUTF16", name := "getChar", desc := "([BI)C" } : Jvm.MethodName) jdk_52_method_5_code (2 : Nat) (Option.some Jvm.ClassFile.FieldType.char)).before args0 about1 = true := code_word (m := ⟨8, 4⟩) (meth := k8m4) (c := k8c4) (by decide +kernel) rfl rfl rfl (by decide +kernel)
set_option maxRecDepth 65536 in
theorem w_c16 : (Jvm.Cond.code ({ cls := "com/example/kohortd/kohortd/member/MemberUnsetValuePinLaw", name := "isWord", desc := "([C)Z" } : Jvm.MethodName) method_3_code (1 : Nat) (Option.some Jvm.ClassFile.FieldType.boolean)).before args0 about1 = true := code_word (m := ⟨1, 2⟩) (meth := k1m2) (c := k1c2) (by decide +kernel) rfl rfl rfl (by decide +kernel)
def codes1 : List Jvm.Cond := [Jvm.Cond.code x code maxLocals ret, Jvm.Cond.code ({ cls := "com/example/kohortd/kohortd/member/MemberUnsetValuePinLaw", name := "word", desc := "()[C" } : Jvm.MethodName) method_2_code (0 : Nat) (Option.some (Jvm.ClassFile.FieldType.array Jvm.ClassFile.FieldType.char)), Jvm.Cond.code ({ cls := "java/lang/String", name := "<init>", desc := "([C)V" } : Jvm.MethodName) jdk_42_method_3_code (2 : Nat) (Option.none : Option Jvm.ClassFile.FieldType), Jvm.Cond.code ({ cls := "java/lang/String", name := "<init>", desc := "([CIILjava/lang/Void;)V" } : Jvm.MethodName) jdk_42_method_149_code (6 : Nat) (Option.none : Option Jvm.ClassFile.FieldType), Jvm.Cond.code ({ cls := "java/lang/Object", name := "<init>", desc := "()V" } : Jvm.MethodName) object_method_1_code (1 : Nat) (Option.none : Option Jvm.ClassFile.FieldType), Jvm.Cond.code ({ cls := "java/lang/StringUTF16", name := "compress", desc := "([CII)[B" } : Jvm.MethodName) jdk_52_method_16_code (6 : Nat) (Option.some (Jvm.ClassFile.FieldType.array Jvm.ClassFile.FieldType.byte)), Jvm.Cond.code ({ cls := "java/lang/StringUTF16", name := "compress", desc := "([CI[BII)I" } : Jvm.MethodName) jdk_52_method_21_code (7 : Nat) (Option.some Jvm.ClassFile.FieldType.int), Jvm.Cond.code ({ cls := "java/lang/StringUTF16", name := "coderFromArrayLen", desc := "([BI)B" } : Jvm.MethodName) jdk_52_method_15_code (2 : Nat) (Option.some Jvm.ClassFile.FieldType.byte), Jvm.Cond.code ({ cls := "com/example/kohortd/kohortd/member/Member", name := "unsetValue", desc := "(Ljava/lang/String;)Ljava/lang/Object;" } : Jvm.MethodName) prog_45_method_6_code (1 : Nat) (Option.some (Jvm.ClassFile.FieldType.object "java/lang/Object")), Jvm.Cond.code ({ cls := "java/lang/String", name := "equals", desc := "(Ljava/lang/Object;)Z" } : Jvm.MethodName) jdk_42_method_66_code (3 : Nat) (Option.some Jvm.ClassFile.FieldType.boolean), Jvm.Cond.code ({ cls := "java/lang/StringLatin1", name := "equals", desc := "([B[B)Z" } : Jvm.MethodName) jdk_43_method_13_code (3 : Nat) (Option.some Jvm.ClassFile.FieldType.boolean), Jvm.Cond.code ({ cls := "java/lang/StringUTF16", name := "toBytes", desc := "([CII)[B" } : Jvm.MethodName) jdk_52_method_14_code (5 : Nat) (Option.some (Jvm.ClassFile.FieldType.array Jvm.ClassFile.FieldType.byte)), Jvm.Cond.code ({ cls := "java/lang/StringUTF16", name := "newBytesFor", desc := "(I)[B" } : Jvm.MethodName) jdk_52_method_2_code (1 : Nat) (Option.some (Jvm.ClassFile.FieldType.array Jvm.ClassFile.FieldType.byte)), Jvm.Cond.code ({ cls := "java/lang/StringUTF16", name := "newBytesLength", desc := "(I)I" } : Jvm.MethodName) jdk_52_method_3_code (1 : Nat) (Option.some Jvm.ClassFile.FieldType.int), Jvm.Cond.code ({ cls := "java/lang/StringUTF16", name := "putChar", desc := "([BII)V" } : Jvm.MethodName) jdk_52_method_4_code (3 : Nat) (Option.none : Option Jvm.ClassFile.FieldType), Jvm.Cond.code ({ cls := "java/lang/StringUTF16", name := "getChar", desc := "([BI)C" } : Jvm.MethodName) jdk_52_method_5_code (2 : Nat) (Option.some Jvm.ClassFile.FieldType.char), Jvm.Cond.code ({ cls := "com/example/kohortd/kohortd/member/MemberUnsetValuePinLaw", name := "isWord", desc := "([C)Z" } : Jvm.MethodName) method_3_code (1 : Nat) (Option.some Jvm.ClassFile.FieldType.boolean)]
set_option maxRecDepth 65536 in
theorem codes_eq : words1.filter isCode = codes1 := rfl
theorem w_codes : ∀ c ∈ words1.filter isCode, c.before args0 about1 = true := by
  rw [codes_eq]
  intro c hc
  simp only [codes1, List.mem_cons, List.not_mem_nil, or_false] at hc
  rcases hc with rfl | rfl | rfl | rfl | rfl | rfl | rfl | rfl | rfl | rfl | rfl | rfl | rfl | rfl | rfl | rfl | rfl
  · exact w_c0
  · exact w_c1
  · exact w_c2
  · exact w_c3
  · exact w_c4
  · exact w_c5
  · exact w_c6
  · exact w_c7
  · exact w_c8
  · exact w_c9
  · exact w_c10
  · exact w_c11
  · exact w_c12
  · exact w_c13
  · exact w_c14
  · exact w_c15
  · exact w_c16
set_option maxRecDepth 65536 in
theorem w_t1 : (words1.take 24).all (fun c => isCode c || c.before args0 about1) = true := by decide +kernel
set_option maxRecDepth 65536 in
theorem w_t2 : ((words1.drop 24).take 24).all (fun c => isCode c || c.before args0 about1) = true := by decide +kernel
set_option maxRecDepth 65536 in
theorem w_t3 : (((words1.drop 24).drop 24).take 24).all (fun c => isCode c || c.before args0 about1) = true := by decide +kernel
set_option maxRecDepth 65536 in
theorem w_t4 : (((words1.drop 24).drop 24).drop 24).all (fun c => isCode c || c.before args0 about1) = true := by decide +kernel
theorem w_tables : (allAtoms (Jvm.Cond.code x code maxLocals ret :: tables_1)).before args0 about1 = true := by
  rw [allAtoms_all]
  show words1.all (fun c => c.before args0 about1) = true
  refine all_split ?_ w_codes
  rw [← List.take_append_drop 24 words1, List.all_append, w_t1, ← List.take_append_drop 24 (words1.drop 24), List.all_append, w_t2, ← List.take_append_drop 24 ((words1.drop 24).drop 24), List.all_append, w_t3, w_t4]
  rfl
set_option maxRecDepth 65536 in
theorem w_rest : rest_1_c.before args0 about1 = true := by decide +kernel
set_option maxRecDepth 65536 in
theorem w_case : (Jvm.Cond.and given_1 narrow_1).before args0 about1 = true := by decide +kernel
set_option maxRecDepth 65536 in
theorem w_consts : constsHeld consts_1 about1 := Jvm.Lit.constsHeldB_iff.mp (by decide +kernel)
theorem w_applies : (headSpec (Jvm.Cond.code x code maxLocals ret :: tables_1) room_1).applies x e0.platform about1 = true :=
  (Spec.applies_iff w_frames).mpr ⟨w_running, w_runnable, w_alone, w_named, w_hears, w_ripe, w_room, w_tables⟩
theorem atStart : AtStart classFile x code maxLocals ret World_1 tables_1 room_1 Calls_1 rest_1 Pre_1 launch0 p0 e0 about1 theMethod args0 below0 :=
  ⟨lists_1, trivial, launch0.admits_env _ _ _, launch0.least_env, fairChoices_fair.cas, fairChoices_fair.clock, w_frames, w_args, w_heap, w_applies, ⟨w_consts, trivial⟩, w_rest, w_case⟩
end start1
theorem witness_1 : WitnessClaimed_1 := ⟨start1.p0, start1.e0, start1.about1, start1.theMethod, start1.args0, start1.below0, start1.atStart⟩
end Jvm.Pilot.@@N@@
