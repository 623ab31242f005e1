import JvmDerived
import JvmDerived.Pilot.@@N@@Statement
import JvmDerived.Pilot.@@N@@Code
set_option linter.unusedVariables false
set_option linter.unusedSimpArgs false
namespace Jvm.Pilot.@@N@@
open Jvm Jvm.ClassFile Sem Op Lib Jvm.Free Jvm.Stand Jvm.LawKit Jvm.RoadKit Bundle Jvm.Pilot.@@N@@.Jvm.D
section OwnKit
variable {p : Program} {l : Launch} {e : Env} {R : Room} {s : State} {m : MethodId} {args : Array Value} {below : List Frame} {meth : Method} {c : Code} {T : State} {locs : List Loc} {cells slots : Nat} {Z : State} {a0 : Array Value} {h : Heap} {G : Outcome → State → Prop}
def oGo (p : Program) (e : Env) (below : List Frame) (G : Outcome → State → Prop) (T : State) (f : JFrame) : Prop :=
  ∃ s₂ o, Steps p.tables e below (T.setTop f) s₂ ∧ s₂.status = .running ∧ Ended s₂ below o ∧ G o s₂
theorem oGo.step {T' : State} {f f' : JFrame} (st : ∀ t, Steps p.tables e below (T'.setTop f') t → Steps p.tables e below (T.setTop f) t) (k : oGo p e below G T' f') : oGo p e below G T f := by
  obtain ⟨s₂, o, h1, h2⟩ := k
  exact ⟨s₂, o, st _ h1, h2⟩
def oG (s : State) (Q : Option Value → Heap → List Loc → Prop) (C N : Nat) : Outcome → State → Prop := fun o U' => ∃ v L, o = .returned v ∧ Q v U'.heap L ∧ FrameEnd s o U' L C N
def oCon (l : Launch) (Z : State) (y : MethodName) (bytes : ByteArray) (maxL : Nat) (ret : Option FieldType) (rm : Room) (as' : Array Value) (h : Heap) (Q : Option Value → Heap → List Loc → Prop) : Prop :=
  ∀ ws, MetFree l y (head1 (Jvm.Cond.code y bytes maxL ret :: ws) rm) (fun a U => a = as' ∧ Z.Warmed39 U.vm ∧ U.heap = h) (fun _ _ _ _ _ => True) (fun _ U o U' => ∃ v L, o = .returned v ∧ Q v U'.heap L ∧ FrameEnd U o U' L rm.cells rm.slots)
theorem oCon.of {y : MethodName} {bytes : ByteArray} {maxL : Nat} {ret : Option FieldType} {rm : Room} {as' : Array Value} {Q : Option Value → Heap → List Loc → Prop} (hpn : plainFor y = true)
    (body : ∀ p e s m below meth c s₁, p.tables.exec = Jvm.exec → c.code = bytes → c.maxLocals = maxL → s.vm.findClass y.cls = some m.cls → meth.name = y.name → meth.sig.returnType = ret → meth.locks = false → Z.Warmed39 s.vm → Stand p l e rm s m as' below meth c s₁ [] 0 0 → s₁.heap = h → oGo p e below (oG s Q rm.cells rm.slots) s₁ (entryFrame m as' maxL)) :
    oCon l Z y bytes maxL ret rm as' h Q := by
  intro ws
  refine MetFree.of_bodySF hpn hisR ?_
  intro p e s m args below meth c s₁ Bd hml0 hP hK
  obtain ⟨rfl, hZ, hh⟩ := hP
  exact body p e s m below meth c s₁ Bd.exec Bd.bytes hml0 (findClass_of_methodNamed Bd.named) (name_of_methodNamed Bd.named Bd.method).1 Bd.returns (BodyLoose.notSynchronized Bd) hZ (Stand.of_body Bd) (by rw [← hh, Bd.state]; rfl)
theorem o_iloadN (X : Stand p l e R s m args below meth c T locs cells slots) (hx : p.tables.exec = Jvm.exec) {pc pc' : Nat} {Ls : Array Slot} {st : List Value} {k : Fin 4} {v : Int32} (hd : decode c.code pc = .ok (.iload_n k, 1)) (hl : Ls[k.val]? = some (.val (.int v))) (hp : pc + 1 = pc') (q : oGo p e below G T (mkF m pc' Ls (.int v :: st))) : oGo p e below G T (mkF m pc Ls (st)) := by
  subst hp; exact q.step fun t r => XS.iloadN X.here hx rfl hd hl r
theorem o_iload (X : Stand p l e R s m args below meth c T locs cells slots) (hx : p.tables.exec = Jvm.exec) {pc pc' : Nat} {Ls : Array Slot} {st : List Value} {k : Nat} {v : Int32} (hd : decode c.code pc = .ok (.iload k, 2)) (hl : Ls[k]? = some (.val (.int v))) (hp : pc + 2 = pc') (q : oGo p e below G T (mkF m pc' Ls (.int v :: st))) : oGo p e below G T (mkF m pc Ls (st)) := by
  subst hp; exact q.step fun t r => XS.iload X.here hx rfl hd hl r
theorem o_istoreN (X : Stand p l e R s m args below meth c T locs cells slots) (hx : p.tables.exec = Jvm.exec) {pc pc' : Nat} {Ls : Array Slot} {st : List Value} {k : Fin 4} {v : Int32} {l' : Array Slot} (hd : decode c.code pc = .ok (.istore_n k, 1)) (hl : storeLocals Ls k.val (.int v) = some l') (hp : pc + 1 = pc') (q : oGo p e below G T (mkF m pc' l' (st))) : oGo p e below G T (mkF m pc Ls (.int v :: st)) := by
  subst hp; exact q.step fun t r => XS.istoreN X.here hx rfl hd rfl hl r
theorem o_istore (X : Stand p l e R s m args below meth c T locs cells slots) (hx : p.tables.exec = Jvm.exec) {pc pc' : Nat} {Ls : Array Slot} {st : List Value} {k : Nat} {v : Int32} {l' : Array Slot} (hd : decode c.code pc = .ok (.istore k, 2)) (hl : storeLocals Ls k (.int v) = some l') (hp : pc + 2 = pc') (q : oGo p e below G T (mkF m pc' l' (st))) : oGo p e below G T (mkF m pc Ls (.int v :: st)) := by
  subst hp; exact q.step fun t r => XS.istore X.here hx rfl hd rfl hl r
theorem o_lloadN (X : Stand p l e R s m args below meth c T locs cells slots) (hx : p.tables.exec = Jvm.exec) {pc pc' : Nat} {Ls : Array Slot} {st : List Value} {k : Fin 4} {v : Int64} (hd : decode c.code pc = .ok (.lload_n k, 1)) (hl : Ls[k.val]? = some (.val (.long v))) (hp : pc + 1 = pc') (q : oGo p e below G T (mkF m pc' Ls (.long v :: st))) : oGo p e below G T (mkF m pc Ls (st)) := by
  subst hp; exact q.step fun t r => XT.lloadN X.here hx rfl hd hl r
theorem o_lload (X : Stand p l e R s m args below meth c T locs cells slots) (hx : p.tables.exec = Jvm.exec) {pc pc' : Nat} {Ls : Array Slot} {st : List Value} {k : Nat} {v : Int64} (hd : decode c.code pc = .ok (.lload k, 2)) (hl : Ls[k]? = some (.val (.long v))) (hp : pc + 2 = pc') (q : oGo p e below G T (mkF m pc' Ls (.long v :: st))) : oGo p e below G T (mkF m pc Ls (st)) := by
  subst hp; exact q.step fun t r => XT.lload X.here hx rfl hd hl r
theorem o_lstoreN (X : Stand p l e R s m args below meth c T locs cells slots) (hx : p.tables.exec = Jvm.exec) {pc pc' : Nat} {Ls : Array Slot} {st : List Value} {k : Fin 4} {v : Int64} {l' : Array Slot} (hd : decode c.code pc = .ok (.lstore_n k, 1)) (hl : storeLocals Ls k.val (.long v) = some l') (hp : pc + 1 = pc') (q : oGo p e below G T (mkF m pc' l' (st))) : oGo p e below G T (mkF m pc Ls (.long v :: st)) := by
  subst hp; exact q.step fun t r => XT.lstoreN X.here hx rfl hd rfl hl r
theorem o_lstore (X : Stand p l e R s m args below meth c T locs cells slots) (hx : p.tables.exec = Jvm.exec) {pc pc' : Nat} {Ls : Array Slot} {st : List Value} {k : Nat} {v : Int64} {l' : Array Slot} (hd : decode c.code pc = .ok (.lstore k, 2)) (hl : storeLocals Ls k (.long v) = some l') (hp : pc + 2 = pc') (q : oGo p e below G T (mkF m pc' l' (st))) : oGo p e below G T (mkF m pc Ls (.long v :: st)) := by
  subst hp; exact q.step fun t r => XT.lstore X.here hx rfl hd rfl hl r
theorem o_aloadN (X : Stand p l e R s m args below meth c T locs cells slots) (hx : p.tables.exec = Jvm.exec) {pc pc' : Nat} {Ls : Array Slot} {st : List Value} {k : Fin 4} {v : Value} (hd : decode c.code pc = .ok (.aload_n k, 1)) (hl : Ls[k.val]? = some (.val v)) (hv : v.isRef = true) (hp : pc + 1 = pc') (q : oGo p e below G T (mkF m pc' Ls (v :: st))) : oGo p e below G T (mkF m pc Ls (st)) := by
  subst hp; exact q.step fun t r => XS.aloadN X.here hx rfl hd hl hv r
theorem o_aload (X : Stand p l e R s m args below meth c T locs cells slots) (hx : p.tables.exec = Jvm.exec) {pc pc' : Nat} {Ls : Array Slot} {st : List Value} {k : Nat} {v : Value} (hd : decode c.code pc = .ok (.aload k, 2)) (hl : Ls[k]? = some (.val v)) (hv : v.isRef = true) (hp : pc + 2 = pc') (q : oGo p e below G T (mkF m pc' Ls (v :: st))) : oGo p e below G T (mkF m pc Ls (st)) := by
  subst hp; exact q.step fun t r => XS.aload X.here hx rfl hd hl hv r
theorem o_astoreN (X : Stand p l e R s m args below meth c T locs cells slots) (hx : p.tables.exec = Jvm.exec) {pc pc' : Nat} {Ls : Array Slot} {st : List Value} {k : Fin 4} {v : Value} {l' : Array Slot} (hd : decode c.code pc = .ok (.astore_n k, 1)) (hv : v.isRef = true) (hl : storeLocals Ls k.val v = some l') (hp : pc + 1 = pc') (q : oGo p e below G T (mkF m pc' l' (st))) : oGo p e below G T (mkF m pc Ls (v :: st)) := by
  subst hp; exact q.step fun t r => XS.astoreN X.here hx rfl hd rfl hv hl r
theorem o_astore (X : Stand p l e R s m args below meth c T locs cells slots) (hx : p.tables.exec = Jvm.exec) {pc pc' : Nat} {Ls : Array Slot} {st : List Value} {k : Nat} {v : Value} {l' : Array Slot} (hd : decode c.code pc = .ok (.astore k, 2)) (hv : v.isRef = true) (hl : storeLocals Ls k v = some l') (hp : pc + 2 = pc') (q : oGo p e below G T (mkF m pc' l' (st))) : oGo p e below G T (mkF m pc Ls (v :: st)) := by
  subst hp; exact q.step fun t r => XS.astore X.here hx rfl hd rfl hv hl r
theorem o_iconst (X : Stand p l e R s m args below meth c T locs cells slots) (hx : p.tables.exec = Jvm.exec) {pc pc' : Nat} {Ls : Array Slot} {st : List Value} {i : Int} (v : Int32) (hd : decode c.code pc = .ok (.iconst i, 1)) (hv : Int32.ofInt i = v) (hp : pc + 1 = pc') (q : oGo p e below G T (mkF m pc' Ls (.int v :: st))) : oGo p e below G T (mkF m pc Ls (st)) := by
  subst hp; exact q.step fun t r => XT.iconstV X.here hx rfl v hd hv r
theorem o_bipush (X : Stand p l e R s m args below meth c T locs cells slots) (hx : p.tables.exec = Jvm.exec) {pc pc' : Nat} {Ls : Array Slot} {st : List Value} {i : Int} (v : Int32) (hd : decode c.code pc = .ok (.bipush i, 2)) (hv : (Int8.ofInt i).toInt32 = v) (hp : pc + 2 = pc') (q : oGo p e below G T (mkF m pc' Ls (.int v :: st))) : oGo p e below G T (mkF m pc Ls (st)) := by
  subst hp; exact q.step fun t r => XT.bipushV X.here hx rfl v hd hv r
theorem o_sipush (X : Stand p l e R s m args below meth c T locs cells slots) (hx : p.tables.exec = Jvm.exec) {pc pc' : Nat} {Ls : Array Slot} {st : List Value} {i : Int} (v : Int32) (hd : decode c.code pc = .ok (.sipush i, 3)) (hv : (Int16.ofInt i).toInt32 = v) (hp : pc + 3 = pc') (q : oGo p e below G T (mkF m pc' Ls (.int v :: st))) : oGo p e below G T (mkF m pc Ls (st)) := by
  subst hp; exact q.step fun t r => XT.sipushV X.here hx rfl v hd hv r
theorem o_lconst (X : Stand p l e R s m args below meth c T locs cells slots) (hx : p.tables.exec = Jvm.exec) {pc pc' : Nat} {Ls : Array Slot} {st : List Value} {k : Fin 2} (v : Int64) (hd : decode c.code pc = .ok (.lconst k, 1)) (hv : Int64.ofNat k = v) (hp : pc + 1 = pc') (q : oGo p e below G T (mkF m pc' Ls (.long v :: st))) : oGo p e below G T (mkF m pc Ls (st)) := by
  subst hp; exact q.step fun t r => XT.lconstV X.here hx rfl v hd hv r
theorem o_anull (X : Stand p l e R s m args below meth c T locs cells slots) (hx : p.tables.exec = Jvm.exec) {pc pc' : Nat} {Ls : Array Slot} {st : List Value} (hd : decode c.code pc = .ok (.aconst_null, 1)) (hp : pc + 1 = pc') (q : oGo p e below G T (mkF m pc' Ls (.null :: st))) : oGo p e below G T (mkF m pc Ls (st)) := by
  subst hp; exact q.step fun t r => XS.aconstNull X.here hx rfl hd r
theorem o_ldc (X : Stand p l e R s m args below meth c T locs cells slots) (hx : p.tables.exec = Jvm.exec) {pc pc' : Nat} {Ls : Array Slot} {st : List Value} {own : String} {index : Nat} {v : Int32} (hZ : Z.Warmed39 s.vm) (hown : s.vm.findClass own = some m.cls) (w : (Jvm.Cond.constant own index v).before a0 Z = true) (hd : decode c.code pc = .ok (.ldc index, 2)) (hp : pc + 2 = pc') (q : oGo p e below G T (mkF m pc' Ls (.int v :: st))) : oGo p e below G T (mkF m pc Ls (st)) := by
  subst hp; exact q.step fun t r => X.ldcI hx hown (mvT hZ w) rfl hd r
theorem o_ldcw (X : Stand p l e R s m args below meth c T locs cells slots) (hx : p.tables.exec = Jvm.exec) {pc pc' : Nat} {Ls : Array Slot} {st : List Value} {own : String} {index : Nat} {v : Int32} (hZ : Z.Warmed39 s.vm) (hown : s.vm.findClass own = some m.cls) (w : (Jvm.Cond.constant own index v).before a0 Z = true) (hd : decode c.code pc = .ok (.ldc_w index, 3)) (hp : pc + 3 = pc') (q : oGo p e below G T (mkF m pc' Ls (.int v :: st))) : oGo p e below G T (mkF m pc Ls (st)) := by
  subst hp; exact q.step fun t r => X.ldcWI hx hown (mvT hZ w) rfl hd r
theorem o_ldc2 (X : Stand p l e R s m args below meth c T locs cells slots) (hx : p.tables.exec = Jvm.exec) {pc pc' : Nat} {Ls : Array Slot} {st : List Value} {own : String} {index : Nat} {v : Int64} (hZ : Z.Warmed39 s.vm) (hown : s.vm.findClass own = some m.cls) (w : (Jvm.Cond.constantLong own index v).before a0 Z = true) (hd : decode c.code pc = .ok (.ldc2_w index, 3)) (hp : pc + 3 = pc') (q : oGo p e below G T (mkF m pc' Ls (.long v :: st))) : oGo p e below G T (mkF m pc Ls (st)) := by
  subst hp; exact q.step fun t r => X.ldc2J hx hown (mvT hZ w) rfl hd r
theorem o_iadd (X : Stand p l e R s m args below meth c T locs cells slots) (hx : p.tables.exec = Jvm.exec) {pc pc' : Nat} {Ls : Array Slot} {st : List Value} {x y : Int32} (hd : decode c.code pc = .ok (.iadd, 1)) (hp : pc + 1 = pc') (q : oGo p e below G T (mkF m pc' Ls (.int (x + y) :: st))) : oGo p e below G T (mkF m pc Ls (.int y :: .int x :: st)) := by
  subst hp; exact q.step fun t r => XS.iadd X.here hx rfl hd rfl r
theorem o_isub (X : Stand p l e R s m args below meth c T locs cells slots) (hx : p.tables.exec = Jvm.exec) {pc pc' : Nat} {Ls : Array Slot} {st : List Value} {x y : Int32} (hd : decode c.code pc = .ok (.isub, 1)) (hp : pc + 1 = pc') (q : oGo p e below G T (mkF m pc' Ls (.int (x - y) :: st))) : oGo p e below G T (mkF m pc Ls (.int y :: .int x :: st)) := by
  subst hp; exact q.step fun t r => XS.isub X.here hx rfl hd rfl r
theorem o_imul (X : Stand p l e R s m args below meth c T locs cells slots) (hx : p.tables.exec = Jvm.exec) {pc pc' : Nat} {Ls : Array Slot} {st : List Value} {x y : Int32} (hd : decode c.code pc = .ok (.imul, 1)) (hp : pc + 1 = pc') (q : oGo p e below G T (mkF m pc' Ls (.int (x * y) :: st))) : oGo p e below G T (mkF m pc Ls (.int y :: .int x :: st)) := by
  subst hp; exact q.step fun t r => XS.imul X.here hx rfl hd rfl r
theorem o_iand (X : Stand p l e R s m args below meth c T locs cells slots) (hx : p.tables.exec = Jvm.exec) {pc pc' : Nat} {Ls : Array Slot} {st : List Value} {x y : Int32} (hd : decode c.code pc = .ok (.iand, 1)) (hp : pc + 1 = pc') (q : oGo p e below G T (mkF m pc' Ls (.int (x &&& y) :: st))) : oGo p e below G T (mkF m pc Ls (.int y :: .int x :: st)) := by
  subst hp; exact q.step fun t r => XS.iand X.here hx rfl hd rfl r
theorem o_ior (X : Stand p l e R s m args below meth c T locs cells slots) (hx : p.tables.exec = Jvm.exec) {pc pc' : Nat} {Ls : Array Slot} {st : List Value} {x y : Int32} (hd : decode c.code pc = .ok (.ior, 1)) (hp : pc + 1 = pc') (q : oGo p e below G T (mkF m pc' Ls (.int (x ||| y) :: st))) : oGo p e below G T (mkF m pc Ls (.int y :: .int x :: st)) := by
  subst hp; exact q.step fun t r => XT.ior X.here hx rfl hd rfl r
theorem o_ixor (X : Stand p l e R s m args below meth c T locs cells slots) (hx : p.tables.exec = Jvm.exec) {pc pc' : Nat} {Ls : Array Slot} {st : List Value} {x y : Int32} (hd : decode c.code pc = .ok (.ixor, 1)) (hp : pc + 1 = pc') (q : oGo p e below G T (mkF m pc' Ls (.int (x ^^^ y) :: st))) : oGo p e below G T (mkF m pc Ls (.int y :: .int x :: st)) := by
  subst hp; exact q.step fun t r => XT.ixor X.here hx rfl hd rfl r
theorem o_ishl (X : Stand p l e R s m args below meth c T locs cells slots) (hx : p.tables.exec = Jvm.exec) {pc pc' : Nat} {Ls : Array Slot} {st : List Value} {x y : Int32} (hd : decode c.code pc = .ok (.ishl, 1)) (hp : pc + 1 = pc') (q : oGo p e below G T (mkF m pc' Ls (.int (x <<< (y &&& 31)) :: st))) : oGo p e below G T (mkF m pc Ls (.int y :: .int x :: st)) := by
  subst hp; exact q.step fun t r => XT.ishl X.here hx rfl hd rfl r
theorem o_ishr (X : Stand p l e R s m args below meth c T locs cells slots) (hx : p.tables.exec = Jvm.exec) {pc pc' : Nat} {Ls : Array Slot} {st : List Value} {x y : Int32} (hd : decode c.code pc = .ok (.ishr, 1)) (hp : pc + 1 = pc') (q : oGo p e below G T (mkF m pc' Ls (.int (x >>> (y &&& 31)) :: st))) : oGo p e below G T (mkF m pc Ls (.int y :: .int x :: st)) := by
  subst hp; exact q.step fun t r => XT.ishr X.here hx rfl hd rfl r
theorem o_iushr (X : Stand p l e R s m args below meth c T locs cells slots) (hx : p.tables.exec = Jvm.exec) {pc pc' : Nat} {Ls : Array Slot} {st : List Value} {x y : Int32} (hd : decode c.code pc = .ok (.iushr, 1)) (hp : pc + 1 = pc') (q : oGo p e below G T (mkF m pc' Ls (.int (XT.ushr x y) :: st))) : oGo p e below G T (mkF m pc Ls (.int y :: .int x :: st)) := by
  subst hp; exact q.step fun t r => XT.iushr X.here hx rfl hd rfl r
theorem o_ladd (X : Stand p l e R s m args below meth c T locs cells slots) (hx : p.tables.exec = Jvm.exec) {pc pc' : Nat} {Ls : Array Slot} {st : List Value} {x y : Int64} (hd : decode c.code pc = .ok (.ladd, 1)) (hp : pc + 1 = pc') (q : oGo p e below G T (mkF m pc' Ls (.long (x + y) :: st))) : oGo p e below G T (mkF m pc Ls (.long y :: .long x :: st)) := by
  subst hp; exact q.step fun t r => XT.ladd X.here hx rfl hd rfl r
theorem o_lsub (X : Stand p l e R s m args below meth c T locs cells slots) (hx : p.tables.exec = Jvm.exec) {pc pc' : Nat} {Ls : Array Slot} {st : List Value} {x y : Int64} (hd : decode c.code pc = .ok (.lsub, 1)) (hp : pc + 1 = pc') (q : oGo p e below G T (mkF m pc' Ls (.long (x - y) :: st))) : oGo p e below G T (mkF m pc Ls (.long y :: .long x :: st)) := by
  subst hp; exact q.step fun t r => XT.lsub X.here hx rfl hd rfl r
theorem o_lmul (X : Stand p l e R s m args below meth c T locs cells slots) (hx : p.tables.exec = Jvm.exec) {pc pc' : Nat} {Ls : Array Slot} {st : List Value} {x y : Int64} (hd : decode c.code pc = .ok (.lmul, 1)) (hp : pc + 1 = pc') (q : oGo p e below G T (mkF m pc' Ls (.long (x * y) :: st))) : oGo p e below G T (mkF m pc Ls (.long y :: .long x :: st)) := by
  subst hp; exact q.step fun t r => XT.lmul X.here hx rfl hd rfl r
theorem o_land (X : Stand p l e R s m args below meth c T locs cells slots) (hx : p.tables.exec = Jvm.exec) {pc pc' : Nat} {Ls : Array Slot} {st : List Value} {x y : Int64} (hd : decode c.code pc = .ok (.land, 1)) (hp : pc + 1 = pc') (q : oGo p e below G T (mkF m pc' Ls (.long (x &&& y) :: st))) : oGo p e below G T (mkF m pc Ls (.long y :: .long x :: st)) := by
  subst hp; exact q.step fun t r => XT.land X.here hx rfl hd rfl r
theorem o_lor (X : Stand p l e R s m args below meth c T locs cells slots) (hx : p.tables.exec = Jvm.exec) {pc pc' : Nat} {Ls : Array Slot} {st : List Value} {x y : Int64} (hd : decode c.code pc = .ok (.lor, 1)) (hp : pc + 1 = pc') (q : oGo p e below G T (mkF m pc' Ls (.long (x ||| y) :: st))) : oGo p e below G T (mkF m pc Ls (.long y :: .long x :: st)) := by
  subst hp; exact q.step fun t r => XT.lor X.here hx rfl hd rfl r
theorem o_lxor (X : Stand p l e R s m args below meth c T locs cells slots) (hx : p.tables.exec = Jvm.exec) {pc pc' : Nat} {Ls : Array Slot} {st : List Value} {x y : Int64} (hd : decode c.code pc = .ok (.lxor, 1)) (hp : pc + 1 = pc') (q : oGo p e below G T (mkF m pc' Ls (.long (x ^^^ y) :: st))) : oGo p e below G T (mkF m pc Ls (.long y :: .long x :: st)) := by
  subst hp; exact q.step fun t r => XT.lxor X.here hx rfl hd rfl r
theorem o_lshl (X : Stand p l e R s m args below meth c T locs cells slots) (hx : p.tables.exec = Jvm.exec) {pc pc' : Nat} {Ls : Array Slot} {st : List Value} {x : Int64} {y : Int32} (hd : decode c.code pc = .ok (.lshl, 1)) (hp : pc + 1 = pc') (q : oGo p e below G T (mkF m pc' Ls (.long (x <<< (y.toInt64 &&& 63)) :: st))) : oGo p e below G T (mkF m pc Ls (.int y :: .long x :: st)) := by
  subst hp; exact q.step fun t r => XT.lshl X.here hx rfl hd rfl r
theorem o_lshr (X : Stand p l e R s m args below meth c T locs cells slots) (hx : p.tables.exec = Jvm.exec) {pc pc' : Nat} {Ls : Array Slot} {st : List Value} {x : Int64} {y : Int32} (hd : decode c.code pc = .ok (.lshr, 1)) (hp : pc + 1 = pc') (q : oGo p e below G T (mkF m pc' Ls (.long (x >>> (y.toInt64 &&& 63)) :: st))) : oGo p e below G T (mkF m pc Ls (.int y :: .long x :: st)) := by
  subst hp; exact q.step fun t r => XT.lshr X.here hx rfl hd rfl r
theorem o_lushr (X : Stand p l e R s m args below meth c T locs cells slots) (hx : p.tables.exec = Jvm.exec) {pc pc' : Nat} {Ls : Array Slot} {st : List Value} {x : Int64} {y : Int32} (hd : decode c.code pc = .ok (.lushr, 1)) (hp : pc + 1 = pc') (q : oGo p e below G T (mkF m pc' Ls (.long (XT.ushrL x y) :: st))) : oGo p e below G T (mkF m pc Ls (.int y :: .long x :: st)) := by
  subst hp; exact q.step fun t r => XT.lushr X.here hx rfl hd rfl r
theorem o_lcmp (X : Stand p l e R s m args below meth c T locs cells slots) (hx : p.tables.exec = Jvm.exec) {pc pc' : Nat} {Ls : Array Slot} {st : List Value} {x y : Int64} (hd : decode c.code pc = .ok (.lcmp, 1)) (hp : pc + 1 = pc') (q : oGo p e below G T (mkF m pc' Ls (.int (XT.cmpL x y) :: st))) : oGo p e below G T (mkF m pc Ls (.long y :: .long x :: st)) := by
  subst hp; exact q.step fun t r => XT.lcmp X.here hx rfl hd rfl r
theorem o_irem (X : Stand p l e R s m args below meth c T locs cells slots) (hx : p.tables.exec = Jvm.exec) {pc pc' : Nat} {Ls : Array Slot} {st : List Value} {x y : Int32} (hd : decode c.code pc = .ok (.irem, 1)) (hy : y ≠ 0) (hp : pc + 1 = pc') (q : oGo p e below G T (mkF m pc' Ls (.int (x % y) :: st))) : oGo p e below G T (mkF m pc Ls (.int y :: .int x :: st)) := by
  subst hp; exact q.step fun t r => iremM X hx rfl hd rfl hy r
theorem o_lrem (X : Stand p l e R s m args below meth c T locs cells slots) (hx : p.tables.exec = Jvm.exec) {pc pc' : Nat} {Ls : Array Slot} {st : List Value} {x y : Int64} (hd : decode c.code pc = .ok (.lrem, 1)) (hy : y ≠ 0) (hp : pc + 1 = pc') (q : oGo p e below G T (mkF m pc' Ls (.long (x % y) :: st))) : oGo p e below G T (mkF m pc Ls (.long y :: .long x :: st)) := by
  subst hp; exact q.step fun t r => XT.lrem X.here hx rfl hd rfl hy (by rw [lrem_mod]; exact r)
theorem o_i2l (X : Stand p l e R s m args below meth c T locs cells slots) (hx : p.tables.exec = Jvm.exec) {pc pc' : Nat} {Ls : Array Slot} {st : List Value} {x : Int32} (hd : decode c.code pc = .ok (.i2l, 1)) (hp : pc + 1 = pc') (q : oGo p e below G T (mkF m pc' Ls (.long (x.toInt64) :: st))) : oGo p e below G T (mkF m pc Ls (.int x :: st)) := by
  subst hp; exact q.step fun t r => XT.i2l X.here hx rfl hd rfl r
theorem o_l2i (X : Stand p l e R s m args below meth c T locs cells slots) (hx : p.tables.exec = Jvm.exec) {pc pc' : Nat} {Ls : Array Slot} {st : List Value} {x : Int64} (hd : decode c.code pc = .ok (.l2i, 1)) (hp : pc + 1 = pc') (q : oGo p e below G T (mkF m pc' Ls (.int (x.toInt32) :: st))) : oGo p e below G T (mkF m pc Ls (.long x :: st)) := by
  subst hp; exact q.step fun t r => XT.l2i X.here hx rfl hd rfl r
theorem o_i2c (X : Stand p l e R s m args below meth c T locs cells slots) (hx : p.tables.exec = Jvm.exec) {pc pc' : Nat} {Ls : Array Slot} {st : List Value} {x : Int32} (hd : decode c.code pc = .ok (.i2c, 1)) (hp : pc + 1 = pc') (q : oGo p e below G T (mkF m pc' Ls (.int (x.toUInt32.toUInt16.toUInt32.toInt32) :: st))) : oGo p e below G T (mkF m pc Ls (.int x :: st)) := by
  subst hp; exact q.step fun t r => XT.i2c X.here hx rfl hd rfl r
theorem o_i2b (X : Stand p l e R s m args below meth c T locs cells slots) (hx : p.tables.exec = Jvm.exec) {pc pc' : Nat} {Ls : Array Slot} {st : List Value} {x : Int32} (hd : decode c.code pc = .ok (.i2b, 1)) (hp : pc + 1 = pc') (q : oGo p e below G T (mkF m pc' Ls (.int (x.toInt8.toInt32) :: st))) : oGo p e below G T (mkF m pc Ls (.int x :: st)) := by
  subst hp; exact q.step fun t r => XT.i2b X.here hx rfl hd rfl r
theorem o_iinc (X : Stand p l e R s m args below meth c T locs cells slots) (hx : p.tables.exec = Jvm.exec) {pc pc' : Nat} {Ls : Array Slot} {st : List Value} {k : Nat} {cst : Int} {x : Int32} {l' : Array Slot} (v : Int32) (hd : decode c.code pc = .ok (.iinc k cst, 3)) (hv : Int32.ofInt cst = v) (hl : Ls[k]? = some (.val (.int x))) (hl' : storeLocals Ls k (.int (x + v)) = some l') (hp : pc + 3 = pc') (q : oGo p e below G T (mkF m pc' l' (st))) : oGo p e below G T (mkF m pc Ls (st)) := by
  subst hp; exact q.step fun t r => XT.iincV X.here hx rfl v hd hv hl hl' r
theorem o_dup (X : Stand p l e R s m args below meth c T locs cells slots) (hx : p.tables.exec = Jvm.exec) {pc pc' : Nat} {Ls : Array Slot} {st : List Value} {v : Value} (hd : decode c.code pc = .ok (.dup, 1)) (hc : v.category = 1) (hp : pc + 1 = pc') (q : oGo p e below G T (mkF m pc' Ls (v :: v :: st))) : oGo p e below G T (mkF m pc Ls (v :: st)) := by
  subst hp; exact q.step fun t r => XS.dup X.here hx rfl hd rfl hc r
theorem o_pop (X : Stand p l e R s m args below meth c T locs cells slots) (hx : p.tables.exec = Jvm.exec) {pc pc' : Nat} {Ls : Array Slot} {st : List Value} {v : Value} (hd : decode c.code pc = .ok (.pop, 1)) (hc : v.category = 1) (hp : pc + 1 = pc') (q : oGo p e below G T (mkF m pc' Ls (st))) : oGo p e below G T (mkF m pc Ls (v :: st)) := by
  subst hp; exact q.step fun t r => XT.pop X.here hx rfl hd rfl hc r
theorem o_goto (X : Stand p l e R s m args below meth c T locs cells slots) (hx : p.tables.exec = Jvm.exec) {pc pc' : Nat} {Ls : Array Slot} {st : List Value} {o : Int} (hd : decode c.code pc = .ok (.goto o, 3)) (ho : 0 ≤ (pc : Int) + o) (hp : ((pc : Int) + o).toNat = pc') (q : oGo p e below G T (mkF m pc' Ls (st))) : oGo p e below G T (mkF m pc Ls (st)) :=
  q.step fun t r => XS.goto X.here hx rfl rfl hd ho hp r
theorem o_icmpT (X : Stand p l e R s m args below meth c T locs cells slots) (hx : p.tables.exec = Jvm.exec) {pc pc' : Nat} {Ls : Array Slot} {st : List Value} {o : Int} {cd : ClassFile.Cond} {x y : Int32} (hd : decode c.code pc = .ok (.if_icmp cd o, 3)) (hc : if_icmp.holds cd x y = true) (ho : 0 ≤ (pc : Int) + o) (hp : ((pc : Int) + o).toNat = pc') (q : oGo p e below G T (mkF m pc' Ls (st))) : oGo p e below G T (mkF m pc Ls (.int y :: .int x :: st)) :=
  q.step fun t r => XS.icmpYes X.here hx rfl rfl hd rfl hc ho hp r
theorem o_icmpF (X : Stand p l e R s m args below meth c T locs cells slots) (hx : p.tables.exec = Jvm.exec) {pc pc' : Nat} {Ls : Array Slot} {st : List Value} {o : Int} {cd : ClassFile.Cond} {x y : Int32} (hd : decode c.code pc = .ok (.if_icmp cd o, 3)) (hc : if_icmp.holds cd x y = false) (hp : pc + 3 = pc') (q : oGo p e below G T (mkF m pc' Ls (st))) : oGo p e below G T (mkF m pc Ls (.int y :: .int x :: st)) := by
  subst hp; exact q.step fun t r => XS.icmpNo X.here hx rfl hd rfl hc r
theorem o_ifT (X : Stand p l e R s m args below meth c T locs cells slots) (hx : p.tables.exec = Jvm.exec) {pc pc' : Nat} {Ls : Array Slot} {st : List Value} {o : Int} {cd : ClassFile.Cond} {x : Int32} (hd : decode c.code pc = .ok (.ifCond cd o, 3)) (hc : ifCond.holds cd x = true) (ho : 0 ≤ (pc : Int) + o) (hp : ((pc : Int) + o).toNat = pc') (q : oGo p e below G T (mkF m pc' Ls (st))) : oGo p e below G T (mkF m pc Ls (.int x :: st)) :=
  q.step fun t r => XS.ifYes X.here hx rfl rfl hd rfl hc ho hp r
theorem o_ifF (X : Stand p l e R s m args below meth c T locs cells slots) (hx : p.tables.exec = Jvm.exec) {pc pc' : Nat} {Ls : Array Slot} {st : List Value} {o : Int} {cd : ClassFile.Cond} {x : Int32} (hd : decode c.code pc = .ok (.ifCond cd o, 3)) (hc : ifCond.holds cd x = false) (hp : pc + 3 = pc') (q : oGo p e below G T (mkF m pc' Ls (st))) : oGo p e below G T (mkF m pc Ls (.int x :: st)) := by
  subst hp; exact q.step fun t r => XS.ifNo X.here hx rfl hd rfl hc r
theorem o_acmpT (X : Stand p l e R s m args below meth c T locs cells slots) (hx : p.tables.exec = Jvm.exec) {pc pc' : Nat} {Ls : Array Slot} {st : List Value} {o : Int} {cd : ClassFile.ACond} {x y : Value} (hd : decode c.code pc = .ok (.if_acmp cd o, 3)) (h1 : x.isRef = true) (h2 : y.isRef = true) (hc : XT.acmp cd x y = true) (ho : 0 ≤ (pc : Int) + o) (hp : ((pc : Int) + o).toNat = pc') (q : oGo p e below G T (mkF m pc' Ls (st))) : oGo p e below G T (mkF m pc Ls (y :: x :: st)) :=
  q.step fun t r => XT.acmpYes X.here hx rfl rfl hd rfl h1 h2 hc ho hp r
theorem o_acmpF (X : Stand p l e R s m args below meth c T locs cells slots) (hx : p.tables.exec = Jvm.exec) {pc pc' : Nat} {Ls : Array Slot} {st : List Value} {o : Int} {cd : ClassFile.ACond} {x y : Value} (hd : decode c.code pc = .ok (.if_acmp cd o, 3)) (h1 : x.isRef = true) (h2 : y.isRef = true) (hc : XT.acmp cd x y = false) (hp : pc + 3 = pc') (q : oGo p e below G T (mkF m pc' Ls (st))) : oGo p e below G T (mkF m pc Ls (y :: x :: st)) := by
  subst hp; exact q.step fun t r => XT.acmpNo X.here hx rfl hd rfl h1 h2 hc r
theorem o_retI (X : Stand p l e R s m args below meth c T locs cells slots) (hx : p.tables.exec = Jvm.exec) (hret : meth.sig.returnType = some .int) (hlk : meth.locks = false) {pc : Nat} {Ls : Array Slot} {st : List Value} {z : Int32} (hd : decode c.code pc = .ok (.ireturn, 1)) {Q : Option Value → Heap → List Loc → Prop} {C N : Nat} (hc : cells ≤ C) (hn : slots ≤ N) (hQ : Q (some (.int z)) T.heap locs) : oGo p e below (oG s Q C N) T (mkF m pc Ls (.int z :: st)) := by
  obtain ⟨fs, hr, hrun, hended, hW, hsame⟩ := X.leave (v := some (.int z)) (fun h => by rw [hret] at h; cases h) hlk
  exact ⟨_, _, retOut X hx hret rfl (Or.inl ⟨rfl, Or.inl rfl, _, rfl⟩) hd hr, hrun, hended, _, _, rfl, hQ, ⟨_, rfl⟩, hW, hsame.mono hc hn⟩
theorem o_retJ (X : Stand p l e R s m args below meth c T locs cells slots) (hx : p.tables.exec = Jvm.exec) (hret : meth.sig.returnType = some .long) (hlk : meth.locks = false) {pc : Nat} {Ls : Array Slot} {st : List Value} {z : Int64} (hd : decode c.code pc = .ok (.lreturn, 1)) {Q : Option Value → Heap → List Loc → Prop} {C N : Nat} (hc : cells ≤ C) (hn : slots ≤ N) (hQ : Q (some (.long z)) T.heap locs) : oGo p e below (oG s Q C N) T (mkF m pc Ls (.long z :: st)) := by
  obtain ⟨fs, hr, hrun, hended, hW, hsame⟩ := X.leave (v := some (.long z)) (fun h => by rw [hret] at h; cases h) hlk
  exact ⟨_, _, retOut X hx hret rfl (Or.inr (Or.inl ⟨rfl, rfl, _, rfl⟩)) hd hr, hrun, hended, _, _, rfl, hQ, ⟨_, rfl⟩, hW, hsame.mono hc hn⟩
theorem o_retD (X : Stand p l e R s m args below meth c T locs cells slots) (hx : p.tables.exec = Jvm.exec) (hret : meth.sig.returnType = some .double) (hlk : meth.locks = false) {pc : Nat} {Ls : Array Slot} {st : List Value} {z : UInt64} (hd : decode c.code pc = .ok (.dreturn, 1)) {Q : Option Value → Heap → List Loc → Prop} {C N : Nat} (hc : cells ≤ C) (hn : slots ≤ N) (hQ : Q (some (.double z)) T.heap locs) : oGo p e below (oG s Q C N) T (mkF m pc Ls (.double z :: st)) := by
  obtain ⟨fs, hr, hrun, hended, hW, hsame⟩ := X.leave (v := some (.double z)) (fun h => by rw [hret] at h; cases h) hlk
  exact ⟨_, _, retOut X hx hret rfl (Or.inr (Or.inr (Or.inl ⟨rfl, rfl, _, rfl⟩))) hd hr, hrun, hended, _, _, rfl, hQ, ⟨_, rfl⟩, hW, hsame.mono hc hn⟩
theorem o_retZ (X : Stand p l e R s m args below meth c T locs cells slots) (hx : p.tables.exec = Jvm.exec) (hret : meth.sig.returnType = some .boolean) (hlk : meth.locks = false) {pc : Nat} {Ls : Array Slot} {st : List Value} {z : Int32} (hd : decode c.code pc = .ok (.ireturn, 1)) (hz : z &&& 1 = z) {Q : Option Value → Heap → List Loc → Prop} {C N : Nat} (hc : cells ≤ C) (hn : slots ≤ N) (hQ : Q (some (.int z)) T.heap locs) : oGo p e below (oG s Q C N) T (mkF m pc Ls (.int z :: st)) := by
  obtain ⟨fs, hr, hrun, hended, hW, hsame⟩ := X.leave (v := some (.int z)) (fun h => by rw [hret] at h; cases h) hlk
  have hz' : nar .boolean z = z := hz
  exact ⟨_, _, retN X hx (t := .boolean) hret (Or.inl rfl) hd (by rw [hz']; exact hr), hrun, hended, _, _, rfl, hQ, ⟨_, rfl⟩, hW, hsame.mono hc hn⟩
theorem o_retA (X : Stand p l e R s m args below meth c T locs cells slots) (hx : p.tables.exec = Jvm.exec) {C1 : FieldType} (hret : meth.sig.returnType = some C1) (ht : C1.isReference = true) (hlk : meth.locks = false) {pc : Nat} {Ls : Array Slot} {st : List Value} {z : Value} (hz : z.isRef = true) (hna : narrow C1 z = z) (hd : decode c.code pc = .ok (.areturn, 1)) {Q : Option Value → Heap → List Loc → Prop} {C N : Nat} (hc : cells ≤ C) (hn : slots ≤ N) (hQ : Q (some z) T.heap locs) : oGo p e below (oG s Q C N) T (mkF m pc Ls (z :: st)) := by
  obtain ⟨fs, hr, hrun, hended, hW, hsame⟩ := X.leave (v := some z) (fun h => by rw [hret] at h; cases h) hlk
  exact ⟨_, _, retOut X hx hret hna (Or.inr (Or.inr (Or.inr (Or.inr ⟨rfl, ht, hz⟩)))) hd hr, hrun, hended, _, _, rfl, hQ, ⟨_, rfl⟩, hW, hsame.mono hc hn⟩
theorem o_retV (X : Stand p l e R s m args below meth c T locs cells slots) (hx : p.tables.exec = Jvm.exec) (hret : meth.sig.returnType = none) (hlk : meth.locks = false) {pc : Nat} {Ls : Array Slot} (hd : decode c.code pc = .ok (.return_, 1)) {Q : Option Value → Heap → List Loc → Prop} {C N : Nat} (hc : cells ≤ C) (hn : slots ≤ N) (hQ : Q none T.heap locs) : oGo p e below (oG s Q C N) T (mkF m pc Ls []) := by
  obtain ⟨fs, hr, hrun, hended, hW, hsame⟩ := X.leave (v := none) (fun _ => rfl) hlk
  exact ⟨_, _, X.returnOut hx hret hd hr, hrun, hended, _, _, rfl, hQ, ⟨_, rfl⟩, hW, hsame.mono hc hn⟩
theorem o_callS (X : Stand p l e R s m args below meth c T locs cells slots) (hx : p.tables.exec = Jvm.exec) (hZ : Z.Warmed39 s.vm) {own : String} {index : Nat} {y : MethodName} {bytes : ByteArray} {maxL : Nat} {ret : Option FieldType} (hown : s.vm.findClass own = some m.cls) (w1 : (Jvm.Cond.methodLink own index y).before a0 Z = true) (w2 : (Jvm.Cond.static y).before a0 Z = true) (w3 : (Jvm.Cond.initialized y.cls).before a0 Z = true) (w4 : (Jvm.Cond.code y bytes maxL ret).before a0 Z = true) (hy : y.cls ≠ "java/lang/invoke/MethodHandle" ∧ y.cls ≠ "java/lang/invoke/VarHandle") {rm : Room} {as' : Array Value} {Q : Option Value → Heap → List Loc → Prop} (hM : oCon l Z y bytes maxL ret rm as' h Q) (eT : T.heap = h) {pc pc' : Nat} {Ls : Array Slot} {st : List Value} (hsz : Ls.size = c.maxLocals) (argsL rest : List Value) (has : argsL.toArray = as') {ps : List FieldType} {rr : Option FieldType} (hpd : parseMethodDescriptor y.desc = some ⟨ps, rr⟩) (hlen : argsL.length = ps.length) (hst : st = argsL.reverse ++ rest) (W : Nat) (hW : (rest.map fun v => v.category).sum ≤ W) (hd : decode c.code pc = .ok (.invokestatic index, 3)) (hp : pc + 3 = pc') (hf : rm.frames + 1 ≤ R.frames) (hl : W + (maxL + 11) + rm.locals ≤ R.locals) (hc : cells + rm.cells ≤ R.cells) (hn : slots + rm.slots ≤ R.slots) :
    ∃ v T' L, Stand p l e R s m args below meth c T' (locs ++ L) (cells + rm.cells) (slots + rm.slots) ∧ Q v T'.heap L ∧ ∀ t, Steps p.tables e below (T'.setTop (mkF m pc' Ls (v.toList ++ rest))) t → Steps p.tables e below (T.setTop (mkF m pc Ls st)) t := by
  subst hp has
  obtain ⟨v, vm₁, ⟨T', L', k', n'⟩, -, X', ⟨Lc, hQ, l1, y1, z1⟩, st'⟩ := Jvm.LawKit.callS X hx hown (mvT hZ w1) (mvT hZ w2) (mvT hZ w3) (mvT hZ w4) hy (backOf (W := W) (hM []) hZ w4 w3 hf hl) (g := mkF m pc Ls st) rfl hsz (argsL := argsL) (rest := rest) (lenOf hpd hlen) hst (by show 2 * 0 + _ ≤ _; omega) hd (fun _ _ => ⟨rfl, eT, hc, hn⟩)
  dsimp only [Pt.U, Pt.locs, Pt.cells, Pt.slots] at X' l1 y1 z1 st' hQ
  subst l1 y1 z1
  exact ⟨v, T', Lc, X', hQ, st'⟩
theorem o_callN (X : Stand p l e R s m args below meth c T locs cells slots) (hx : p.tables.exec = Jvm.exec) (hZ : Z.Warmed39 s.vm) {own : String} {index : Nat} {y : MethodName} {bytes : ByteArray} {maxL : Nat} (hown : s.vm.findClass own = some m.cls) (hi : y.name = "<init>") (w1 : (Jvm.Cond.methodLink own index y).before a0 Z = true) (w2 : (Jvm.Cond.instanceMethod y).before a0 Z = true) (w3 : (Jvm.Cond.initialized y.cls).before a0 Z = true) (w4 : (Jvm.Cond.code y bytes maxL none).before a0 Z = true) (hy : y.cls ≠ "java/lang/invoke/MethodHandle" ∧ y.cls ≠ "java/lang/invoke/VarHandle") {rm : Room} {as' : Array Value} {Q : Option Value → Heap → List Loc → Prop} (hM : oCon l Z y bytes maxL none rm as' h Q) (eT : T.heap = h) {pc pc' : Nat} {Ls : Array Slot} {st : List Value} (hsz : Ls.size = c.maxLocals) {a : Addr} (argsL rest : List Value) (has : (Value.ref a :: argsL).toArray = as') {ps : List FieldType} {rr : Option FieldType} (hpd : parseMethodDescriptor y.desc = some ⟨ps, rr⟩) (hlen : argsL.length = ps.length) (hst : st = argsL.reverse ++ .ref a :: rest) (W : Nat) (hW : (rest.map fun v => v.category).sum ≤ W) (hd : decode c.code pc = .ok (.invokespecial index, 3)) (hp : pc + 3 = pc') (hf : rm.frames + 1 ≤ R.frames) (hl : W + (maxL + 11) + rm.locals ≤ R.locals) (hc : cells + rm.cells ≤ R.cells) (hn : slots + rm.slots ≤ R.slots) :
    ∃ v T' L, Stand p l e R s m args below meth c T' (locs ++ L) (cells + rm.cells) (slots + rm.slots) ∧ Q v T'.heap L ∧ ∀ t, Steps p.tables e below (T'.setTop (mkF m pc' Ls (v.toList ++ rest))) t → Steps p.tables e below (T.setTop (mkF m pc Ls st)) t := by
  subst hp has
  obtain ⟨v, vm₁, ⟨T', L', k', n'⟩, -, X', ⟨Lc, hQ, l1, y1, z1⟩, st'⟩ := X.specialBack hx hi hown (mvT hZ w1) (mvT hZ w2) (mvT hZ w4) hy (backOf (W := W) (hM []) hZ w4 w3 hf hl) (g := mkF m pc Ls st) rfl hsz (Steps.refl _) (a := a) (argsL := argsL) (rest := rest) (lenOf hpd hlen) hst (by show 2 * 0 + _ ≤ _; omega) hd (fun _ _ => ⟨rfl, eT, hc, hn⟩)
  dsimp only [Pt.U, Pt.locs, Pt.cells, Pt.slots] at X' l1 y1 z1 st' hQ
  subst l1 y1 z1
  exact ⟨v, T', Lc, X', hQ, fun t r => st'.trans r⟩
theorem o_callV (X : Stand p l e R s m args below meth c T locs cells slots) (hx : p.tables.exec = Jvm.exec) (hZ : Z.Warmed39 s.vm) {own : String} {index : Nat} {y : MethodName} {bytes : ByteArray} {maxL : Nat} {ret : Option FieldType} (hown : s.vm.findClass own = some m.cls) {C : String} (w1 : (Jvm.Cond.methodLink own index y).before a0 Z = true) (w2 : (Jvm.Cond.declares y).before a0 Z = true) (w5 : (Jvm.Cond.selects C y y).before a0 Z = true) (w6 : (Jvm.Cond.instanceMethod y).before a0 Z = true) (w3 : (Jvm.Cond.initialized y.cls).before a0 Z = true) (w4 : (Jvm.Cond.code y bytes maxL ret).before a0 Z = true) (hy : y.cls ≠ "java/lang/invoke/MethodHandle" ∧ y.cls ≠ "java/lang/invoke/VarHandle") {aa : Addr} (E : Exa Z h aa C) {rm : Room} {as' : Array Value} {Q : Option Value → Heap → List Loc → Prop} (hM : oCon l Z y bytes maxL ret rm as' h Q) (eT : T.heap = h) {pc pc' : Nat} {Ls : Array Slot} {st : List Value} (hsz : Ls.size = c.maxLocals) (argsL rest : List Value) (has : (Value.ref aa :: argsL).toArray = as') {ps : List FieldType} {rr : Option FieldType} (hpd : parseMethodDescriptor y.desc = some ⟨ps, rr⟩) (hlen : argsL.length = ps.length) (hst : st = argsL.reverse ++ .ref aa :: rest) (W : Nat) (hW : (rest.map fun v => v.category).sum ≤ W) (hd : decode c.code pc = .ok (.invokevirtual index, 3)) (hp : pc + 3 = pc') (hf : rm.frames + 1 ≤ R.frames) (hl : W + (maxL + 11) + rm.locals ≤ R.locals) (hc : cells + rm.cells ≤ R.cells) (hn : slots + rm.slots ≤ R.slots) :
    ∃ v T' L, Stand p l e R s m args below meth c T' (locs ++ L) (cells + rm.cells) (slots + rm.slots) ∧ Q v T'.heap L ∧ ∀ t, Steps p.tables e below (T'.setTop (mkF m pc' Ls (v.toList ++ rest))) t → Steps p.tables e below (T.setTop (mkF m pc Ls st)) t := by
  subst hp has
  obtain ⟨v, vm₁, ⟨T', L', k', n'⟩, -, X', ⟨Lc, hQ, l1, y1, z1⟩, st'⟩ := X.virtualBack hx hown (mvT hZ w1) (mvT hZ w2) (notFace_of_selects (args := #[]) (mvT hZ w5)) (mvT hZ w5) (mvT hZ w6) hy (backOf (W := W) (hM []) hZ w4 w3 hf hl) (isOf hZ eT E).choose_spec.choose_spec.1 (isOf hZ eT E).choose_spec.choose_spec.2.2 (g := mkF m pc Ls st) rfl hsz (Steps.refl _) (argsL := argsL) (rest := rest) (lenOf hpd hlen) hst (by show 2 * 0 + _ ≤ _; omega) hd (fun _ _ => ⟨rfl, eT, hc, hn⟩)
  dsimp only [Pt.U, Pt.locs, Pt.cells, Pt.slots] at X' l1 y1 z1 st' hQ
  subst l1 y1 z1
  exact ⟨v, T', Lc, X', hQ, fun t r => st'.trans r⟩
theorem o_bz (b : Prop) [Decidable b] : (if b then (1 : Int32) else 0) &&& 1 = if b then 1 else 0 := by by_cases q : b <;> simp [q]
theorem o_same {k n : Nat} (X : Stand p l e R s m args below meth c T (locs ++ []) (cells + k) (slots + n)) (hk : k = 0) (hn : n = 0) : Stand p l e R s m args below meth c T locs cells slots := by subst hk hn; simpa using X
theorem o_flat {k n : Nat} (X : Stand p l e R s m args below meth c T locs (cells + k) (slots + n)) (hk : k = 0) (hn : n = 0) : Stand p l e R s m args below meth c T locs cells slots := by subst hk hn; exact X
theorem o_fldI {a : Addr} {C n d : String} {x y : Int32} (q : y = x) (F : Fld Z h a C n d (.int x)) : Fld Z h a C n d (.int y) := q ▸ F
theorem o_fldJ {a : Addr} {C n d : String} {x y : Int64} (q : y = x) (F : Fld Z h a C n d (.long x)) : Fld Z h a C n d (.long y) := q ▸ F
theorem o_nb {z : Int32} (q : z = 0 ∨ z = 1) : narrow .boolean (.int z) = .int z := by rcases q with rfl | rfl <;> rfl
theorem o_fb {z : Int32} (q : z = 0 ∨ z = 1) : fits .boolean (.int z) = true := by rcases q with rfl | rfl <;> rfl
theorem o_zb {z : Int32} (q : z = 0 ∨ z = 1) : z &&& 1 = z := by rcases q with rfl | rfl <;> rfl
theorem o_or1 {z : Int32} (q : z = 0 ∨ z = 1) : (z ||| 1) = 0 ∨ (z ||| 1) = 1 := by rcases q with rfl | rfl <;> simp
theorem o_or0 {z : Int32} (q : z = 0 ∨ z = 1) : (z ||| 0) = 0 ∨ (z ||| 0) = 1 := by rcases q with rfl | rfl <;> simp
def oInts (Z : State) (h : Heap) (a : Addr) (xs : List Int32) : Prop := ∃ c : Cell, Arr Z h a c .int ∧ c.slots = (xs.map Value.int).toArray ∧ xs.length < 2 ^ 31
theorem oInts.lt {a : Addr} {xs : List Int32} (F : oInts Z h a xs) : a < h.size := by obtain ⟨c, A, -⟩ := F; exact A.lt
theorem oInts.ext {h' : Heap} {a : Addr} {xs : List Int32} (F : oInts Z h a xs) (E : Ext h h') : oInts Z h' a xs := by obtain ⟨c, A, r⟩ := F; exact ⟨c, A.ext E, r⟩
theorem oInts.keep {h' : Heap} {a : Addr} {xs : List Int32} {ws : List Addr} (F : oInts Z h a xs) (K : Keep h h' ws) (q : a ∉ ws) : oInts Z h' a xs := by obtain ⟨c, A, r⟩ := F; exact ⟨c, ⟨K.2.1 a c A.1 q, A.2⟩, r⟩
theorem oInts.set {h' : Heap} {a : Addr} {xs : List Int32} {i : Nat} {v : Int32} (F : oInts Z h a xs) (W : Wr h h' a i (.int v)) : oInts Z h' a (xs.set i v) := by
  obtain ⟨c, A, S, L⟩ := F
  refine ⟨_, A.same W, ?_, by simpa using L⟩
  simp [Cell.setSlot, S, List.map_set]
theorem oInts.new {a : Addr} {k : ClassId} {n : Int32} (A : Arr Z h a (newA k .int n) .int) (q : ¬ n < 0) : oInts Z h a (List.replicate n.toNatClampNeg 0) := by
  refine ⟨_, A, ?_, ?_⟩
  · simp [newA, defaultValue]
  · have := n.toInt_lt; simp only [List.length_replicate]; have h2 : n.toInt = (n.toNatClampNeg : Int) := nat_of q; omega
theorem oInts.at {a : Addr} {xs : List Int32} {j v : Int32} (F : oInts Z h a xs) (q : ¬ j < 0) (hj : xs[j.toNatClampNeg]? = some v) : ∃ c : Cell, Arr Z h a c .int ∧ ¬ (j < 0 ∨ c.slots.size ≤ j.toNatClampNeg) ∧ c.slots[j.toNatClampNeg]? = some (.int v) := by
  obtain ⟨c, A, S, L⟩ := F
  have hl : j.toNatClampNeg < xs.length := by
    rcases Nat.lt_or_ge j.toNatClampNeg xs.length with r | r
    · exact r
    · rw [List.getElem?_eq_none r] at hj; cases hj
  refine ⟨c, A, ?_, ?_⟩
  · rw [S]; simp only [List.size_toArray, List.length_map]; rintro (r | r)
    · exact q r
    · omega
  · rw [S]; simp [hj]
theorem o_iaload (X : Stand p l e R s m args below meth c T locs cells slots) (hx : p.tables.exec = Jvm.exec) (hZ : Z.Warmed39 s.vm) (eT : T.heap = h) {a : Addr} {xs : List Int32} (F : oInts Z h a xs) {pc pc' : Nat} {Ls : Array Slot} {st : List Value} {j v : Int32} (hd : decode c.code pc = .ok (.iaload, 1)) (q0 : ¬ j < 0) (hj : xs[j.toNatClampNeg]? = some v) (hp : pc + 1 = pc') (q : oGo p e below G T (mkF m pc' Ls (.int v :: st))) : oGo p e below G T (mkF m pc Ls (.int j :: .ref a :: st)) := by
  subst hp
  obtain ⟨cl, A, h1, h2⟩ := F.at q0 hj
  exact q.step fun t r => X.iaload (g := mkF m pc Ls (.int j :: .ref a :: st)) (rest := st) hx (by rw [eT]; exact A.1) (State.isArrayOf_alike hZ.alike A.2.1) A.2.2 h1 h2 rfl rfl hd t r
theorem o_alen (X : Stand p l e R s m args below meth c T locs cells slots) (hx : p.tables.exec = Jvm.exec) (hZ : Z.Warmed39 s.vm) (eT : T.heap = h) {a : Addr} {xs : List Int32} (F : oInts Z h a xs) {pc pc' : Nat} {Ls : Array Slot} {st : List Value} (hd : decode c.code pc = .ok (.arraylength, 1)) (hp : pc + 1 = pc') (q : oGo p e below G T (mkF m pc' Ls (.int xs.length.toInt32 :: st))) : oGo p e below G T (mkF m pc Ls (.ref a :: st)) := by
  subst hp
  obtain ⟨cl, A, S, L⟩ := F
  refine q.step fun t r => X.arraylength (g := mkF m pc Ls (.ref a :: st)) (rest := st) hx (by rw [eT]; exact A.1) (State.isArrayOf_alike hZ.alike A.2.1) rfl rfl hd t ?_
  have : cl.slots.size = xs.length := by rw [S]; simp
  rw [this]; exact r
theorem o_iastore (X : Stand p l e R s m args below meth c T locs cells slots) (hx : p.tables.exec = Jvm.exec) (hZ : Z.Warmed39 s.vm) (eT : T.heap = h) {a : Addr} {xs : List Int32} (F : oInts Z h a xs) {pc pc' : Nat} {Ls : Array Slot} {st : List Value} {j x : Int32} (hd : decode c.code pc = .ok (.iastore, 1)) (q0 : ¬ j < 0) (hj : j.toNatClampNeg < xs.length) (hp : pc + 1 = pc') :
    ∃ T' h', Stand p l e R s m args below meth c T' (locs ++ [⟨a, j.toNatClampNeg⟩]) cells slots ∧ T'.heap = h' ∧ Wr h h' a j.toNatClampNeg (.int x) ∧ ∀ t, Steps p.tables e below (T'.setTop (mkF m pc' Ls st)) t → Steps p.tables e below (T.setTop (mkF m pc Ls (.int x :: .int j :: .ref a :: st))) t := by
  subst hp
  obtain ⟨v, hv⟩ : ∃ v, xs[j.toNatClampNeg]? = some v := ⟨_, List.getElem?_eq_getElem hj⟩
  obtain ⟨cl, A, h1, h2⟩ := F.at q0 hv
  obtain ⟨T', h', X', e', W', st'⟩ := stI X hx hZ eT A (x := x) h1 (g := mkF m pc Ls (.int x :: .int j :: .ref a :: st)) (rest := st) rfl rfl hd
  exact ⟨T', h', X', e', W', st'⟩
theorem o_newI (X : Stand p l e R s m args below meth c T locs cells slots) (hx : p.tables.exec = Jvm.exec) (hZ : Z.Warmed39 s.vm) (w : (Jvm.Cond.arrayClass .int).before a0 Z = true) (eT : T.heap = h) {pc pc' : Nat} {Ls : Array Slot} {st : List Value} {n : Int32} (hd : decode c.code pc = .ok (.newarray .int, 2)) (hn : ¬ n < 0) (cap : Nat) (hcap : n.toNatClampNeg ≤ cap) (hb : cap * 8 ≤ 536870912) (hc : cells + 1 ≤ R.cells) (hl : slots + cap ≤ R.slots) (hp : pc + 2 = pc') :
    ∃ T' h', Stand p l e R s m args below meth c T' locs (cells + 1) (slots + cap) ∧ T'.heap = h' ∧ Ext h h' ∧ oInts Z h' h.size (List.replicate n.toNatClampNeg 0) ∧ ∀ t, Steps p.tables e below (T'.setTop (mkF m pc' Ls (.ref h.size :: st))) t → Steps p.tables e below (T.setTop (mkF m pc Ls (.int n :: st))) t := by
  subst hp
  obtain ⟨T', h', cA, X', e', E, A, st'⟩ := newP X hx hZ (aty := .int) w eT (g := mkF m pc Ls (.int n :: st)) rfl hd (n := n) (rest := st) rfl hn hcap hb hc hl
  have A' := oInts.new A hn
  exact ⟨T', h', X', e', E, A', st'⟩
end OwnKit
theorem d1_0 : decode jdk_29_method_69_code 0 = .ok (.iload_n 0, 1) := by decide +kernel
theorem d1_1 : decode jdk_29_method_69_code 1 = .ok (.iload_n 1, 1) := by decide +kernel
theorem d1_2 : decode jdk_29_method_69_code 2 = .ok (.if_icmp .gt 7, 3) := by decide +kernel
theorem d1_5 : decode jdk_29_method_69_code 5 = .ok (.iload_n 0, 1) := by decide +kernel
theorem d1_6 : decode jdk_29_method_69_code 6 = .ok (.goto 4, 3) := by decide +kernel
theorem d1_9 : decode jdk_29_method_69_code 9 = .ok (.iload_n 1, 1) := by decide +kernel
theorem d1_10 : decode jdk_29_method_69_code 10 = .ok (.ireturn, 1) := by decide +kernel
theorem ef_1 (m : MethodId) (x0 : Int32) (x1 : Int32) : entryFrame m #[(.int x0), (.int x1)] 2 = mkF m 0 #[.val (.int x0), .val (.int x1)] [] := by first | (simp [entryFrame, mkF, argsToLocals, Value.category]; done) | rfl
def spec1 (x0 : Int32) (x1 : Int32)  : Int32 := (if x1 < x0 then x1 else x0)
def room1 : Room := { frames := 0, cells := 0, slots := 0, locals := 0 }
set_option maxRecDepth 65536 in
set_option maxHeartbeats 40000000 in
theorem rm1 (l : Launch) (Z : State) (a0 : Array Value) (hw : ∀ d ∈ tables_1, d.before a0 Z = true) (x0 : Int32) (x1 : Int32)  (h0 : Heap) (n0 : Nat) (Z0 : n0 ≤ h0.size)  :
    oCon l Z (⟨"java/lang/Math", "min", "(II)I"⟩ : MethodName) jdk_29_method_69_code 2 (some .int) room1 #[(.int x0), (.int x1)] h0 (fun v h L => v = some (.int (spec1 x0 x1)) ∧ L = [] ∧ h = h0) := by
  refine oCon.of (by decide +kernel) ?_
  intro p e s m below meth c s₁ hx hby hml hown hnm hret hlk hZ X0 e0
  rw [ef_1 m x0 x1]
  have N0 := Fr.nil n0
  refine o_iloadN (pc' := 1) X0 hx (hb hby d1_0) rfl rfl ?_
  refine o_iloadN (pc' := 2) X0 hx (hb hby d1_1) rfl rfl ?_
  have J2 : ∀ (v3 : Int32), v3 = (if x1 < x0 then x1 else x0) → oGo p e below (oG s (fun v h L => v = some (.int (spec1 x0 x1)) ∧ L = [] ∧ h = h0) room1.cells room1.slots) s₁ (mkF m 10 #[.val (.int x0), .val (.int x1)] [(.int v3)]) := by
    intro v3 hv3
    refine o_retI X0 hx hret hlk (hb hby d1_10) (by decide) (by decide) ?_
    subst hv3
    exact ⟨congrArg (fun z => some (Value.int z)) (show _ = spec1 x0 x1  from (rfl).symm), rfl, e0⟩
  by_cases c1 : x1 < x0
  · refine o_icmpT (pc' := 9) X0 hx (hb hby d1_2) (XT.ii_gt_t c1) (by decide) (by decide) ?_
    refine o_iloadN (pc' := 10) X0 hx (hb hby d1_9) rfl rfl ?_
    exact J2 _ (if_pos c1).symm
  · refine o_icmpF (pc' := 5) X0 hx (hb hby d1_2) (XT.ii_gt_f c1) rfl ?_
    refine o_iloadN (pc' := 6) X0 hx (hb hby d1_5) rfl rfl ?_
    refine o_goto (pc' := 10) X0 hx (hb hby d1_6) (by decide) (by decide) ?_
    exact J2 _ (if_neg c1).symm
def oInv (k g z : Int32) : Prop := ((k = 0 ∧ g = 0) ∨ (k = 1 ∧ (g = 1 ∨ g = 2 ∨ g = 3)) ∨ (k = 2 ∧ (g = 1 ∨ g = 2)) ∨ (k = 3 ∧ g = 1)) ∧ (z = 0 ∨ z = 1)
def oLeast (g : Int32) : Int32 := if g = 0 then 0 else if g = 1 then 128 else if g = 2 then 2048 else 65536
theorem own_idx {k g z : Int32} (I : oInv k g z) : (¬ ((g + 1) - 1) < 0) ∧ [(0 : Int32), 128, 2048, 65536][((g + 1) - 1).toNatClampNeg]? = some (oLeast g) := by
  obtain ⟨(⟨-, rfl⟩ | ⟨-, rfl | rfl | rfl⟩ | ⟨-, rfl | rfl⟩ | ⟨-, rfl⟩), -⟩ := I <;> decide
theorem o_orB {x y : Int32} (q : x = 0 ∨ x = 1) (r : y = 0 ∨ y = 1) : (x ||| y) = 0 ∨ (x ||| y) = 1 := by rcases q with rfl | rfl <;> rcases r with rfl | rfl <;> decide
theorem own_inv0 : oInv 0 0 0 := ⟨Or.inl ⟨rfl, rfl⟩, Or.inl rfl⟩
theorem d2_0 : decode prog_155_method_1_code 0 = .ok (.aload_n 0, 1) := by decide +kernel
theorem d2_1 : decode prog_155_method_1_code 1 = .ok (.invokespecial 1, 3) := by decide +kernel
theorem d2_4 : decode prog_155_method_1_code 4 = .ok (.return_, 1) := by decide +kernel
theorem pn_2 : plainName "com/example/harborlog/harborlog/Utf8Decoder" = true := by first | (simp [plainName, overriddenIn]; done) | decide +kernel
theorem ef2 (m : MethodId) (a1 : Addr) : entryFrame m #[(.ref a1)] 1 = mkF m 0 #[.val (.ref a1)] [] := by first | (simp [entryFrame, mkF, argsToLocals, Value.category]; done) | rfl
def room2 : Room := { frames := 1, cells := 0, slots := 0, locals := 12 }
set_option maxRecDepth 65536 in
set_option maxHeartbeats 40000000 in
theorem rm2 (l : Launch) (Z : State) (a0 : Array Value) (hw : ∀ d ∈ tables_1, d.before a0 Z = true) (a1 : Addr) (h0 : Heap) (n0 : Nat) (Z0 : n0 ≤ h0.size)   :
    oCon l Z (⟨"com/example/harborlog/harborlog/Utf8Decoder", "<init>", "()V"⟩ : MethodName) prog_155_method_1_code 1 none room2 #[(.ref a1)] h0 (fun v h L => v = none ∧ L = [] ∧ h = h0) := by
  refine oCon.of (plainFor_of_name pn_2) ?_
  intro p e s m below meth c s₁ hx hby hml hown hnm hret hlk hZ X0 e0
  rw [ef2 m a1]
  have N0 := Fr.nil n0
  refine o_aloadN (pc' := 1) X0 hx (hb hby d2_0) rfl rfl rfl ?_
  obtain ⟨T1, X1, e1, st1⟩ := initO X0 hx hZ hown (hw _ (List.mem_of_getElem? (i := 13) rfl)) (hw _ (List.mem_of_getElem? (i := 14) rfl)) (hw _ (List.mem_of_getElem? (i := 15) rfl)) e0 (g := (mkF m 1 #[.val (.ref a1)] [(.ref a1)])) rfl (by rw [hml]; rfl) rfl (hb hby d2_1) (by decide) (W := 0) (by show 2 * 0 + _ ≤ _; exact Nat.le_of_eq rfl) (by decide)
  refine oGo.step (f' := (mkF m 4 #[.val (.ref a1)] [])) st1 ?_
  refine o_retV X1 hx hret hlk (hb hby d2_4) (by decide) (by decide) ?_
  exact ⟨rfl, rfl, e1⟩
theorem d5_0 : decode prog_155_method_3_code 0 = .ok (.iconst (-1), 1) := by decide +kernel
theorem d5_1 : decode prog_155_method_3_code 1 = .ok (.istore_n 2, 1) := by decide +kernel
theorem d5_2 : decode prog_155_method_3_code 2 = .ok (.aload_n 0, 1) := by decide +kernel
theorem d5_3 : decode prog_155_method_3_code 3 = .ok (.getfield 14, 3) := by decide +kernel
theorem d5_6 : decode prog_155_method_3_code 6 = .ok (.ifCond .le 146, 3) := by decide +kernel
theorem d5_9 : decode prog_155_method_3_code 9 = .ok (.iload_n 1, 1) := by decide +kernel
theorem d5_10 : decode prog_155_method_3_code 10 = .ok (.sipush 192, 3) := by decide +kernel
theorem d5_13 : decode prog_155_method_3_code 13 = .ok (.iand, 1) := by decide +kernel
theorem d5_14 : decode prog_155_method_3_code 14 = .ok (.sipush 128, 3) := by decide +kernel
theorem d5_17 : decode prog_155_method_3_code 17 = .ok (.if_icmp .ne 135, 3) := by decide +kernel
theorem d5_20 : decode prog_155_method_3_code 20 = .ok (.aload_n 0, 1) := by decide +kernel
theorem d5_21 : decode prog_155_method_3_code 21 = .ok (.aload_n 0, 1) := by decide +kernel
theorem d5_22 : decode prog_155_method_3_code 22 = .ok (.getfield 26, 3) := by decide +kernel
theorem d5_25 : decode prog_155_method_3_code 25 = .ok (.bipush 6, 2) := by decide +kernel
theorem d5_27 : decode prog_155_method_3_code 27 = .ok (.ishl, 1) := by decide +kernel
theorem d5_28 : decode prog_155_method_3_code 28 = .ok (.iload_n 1, 1) := by decide +kernel
theorem d5_29 : decode prog_155_method_3_code 29 = .ok (.bipush 63, 2) := by decide +kernel
theorem d5_31 : decode prog_155_method_3_code 31 = .ok (.iand, 1) := by decide +kernel
theorem d5_32 : decode prog_155_method_3_code 32 = .ok (.ior, 1) := by decide +kernel
theorem d5_33 : decode prog_155_method_3_code 33 = .ok (.putfield 26, 3) := by decide +kernel
theorem d5_36 : decode prog_155_method_3_code 36 = .ok (.aload_n 0, 1) := by decide +kernel
theorem d5_37 : decode prog_155_method_3_code 37 = .ok (.dup, 1) := by decide +kernel
theorem d5_38 : decode prog_155_method_3_code 38 = .ok (.getfield 29, 3) := by decide +kernel
theorem d5_41 : decode prog_155_method_3_code 41 = .ok (.iconst 1, 1) := by decide +kernel
theorem d5_42 : decode prog_155_method_3_code 42 = .ok (.iadd, 1) := by decide +kernel
theorem d5_43 : decode prog_155_method_3_code 43 = .ok (.putfield 29, 3) := by decide +kernel
theorem d5_46 : decode prog_155_method_3_code 46 = .ok (.aload_n 0, 1) := by decide +kernel
theorem d5_47 : decode prog_155_method_3_code 47 = .ok (.dup, 1) := by decide +kernel
theorem d5_48 : decode prog_155_method_3_code 48 = .ok (.getfield 14, 3) := by decide +kernel
theorem d5_51 : decode prog_155_method_3_code 51 = .ok (.iconst 1, 1) := by decide +kernel
theorem d5_52 : decode prog_155_method_3_code 52 = .ok (.isub, 1) := by decide +kernel
theorem d5_53 : decode prog_155_method_3_code 53 = .ok (.putfield 14, 3) := by decide +kernel
theorem d5_56 : decode prog_155_method_3_code 56 = .ok (.aload_n 0, 1) := by decide +kernel
theorem d5_57 : decode prog_155_method_3_code 57 = .ok (.getfield 14, 3) := by decide +kernel
theorem d5_60 : decode prog_155_method_3_code 60 = .ok (.ifCond .ne 206, 3) := by decide +kernel
theorem d5_63 : decode prog_155_method_3_code 63 = .ok (.aload_n 0, 1) := by decide +kernel
theorem d5_64 : decode prog_155_method_3_code 64 = .ok (.getfield 26, 3) := by decide +kernel
theorem d5_67 : decode prog_155_method_3_code 67 = .ok (.getstatic 32, 3) := by decide +kernel
theorem d5_70 : decode prog_155_method_3_code 70 = .ok (.aload_n 0, 1) := by decide +kernel
theorem d5_71 : decode prog_155_method_3_code 71 = .ok (.getfield 29, 3) := by decide +kernel
theorem d5_74 : decode prog_155_method_3_code 74 = .ok (.iconst 1, 1) := by decide +kernel
theorem d5_75 : decode prog_155_method_3_code 75 = .ok (.isub, 1) := by decide +kernel
theorem d5_76 : decode prog_155_method_3_code 76 = .ok (.iaload, 1) := by decide +kernel
theorem d5_77 : decode prog_155_method_3_code 77 = .ok (.if_icmp .lt 34, 3) := by decide +kernel
theorem d5_80 : decode prog_155_method_3_code 80 = .ok (.aload_n 0, 1) := by decide +kernel
theorem d5_81 : decode prog_155_method_3_code 81 = .ok (.getfield 26, 3) := by decide +kernel
theorem d5_84 : decode prog_155_method_3_code 84 = .ok (.ldc 38, 2) := by decide +kernel
theorem d5_86 : decode prog_155_method_3_code 86 = .ok (.if_icmp .gt 25, 3) := by decide +kernel
theorem d5_89 : decode prog_155_method_3_code 89 = .ok (.aload_n 0, 1) := by decide +kernel
theorem d5_90 : decode prog_155_method_3_code 90 = .ok (.getfield 26, 3) := by decide +kernel
theorem d5_93 : decode prog_155_method_3_code 93 = .ok (.ldc 39, 2) := by decide +kernel
theorem d5_95 : decode prog_155_method_3_code 95 = .ok (.if_icmp .lt 12, 3) := by decide +kernel
theorem d5_98 : decode prog_155_method_3_code 98 = .ok (.aload_n 0, 1) := by decide +kernel
theorem d5_99 : decode prog_155_method_3_code 99 = .ok (.getfield 26, 3) := by decide +kernel
theorem d5_102 : decode prog_155_method_3_code 102 = .ok (.ldc 40, 2) := by decide +kernel
theorem d5_104 : decode prog_155_method_3_code 104 = .ok (.if_icmp .le 7, 3) := by decide +kernel
theorem d5_107 : decode prog_155_method_3_code 107 = .ok (.iconst 1, 1) := by decide +kernel
theorem d5_108 : decode prog_155_method_3_code 108 = .ok (.goto 4, 3) := by decide +kernel
theorem d5_111 : decode prog_155_method_3_code 111 = .ok (.iconst 0, 1) := by decide +kernel
theorem d5_112 : decode prog_155_method_3_code 112 = .ok (.istore_n 3, 1) := by decide +kernel
theorem d5_113 : decode prog_155_method_3_code 113 = .ok (.iload_n 3, 1) := by decide +kernel
theorem d5_114 : decode prog_155_method_3_code 114 = .ok (.ifCond .eq 10, 3) := by decide +kernel
theorem d5_117 : decode prog_155_method_3_code 117 = .ok (.aload_n 0, 1) := by decide +kernel
theorem d5_118 : decode prog_155_method_3_code 118 = .ok (.getfield 26, 3) := by decide +kernel
theorem d5_121 : decode prog_155_method_3_code 121 = .ok (.goto 4, 3) := by decide +kernel
theorem d5_124 : decode prog_155_method_3_code 124 = .ok (.iconst (-1), 1) := by decide +kernel
theorem d5_125 : decode prog_155_method_3_code 125 = .ok (.istore_n 2, 1) := by decide +kernel
theorem d5_126 : decode prog_155_method_3_code 126 = .ok (.aload_n 0, 1) := by decide +kernel
theorem d5_127 : decode prog_155_method_3_code 127 = .ok (.dup, 1) := by decide +kernel
theorem d5_128 : decode prog_155_method_3_code 128 = .ok (.getfield 10, 3) := by decide +kernel
theorem d5_131 : decode prog_155_method_3_code 131 = .ok (.iload_n 3, 1) := by decide +kernel
theorem d5_132 : decode prog_155_method_3_code 132 = .ok (.ifCond .ne 7, 3) := by decide +kernel
theorem d5_135 : decode prog_155_method_3_code 135 = .ok (.iconst 1, 1) := by decide +kernel
theorem d5_136 : decode prog_155_method_3_code 136 = .ok (.goto 4, 3) := by decide +kernel
theorem d5_139 : decode prog_155_method_3_code 139 = .ok (.iconst 0, 1) := by decide +kernel
theorem d5_140 : decode prog_155_method_3_code 140 = .ok (.ior, 1) := by decide +kernel
theorem d5_141 : decode prog_155_method_3_code 141 = .ok (.putfield 10, 3) := by decide +kernel
theorem d5_144 : decode prog_155_method_3_code 144 = .ok (.aload_n 0, 1) := by decide +kernel
theorem d5_145 : decode prog_155_method_3_code 145 = .ok (.iconst 0, 1) := by decide +kernel
theorem d5_146 : decode prog_155_method_3_code 146 = .ok (.putfield 29, 3) := by decide +kernel
theorem d5_149 : decode prog_155_method_3_code 149 = .ok (.goto 117, 3) := by decide +kernel
theorem d5_152 : decode prog_155_method_3_code 152 = .ok (.aload_n 0, 1) := by decide +kernel
theorem d5_153 : decode prog_155_method_3_code 153 = .ok (.dup, 1) := by decide +kernel
theorem d5_154 : decode prog_155_method_3_code 154 = .ok (.getfield 10, 3) := by decide +kernel
theorem d5_157 : decode prog_155_method_3_code 157 = .ok (.aload_n 0, 1) := by decide +kernel
theorem d5_158 : decode prog_155_method_3_code 158 = .ok (.getfield 14, 3) := by decide +kernel
theorem d5_161 : decode prog_155_method_3_code 161 = .ok (.ifCond .le 7, 3) := by decide +kernel
theorem d5_164 : decode prog_155_method_3_code 164 = .ok (.iconst 1, 1) := by decide +kernel
theorem d5_165 : decode prog_155_method_3_code 165 = .ok (.goto 4, 3) := by decide +kernel
theorem d5_168 : decode prog_155_method_3_code 168 = .ok (.iconst 0, 1) := by decide +kernel
theorem d5_169 : decode prog_155_method_3_code 169 = .ok (.ior, 1) := by decide +kernel
theorem d5_170 : decode prog_155_method_3_code 170 = .ok (.putfield 10, 3) := by decide +kernel
theorem d5_173 : decode prog_155_method_3_code 173 = .ok (.aload_n 0, 1) := by decide +kernel
theorem d5_174 : decode prog_155_method_3_code 174 = .ok (.iconst 0, 1) := by decide +kernel
theorem d5_175 : decode prog_155_method_3_code 175 = .ok (.putfield 14, 3) := by decide +kernel
theorem d5_178 : decode prog_155_method_3_code 178 = .ok (.aload_n 0, 1) := by decide +kernel
theorem d5_179 : decode prog_155_method_3_code 179 = .ok (.iconst 0, 1) := by decide +kernel
theorem d5_180 : decode prog_155_method_3_code 180 = .ok (.putfield 29, 3) := by decide +kernel
theorem d5_183 : decode prog_155_method_3_code 183 = .ok (.iload_n 1, 1) := by decide +kernel
theorem d5_184 : decode prog_155_method_3_code 184 = .ok (.sipush 128, 3) := by decide +kernel
theorem d5_187 : decode prog_155_method_3_code 187 = .ok (.if_icmp .ge 8, 3) := by decide +kernel
theorem d5_190 : decode prog_155_method_3_code 190 = .ok (.iload_n 1, 1) := by decide +kernel
theorem d5_191 : decode prog_155_method_3_code 191 = .ok (.istore_n 2, 1) := by decide +kernel
theorem d5_192 : decode prog_155_method_3_code 192 = .ok (.goto 74, 3) := by decide +kernel
theorem d5_195 : decode prog_155_method_3_code 195 = .ok (.iload_n 1, 1) := by decide +kernel
theorem d5_196 : decode prog_155_method_3_code 196 = .ok (.sipush 192, 3) := by decide +kernel
theorem d5_199 : decode prog_155_method_3_code 199 = .ok (.if_icmp .lt 10, 3) := by decide +kernel
theorem d5_202 : decode prog_155_method_3_code 202 = .ok (.iload_n 1, 1) := by decide +kernel
theorem d5_203 : decode prog_155_method_3_code 203 = .ok (.sipush 247, 3) := by decide +kernel
theorem d5_206 : decode prog_155_method_3_code 206 = .ok (.if_icmp .le 11, 3) := by decide +kernel
theorem d5_209 : decode prog_155_method_3_code 209 = .ok (.aload_n 0, 1) := by decide +kernel
theorem d5_210 : decode prog_155_method_3_code 210 = .ok (.iconst 1, 1) := by decide +kernel
theorem d5_211 : decode prog_155_method_3_code 211 = .ok (.putfield 10, 3) := by decide +kernel
theorem d5_214 : decode prog_155_method_3_code 214 = .ok (.goto 52, 3) := by decide +kernel
theorem d5_217 : decode prog_155_method_3_code 217 = .ok (.aload_n 0, 1) := by decide +kernel
theorem d5_218 : decode prog_155_method_3_code 218 = .ok (.iconst 1, 1) := by decide +kernel
theorem d5_219 : decode prog_155_method_3_code 219 = .ok (.iload_n 1, 1) := by decide +kernel
theorem d5_220 : decode prog_155_method_3_code 220 = .ok (.sipush 224, 3) := by decide +kernel
theorem d5_223 : decode prog_155_method_3_code 223 = .ok (.if_icmp .lt 7, 3) := by decide +kernel
theorem d5_226 : decode prog_155_method_3_code 226 = .ok (.iconst 1, 1) := by decide +kernel
theorem d5_227 : decode prog_155_method_3_code 227 = .ok (.goto 4, 3) := by decide +kernel
theorem d5_230 : decode prog_155_method_3_code 230 = .ok (.iconst 0, 1) := by decide +kernel
theorem d5_231 : decode prog_155_method_3_code 231 = .ok (.iadd, 1) := by decide +kernel
theorem d5_232 : decode prog_155_method_3_code 232 = .ok (.iload_n 1, 1) := by decide +kernel
theorem d5_233 : decode prog_155_method_3_code 233 = .ok (.sipush 240, 3) := by decide +kernel
theorem d5_236 : decode prog_155_method_3_code 236 = .ok (.if_icmp .lt 7, 3) := by decide +kernel
theorem d5_239 : decode prog_155_method_3_code 239 = .ok (.iconst 1, 1) := by decide +kernel
theorem d5_240 : decode prog_155_method_3_code 240 = .ok (.goto 4, 3) := by decide +kernel
theorem d5_243 : decode prog_155_method_3_code 243 = .ok (.iconst 0, 1) := by decide +kernel
theorem d5_244 : decode prog_155_method_3_code 244 = .ok (.iadd, 1) := by decide +kernel
theorem d5_245 : decode prog_155_method_3_code 245 = .ok (.putfield 14, 3) := by decide +kernel
theorem d5_248 : decode prog_155_method_3_code 248 = .ok (.aload_n 0, 1) := by decide +kernel
theorem d5_249 : decode prog_155_method_3_code 249 = .ok (.iload_n 1, 1) := by decide +kernel
theorem d5_250 : decode prog_155_method_3_code 250 = .ok (.bipush 63, 2) := by decide +kernel
theorem d5_252 : decode prog_155_method_3_code 252 = .ok (.aload_n 0, 1) := by decide +kernel
theorem d5_253 : decode prog_155_method_3_code 253 = .ok (.getfield 14, 3) := by decide +kernel
theorem d5_256 : decode prog_155_method_3_code 256 = .ok (.ishr, 1) := by decide +kernel
theorem d5_257 : decode prog_155_method_3_code 257 = .ok (.iand, 1) := by decide +kernel
theorem d5_258 : decode prog_155_method_3_code 258 = .ok (.putfield 26, 3) := by decide +kernel
theorem d5_261 : decode prog_155_method_3_code 261 = .ok (.aload_n 0, 1) := by decide +kernel
theorem d5_262 : decode prog_155_method_3_code 262 = .ok (.iconst 1, 1) := by decide +kernel
theorem d5_263 : decode prog_155_method_3_code 263 = .ok (.putfield 29, 3) := by decide +kernel
theorem d5_266 : decode prog_155_method_3_code 266 = .ok (.iload_n 2, 1) := by decide +kernel
theorem d5_267 : decode prog_155_method_3_code 267 = .ok (.ireturn, 1) := by decide +kernel
theorem ef5 (m : MethodId) (a1 : Addr) (x1 : Int32) : entryFrame m #[(.ref a1), (.int x1)] 4 = mkF m 0 #[.val (.ref a1), .val (.int x1), .unset, .unset] [] := by first | (simp [entryFrame, mkF, argsToLocals, Value.category]; done) | rfl
def spec5 (x1 : Int32) (f_codePoint : Int32) (f_lacking : Int32) (f_given : Int32) : Int32 := (if 0 < f_lacking then (if (x1 &&& (192 : Int32)) = (128 : Int32) then (if (f_lacking - (1 : Int32)) = 0 then (if (if ((f_codePoint <<< ((6 : Int32) &&& 31)) ||| (x1 &&& (63 : Int32))) < (oLeast f_given) then (0 : Int32) else (if (1114111 : Int32) < ((f_codePoint <<< ((6 : Int32) &&& 31)) ||| (x1 &&& (63 : Int32))) then (0 : Int32) else (if ((f_codePoint <<< ((6 : Int32) &&& 31)) ||| (x1 &&& (63 : Int32))) < (55296 : Int32) then (1 : Int32) else (if (57343 : Int32) < ((f_codePoint <<< ((6 : Int32) &&& 31)) ||| (x1 &&& (63 : Int32))) then (1 : Int32) else (0 : Int32))))) = 0 then (-1 : Int32) else ((f_codePoint <<< ((6 : Int32) &&& 31)) ||| (x1 &&& (63 : Int32)))) else (-1 : Int32)) else (if x1 < (128 : Int32) then x1 else (-1 : Int32))) else (if x1 < (128 : Int32) then x1 else (-1 : Int32)))
def fld5_codePoint (x1 : Int32) (f_codePoint : Int32) (f_lacking : Int32) : Int32 := (if 0 < f_lacking then (if (x1 &&& (192 : Int32)) = (128 : Int32) then ((f_codePoint <<< ((6 : Int32) &&& 31)) ||| (x1 &&& (63 : Int32))) else (if x1 < (128 : Int32) then f_codePoint else (if x1 < (192 : Int32) then f_codePoint else (if (247 : Int32) < x1 then f_codePoint else (x1 &&& ((63 : Int32) >>> ((((1 : Int32) + (if x1 < (224 : Int32) then (0 : Int32) else (1 : Int32))) + (if x1 < (240 : Int32) then (0 : Int32) else (1 : Int32))) &&& 31))))))) else (if x1 < (128 : Int32) then f_codePoint else (if x1 < (192 : Int32) then f_codePoint else (if (247 : Int32) < x1 then f_codePoint else (x1 &&& ((63 : Int32) >>> ((((1 : Int32) + (if x1 < (224 : Int32) then (0 : Int32) else (1 : Int32))) + (if x1 < (240 : Int32) then (0 : Int32) else (1 : Int32))) &&& 31)))))))
def fld5_lacking (x1 : Int32) (f_lacking : Int32) : Int32 := (if 0 < f_lacking then (if (x1 &&& (192 : Int32)) = (128 : Int32) then (f_lacking - (1 : Int32)) else (if x1 < (128 : Int32) then (0 : Int32) else (if x1 < (192 : Int32) then (0 : Int32) else (if (247 : Int32) < x1 then (0 : Int32) else (((1 : Int32) + (if x1 < (224 : Int32) then (0 : Int32) else (1 : Int32))) + (if x1 < (240 : Int32) then (0 : Int32) else (1 : Int32))))))) else (if x1 < (128 : Int32) then (0 : Int32) else (if x1 < (192 : Int32) then (0 : Int32) else (if (247 : Int32) < x1 then (0 : Int32) else (((1 : Int32) + (if x1 < (224 : Int32) then (0 : Int32) else (1 : Int32))) + (if x1 < (240 : Int32) then (0 : Int32) else (1 : Int32)))))))
def fld5_given (x1 : Int32) (f_lacking : Int32) (f_given : Int32) : Int32 := (if 0 < f_lacking then (if (x1 &&& (192 : Int32)) = (128 : Int32) then (if (f_lacking - (1 : Int32)) = 0 then (0 : Int32) else (f_given + (1 : Int32))) else (if x1 < (128 : Int32) then (0 : Int32) else (if x1 < (192 : Int32) then (0 : Int32) else (if (247 : Int32) < x1 then (0 : Int32) else (1 : Int32))))) else (if x1 < (128 : Int32) then (0 : Int32) else (if x1 < (192 : Int32) then (0 : Int32) else (if (247 : Int32) < x1 then (0 : Int32) else (1 : Int32)))))
def fld5_malformed (x1 : Int32) (f_codePoint : Int32) (f_lacking : Int32) (f_given : Int32) (f_malformed : Int32) : Int32 := (if 0 < f_lacking then (if (x1 &&& (192 : Int32)) = (128 : Int32) then (if (f_lacking - (1 : Int32)) = 0 then (f_malformed ||| (if (if ((f_codePoint <<< ((6 : Int32) &&& 31)) ||| (x1 &&& (63 : Int32))) < (oLeast f_given) then (0 : Int32) else (if (1114111 : Int32) < ((f_codePoint <<< ((6 : Int32) &&& 31)) ||| (x1 &&& (63 : Int32))) then (0 : Int32) else (if ((f_codePoint <<< ((6 : Int32) &&& 31)) ||| (x1 &&& (63 : Int32))) < (55296 : Int32) then (1 : Int32) else (if (57343 : Int32) < ((f_codePoint <<< ((6 : Int32) &&& 31)) ||| (x1 &&& (63 : Int32))) then (1 : Int32) else (0 : Int32))))) = 0 then (1 : Int32) else (0 : Int32))) else f_malformed) else (if x1 < (128 : Int32) then (f_malformed ||| (1 : Int32)) else (if x1 < (192 : Int32) then (1 : Int32) else (if (247 : Int32) < x1 then (1 : Int32) else (f_malformed ||| (1 : Int32)))))) else (if x1 < (128 : Int32) then (f_malformed ||| (0 : Int32)) else (if x1 < (192 : Int32) then (1 : Int32) else (if (247 : Int32) < x1 then (1 : Int32) else (f_malformed ||| (0 : Int32))))))
def room5 : Room := { frames := 0, cells := 0, slots := 0, locals := 0 }
set_option maxRecDepth 65536 in
set_option maxHeartbeats 40000000 in
theorem rm5 (l : Launch) (Z : State) (a0 : Array Value) (hw : ∀ d ∈ tables_1, d.before a0 Z = true) (a1 : Addr) (x1 : Int32) (f_codePoint : Int32) (f_lacking : Int32) (f_given : Int32) (f_malformed : Int32) (r_LEAST : Addr) (h0 : Heap) (n0 : Nat) (Z0 : n0 ≤ h0.size) (E0 : Exa Z h0 a1 "com/example/harborlog/harborlog/Utf8Decoder") (F_codePoint : Fld Z h0 a1 "com/example/harborlog/harborlog/Utf8Decoder" "codePoint" "I" (.int f_codePoint)) (F_lacking : Fld Z h0 a1 "com/example/harborlog/harborlog/Utf8Decoder" "lacking" "I" (.int f_lacking)) (F_given : Fld Z h0 a1 "com/example/harborlog/harborlog/Utf8Decoder" "given" "I" (.int f_given)) (F_malformed : Fld Z h0 a1 "com/example/harborlog/harborlog/Utf8Decoder" "malformed" "Z" (.int f_malformed)) (ga : n0 ≤ a1) (hI : oInv f_lacking f_given f_malformed) (O0 : Old Z n0 h0) (S_LEAST : Sta Z Z.heap "com/example/harborlog/harborlog/Utf8Decoder" "LEAST" "[I" (.ref r_LEAST)) (A_LEAST : oInts Z Z.heap r_LEAST [(0 : Int32), 128, 2048, 65536]) :
    oCon l Z (⟨"com/example/harborlog/harborlog/Utf8Decoder", "next", "(I)I"⟩ : MethodName) prog_155_method_3_code 4 (some .int) room5 #[(.ref a1), (.int x1)] h0 (fun v h L => v = some (.int (spec5 x1 f_codePoint f_lacking f_given)) ∧ Fr n0 L ∧ Keep h0 h [a1] ∧ Exa Z h a1 "com/example/harborlog/harborlog/Utf8Decoder" ∧ Fld Z h a1 "com/example/harborlog/harborlog/Utf8Decoder" "codePoint" "I" (.int (fld5_codePoint x1 f_codePoint f_lacking)) ∧ Fld Z h a1 "com/example/harborlog/harborlog/Utf8Decoder" "lacking" "I" (.int (fld5_lacking x1 f_lacking)) ∧ Fld Z h a1 "com/example/harborlog/harborlog/Utf8Decoder" "given" "I" (.int (fld5_given x1 f_lacking f_given)) ∧ Fld Z h a1 "com/example/harborlog/harborlog/Utf8Decoder" "malformed" "Z" (.int (fld5_malformed x1 f_codePoint f_lacking f_given f_malformed))) := by
  refine oCon.of (plainFor_of_name pn_2) ?_
  intro p e s m below meth c s₁ hx hby hml hown hnm hret hlk hZ X0 e0
  rw [ef5 m a1 x1]
  have N0 := Fr.nil n0
  have K0 := Keep.refl h0 [a1]
  refine o_iconst (pc' := 1) (v := (-1 : Int32)) X0 hx (hb hby d5_0) rfl rfl ?_
  refine o_istoreN (pc' := 2) (l' := #[.val (.ref a1), .val (.int x1), .val (.int (-1 : Int32)), .unset]) X0 hx (hb hby d5_1) rfl rfl ?_
  refine o_aloadN (pc' := 3) X0 hx (hb hby d5_2) rfl rfl rfl ?_
  obtain ⟨T1, X1, e1, st1⟩ := getF X0 hx hZ hown (host := "") (Or.inl (hw _ (List.mem_of_getElem? (i := 25) rfl))) Via.refl e0 F_lacking (g := (mkF m 3 #[.val (.ref a1), .val (.int x1), .val (.int (-1 : Int32)), .unset] [(.ref a1)])) rfl rfl (hb hby d5_3)
  refine oGo.step (f' := (mkF m 6 #[.val (.ref a1), .val (.int x1), .val (.int (-1 : Int32)), .unset] [(.int f_lacking)])) st1 ?_
  have J3 : ∀ (T299 : State) (h299_ : Heap) (L299 : List Loc) (X299 : Stand p l e room5 s m #[(.ref a1), (.int x1)] below meth c T299 L299 (0) (0)) (e299 : T299.heap = h299_) (N299 : Fr n0 L299) (Z299 : n0 ≤ h299_.size) (K299_ : Keep h0 h299_ [a1]) (u288 : Slot) (hu288 : One u288) (v287 : Int32) (v292 : Int32) (v294 : Int32) (v296 : Int32) (v298 : Int32), v287 = (if 0 < f_lacking then (if (x1 &&& (192 : Int32)) = (128 : Int32) then (if (f_lacking - (1 : Int32)) = 0 then (if (if ((f_codePoint <<< ((6 : Int32) &&& 31)) ||| (x1 &&& (63 : Int32))) < (oLeast f_given) then (0 : Int32) else (if (1114111 : Int32) < ((f_codePoint <<< ((6 : Int32) &&& 31)) ||| (x1 &&& (63 : Int32))) then (0 : Int32) else (if ((f_codePoint <<< ((6 : Int32) &&& 31)) ||| (x1 &&& (63 : Int32))) < (55296 : Int32) then (1 : Int32) else (if (57343 : Int32) < ((f_codePoint <<< ((6 : Int32) &&& 31)) ||| (x1 &&& (63 : Int32))) then (1 : Int32) else (0 : Int32))))) = 0 then (-1 : Int32) else ((f_codePoint <<< ((6 : Int32) &&& 31)) ||| (x1 &&& (63 : Int32)))) else (-1 : Int32)) else (if x1 < (128 : Int32) then x1 else (-1 : Int32))) else (if x1 < (128 : Int32) then x1 else (-1 : Int32))) → v292 = (if 0 < f_lacking then (if (x1 &&& (192 : Int32)) = (128 : Int32) then ((f_codePoint <<< ((6 : Int32) &&& 31)) ||| (x1 &&& (63 : Int32))) else (if x1 < (128 : Int32) then f_codePoint else (if x1 < (192 : Int32) then f_codePoint else (if (247 : Int32) < x1 then f_codePoint else (x1 &&& ((63 : Int32) >>> ((((1 : Int32) + (if x1 < (224 : Int32) then (0 : Int32) else (1 : Int32))) + (if x1 < (240 : Int32) then (0 : Int32) else (1 : Int32))) &&& 31))))))) else (if x1 < (128 : Int32) then f_codePoint else (if x1 < (192 : Int32) then f_codePoint else (if (247 : Int32) < x1 then f_codePoint else (x1 &&& ((63 : Int32) >>> ((((1 : Int32) + (if x1 < (224 : Int32) then (0 : Int32) else (1 : Int32))) + (if x1 < (240 : Int32) then (0 : Int32) else (1 : Int32))) &&& 31))))))) → v294 = (if 0 < f_lacking then (if (x1 &&& (192 : Int32)) = (128 : Int32) then (f_lacking - (1 : Int32)) else (if x1 < (128 : Int32) then (0 : Int32) else (if x1 < (192 : Int32) then (0 : Int32) else (if (247 : Int32) < x1 then (0 : Int32) else (((1 : Int32) + (if x1 < (224 : Int32) then (0 : Int32) else (1 : Int32))) + (if x1 < (240 : Int32) then (0 : Int32) else (1 : Int32))))))) else (if x1 < (128 : Int32) then (0 : Int32) else (if x1 < (192 : Int32) then (0 : Int32) else (if (247 : Int32) < x1 then (0 : Int32) else (((1 : Int32) + (if x1 < (224 : Int32) then (0 : Int32) else (1 : Int32))) + (if x1 < (240 : Int32) then (0 : Int32) else (1 : Int32))))))) → v296 = (if 0 < f_lacking then (if (x1 &&& (192 : Int32)) = (128 : Int32) then (if (f_lacking - (1 : Int32)) = 0 then (0 : Int32) else (f_given + (1 : Int32))) else (if x1 < (128 : Int32) then (0 : Int32) else (if x1 < (192 : Int32) then (0 : Int32) else (if (247 : Int32) < x1 then (0 : Int32) else (1 : Int32))))) else (if x1 < (128 : Int32) then (0 : Int32) else (if x1 < (192 : Int32) then (0 : Int32) else (if (247 : Int32) < x1 then (0 : Int32) else (1 : Int32))))) → v298 = (if 0 < f_lacking then (if (x1 &&& (192 : Int32)) = (128 : Int32) then (if (f_lacking - (1 : Int32)) = 0 then (f_malformed ||| (if (if ((f_codePoint <<< ((6 : Int32) &&& 31)) ||| (x1 &&& (63 : Int32))) < (oLeast f_given) then (0 : Int32) else (if (1114111 : Int32) < ((f_codePoint <<< ((6 : Int32) &&& 31)) ||| (x1 &&& (63 : Int32))) then (0 : Int32) else (if ((f_codePoint <<< ((6 : Int32) &&& 31)) ||| (x1 &&& (63 : Int32))) < (55296 : Int32) then (1 : Int32) else (if (57343 : Int32) < ((f_codePoint <<< ((6 : Int32) &&& 31)) ||| (x1 &&& (63 : Int32))) then (1 : Int32) else (0 : Int32))))) = 0 then (1 : Int32) else (0 : Int32))) else f_malformed) else (if x1 < (128 : Int32) then (f_malformed ||| (1 : Int32)) else (if x1 < (192 : Int32) then (1 : Int32) else (if (247 : Int32) < x1 then (1 : Int32) else (f_malformed ||| (1 : Int32)))))) else (if x1 < (128 : Int32) then (f_malformed ||| (0 : Int32)) else (if x1 < (192 : Int32) then (1 : Int32) else (if (247 : Int32) < x1 then (1 : Int32) else (f_malformed ||| (0 : Int32)))))) → Old Z n0 h299_ → Exa Z h299_ a1 "com/example/harborlog/harborlog/Utf8Decoder" → Fld Z h299_ a1 "com/example/harborlog/harborlog/Utf8Decoder" "codePoint" "I" (.int v292) → Fld Z h299_ a1 "com/example/harborlog/harborlog/Utf8Decoder" "lacking" "I" (.int v294) → Fld Z h299_ a1 "com/example/harborlog/harborlog/Utf8Decoder" "given" "I" (.int v296) → Fld Z h299_ a1 "com/example/harborlog/harborlog/Utf8Decoder" "malformed" "Z" (.int v298) → oGo p e below (oG s (fun v h L => v = some (.int (spec5 x1 f_codePoint f_lacking f_given)) ∧ Fr n0 L ∧ Keep h0 h [a1] ∧ Exa Z h a1 "com/example/harborlog/harborlog/Utf8Decoder" ∧ Fld Z h a1 "com/example/harborlog/harborlog/Utf8Decoder" "codePoint" "I" (.int (fld5_codePoint x1 f_codePoint f_lacking)) ∧ Fld Z h a1 "com/example/harborlog/harborlog/Utf8Decoder" "lacking" "I" (.int (fld5_lacking x1 f_lacking)) ∧ Fld Z h a1 "com/example/harborlog/harborlog/Utf8Decoder" "given" "I" (.int (fld5_given x1 f_lacking f_given)) ∧ Fld Z h a1 "com/example/harborlog/harborlog/Utf8Decoder" "malformed" "Z" (.int (fld5_malformed x1 f_codePoint f_lacking f_given f_malformed))) room5.cells room5.slots) T299 (mkF m 266 #[.val (.ref a1), .val (.int x1), .val (.int v287), u288] []) := by
    intro T299 h299_ L299 X299 e299 N299 Z299 K299_ u288 hu288 v287 v292 v294 v296 v298 hv287 hv292 hv294 hv296 hv298 F289 F290 F291 F293 F295 F297
    refine o_iloadN (pc' := 267) X299 hx (hb hby d5_266) rfl rfl ?_
    refine o_retI X299 hx hret hlk (hb hby d5_267) (by decide) (by decide) ?_
    subst hv298 hv296 hv294 hv292 hv287
    rw [e299]
    exact ⟨rfl, N299, K299_, F290, F291, F293, F295, F297⟩
  by_cases c2 : 0 < f_lacking
  · refine o_ifF (pc' := 9) X1 hx (hb hby d5_6) (XT.i0_le_f c2) rfl ?_
    refine o_iloadN (pc' := 10) X1 hx (hb hby d5_9) rfl rfl ?_
    refine o_sipush (pc' := 13) (v := (192 : Int32)) X1 hx (hb hby d5_10) rfl rfl ?_
    refine o_iand (pc' := 14) X1 hx (hb hby d5_13)  rfl ?_
    refine o_sipush (pc' := 17) (v := (128 : Int32)) X1 hx (hb hby d5_14) rfl rfl ?_
    by_cases c4 : (x1 &&& (192 : Int32)) = (128 : Int32)
    · refine o_icmpF (pc' := 20) X1 hx (hb hby d5_17) (XT.ii_ne_f c4) rfl ?_
      refine o_aloadN (pc' := 21) X1 hx (hb hby d5_20) rfl rfl rfl ?_
      refine o_aloadN (pc' := 22) X1 hx (hb hby d5_21) rfl rfl rfl ?_
      obtain ⟨T5, X5, e5, st5⟩ := getF X1 hx hZ hown (host := "") (Or.inl (hw _ (List.mem_of_getElem? (i := 31) rfl))) Via.refl e1 F_codePoint (g := (mkF m 22 #[.val (.ref a1), .val (.int x1), .val (.int (-1 : Int32)), .unset] [(.ref a1), (.ref a1)])) rfl rfl (hb hby d5_22)
      refine oGo.step (f' := (mkF m 25 #[.val (.ref a1), .val (.int x1), .val (.int (-1 : Int32)), .unset] [(.int f_codePoint), (.ref a1)])) st5 ?_
      refine o_bipush (pc' := 27) (v := (6 : Int32)) X5 hx (hb hby d5_25) rfl rfl ?_
      refine o_ishl (pc' := 28) X5 hx (hb hby d5_27)  rfl ?_
      refine o_iloadN (pc' := 29) X5 hx (hb hby d5_28) rfl rfl ?_
      refine o_bipush (pc' := 31) (v := (63 : Int32)) X5 hx (hb hby d5_29) rfl rfl ?_
      refine o_iand (pc' := 32) X5 hx (hb hby d5_31)  rfl ?_
      refine o_ior (pc' := 33) X5 hx (hb hby d5_32)  rfl ?_
      obtain ⟨T6, h6_, X6, e6, W6, st6⟩ := putF X5 hx hZ hown (host := "") (Or.inl (hw _ (List.mem_of_getElem? (i := 31) rfl))) Via.refl e5 F_codePoint E0 (Or.inl (hw _ (List.mem_of_getElem? (i := 32) rfl))) (hw _ (List.mem_of_getElem? (i := 8) rfl)) (ty := .int) (by decide) rfl rfl (g := (mkF m 33 #[.val (.ref a1), .val (.int x1), .val (.int (-1 : Int32)), .unset] [(.int ((f_codePoint <<< ((6 : Int32) &&& 31)) ||| (x1 &&& (63 : Int32)))), (.ref a1)])) rfl rfl (hb hby d5_33)
      refine oGo.step (f' := (mkF m 36 #[.val (.ref a1), .val (.int x1), .val (.int (-1 : Int32)), .unset] [])) st6 ?_
      have N6 := Fr.snoc X6 N0 ga
      have F7 := O0.wr W6 ga
      have F10 := E0.wr W6
      have F11 := F_codePoint.same W6
      have F12 := F_lacking.other W6 (Or.inr (slot_ne (Or.inl (hw _ (List.mem_of_getElem? (i := 26) rfl))) (Or.inl (hw _ (List.mem_of_getElem? (i := 32) rfl))) (by decide) (t := .int) (t' := .int) (by decide) (by decide)))
      have F13 := F_given.other W6 (Or.inr (slot_ne (Or.inl (hw _ (List.mem_of_getElem? (i := 30) rfl))) (Or.inl (hw _ (List.mem_of_getElem? (i := 32) rfl))) (by decide) (t := .int) (t' := .int) (by decide) (by decide)))
      have F14 := F_malformed.other W6 (Or.inr (slot_ne (Or.inl (hw _ (List.mem_of_getElem? (i := 28) rfl))) (Or.inl (hw _ (List.mem_of_getElem? (i := 32) rfl))) (by decide) (t := .boolean) (t' := .int) (by decide) (by decide)))
      have K15 := K0.wr W6 (Or.inl (List.mem_of_getElem? (i := 0) rfl))
      have Z16 := Nat.le_trans Z0 (Keep.of_wr W6).1
      refine o_aloadN (pc' := 37) X6 hx (hb hby d5_36) rfl rfl rfl ?_
      refine o_dup (pc' := 38) X6 hx (hb hby d5_37) rfl rfl ?_
      obtain ⟨T17, X17, e17, st17⟩ := getF X6 hx hZ hown (host := "") (Or.inl (hw _ (List.mem_of_getElem? (i := 29) rfl))) Via.refl e6 F13 (g := (mkF m 38 #[.val (.ref a1), .val (.int x1), .val (.int (-1 : Int32)), .unset] [(.ref a1), (.ref a1)])) rfl rfl (hb hby d5_38)
      refine oGo.step (f' := (mkF m 41 #[.val (.ref a1), .val (.int x1), .val (.int (-1 : Int32)), .unset] [(.int f_given), (.ref a1)])) st17 ?_
      refine o_iconst (pc' := 42) (v := (1 : Int32)) X17 hx (hb hby d5_41) rfl rfl ?_
      refine o_iadd (pc' := 43) X17 hx (hb hby d5_42)  rfl ?_
      obtain ⟨T18, h18_, X18, e18, W18, st18⟩ := putF X17 hx hZ hown (host := "") (Or.inl (hw _ (List.mem_of_getElem? (i := 29) rfl))) Via.refl e17 F13 F10 (Or.inl (hw _ (List.mem_of_getElem? (i := 30) rfl))) (hw _ (List.mem_of_getElem? (i := 8) rfl)) (ty := .int) (by decide) rfl rfl (g := (mkF m 43 #[.val (.ref a1), .val (.int x1), .val (.int (-1 : Int32)), .unset] [(.int (f_given + (1 : Int32))), (.ref a1)])) rfl rfl (hb hby d5_43)
      refine oGo.step (f' := (mkF m 46 #[.val (.ref a1), .val (.int x1), .val (.int (-1 : Int32)), .unset] [])) st18 ?_
      have N18 := Fr.snoc X18 N6 ga
      have F19 := F7.wr W18 ga
      have F22 := F10.wr W18
      have F23 := F11.other W18 (Or.inr (slot_ne (Or.inl (hw _ (List.mem_of_getElem? (i := 32) rfl))) (Or.inl (hw _ (List.mem_of_getElem? (i := 30) rfl))) (by decide) (t := .int) (t' := .int) (by decide) (by decide)))
      have F24 := F12.other W18 (Or.inr (slot_ne (Or.inl (hw _ (List.mem_of_getElem? (i := 26) rfl))) (Or.inl (hw _ (List.mem_of_getElem? (i := 30) rfl))) (by decide) (t := .int) (t' := .int) (by decide) (by decide)))
      have F25 := F13.same W18
      have F26 := F14.other W18 (Or.inr (slot_ne (Or.inl (hw _ (List.mem_of_getElem? (i := 28) rfl))) (Or.inl (hw _ (List.mem_of_getElem? (i := 30) rfl))) (by decide) (t := .boolean) (t' := .int) (by decide) (by decide)))
      have K27 := K15.wr W18 (Or.inl (List.mem_of_getElem? (i := 0) rfl))
      have Z28 := Nat.le_trans Z16 (Keep.of_wr W18).1
      refine o_aloadN (pc' := 47) X18 hx (hb hby d5_46) rfl rfl rfl ?_
      refine o_dup (pc' := 48) X18 hx (hb hby d5_47) rfl rfl ?_
      obtain ⟨T29, X29, e29, st29⟩ := getF X18 hx hZ hown (host := "") (Or.inl (hw _ (List.mem_of_getElem? (i := 25) rfl))) Via.refl e18 F24 (g := (mkF m 48 #[.val (.ref a1), .val (.int x1), .val (.int (-1 : Int32)), .unset] [(.ref a1), (.ref a1)])) rfl rfl (hb hby d5_48)
      refine oGo.step (f' := (mkF m 51 #[.val (.ref a1), .val (.int x1), .val (.int (-1 : Int32)), .unset] [(.int f_lacking), (.ref a1)])) st29 ?_
      refine o_iconst (pc' := 52) (v := (1 : Int32)) X29 hx (hb hby d5_51) rfl rfl ?_
      refine o_isub (pc' := 53) X29 hx (hb hby d5_52)  rfl ?_
      obtain ⟨T30, h30_, X30, e30, W30, st30⟩ := putF X29 hx hZ hown (host := "") (Or.inl (hw _ (List.mem_of_getElem? (i := 25) rfl))) Via.refl e29 F24 F22 (Or.inl (hw _ (List.mem_of_getElem? (i := 26) rfl))) (hw _ (List.mem_of_getElem? (i := 8) rfl)) (ty := .int) (by decide) rfl rfl (g := (mkF m 53 #[.val (.ref a1), .val (.int x1), .val (.int (-1 : Int32)), .unset] [(.int (f_lacking - (1 : Int32))), (.ref a1)])) rfl rfl (hb hby d5_53)
      refine oGo.step (f' := (mkF m 56 #[.val (.ref a1), .val (.int x1), .val (.int (-1 : Int32)), .unset] [])) st30 ?_
      have N30 := Fr.snoc X30 N18 ga
      have F31 := F19.wr W30 ga
      have F34 := F22.wr W30
      have F35 := F23.other W30 (Or.inr (slot_ne (Or.inl (hw _ (List.mem_of_getElem? (i := 32) rfl))) (Or.inl (hw _ (List.mem_of_getElem? (i := 26) rfl))) (by decide) (t := .int) (t' := .int) (by decide) (by decide)))
      have F36 := F24.same W30
      have F37 := F25.other W30 (Or.inr (slot_ne (Or.inl (hw _ (List.mem_of_getElem? (i := 30) rfl))) (Or.inl (hw _ (List.mem_of_getElem? (i := 26) rfl))) (by decide) (t := .int) (t' := .int) (by decide) (by decide)))
      have F38 := F26.other W30 (Or.inr (slot_ne (Or.inl (hw _ (List.mem_of_getElem? (i := 28) rfl))) (Or.inl (hw _ (List.mem_of_getElem? (i := 26) rfl))) (by decide) (t := .boolean) (t' := .int) (by decide) (by decide)))
      have K39 := K27.wr W30 (Or.inl (List.mem_of_getElem? (i := 0) rfl))
      have Z40 := Nat.le_trans Z28 (Keep.of_wr W30).1
      refine o_aloadN (pc' := 57) X30 hx (hb hby d5_56) rfl rfl rfl ?_
      obtain ⟨T41, X41, e41, st41⟩ := getF X30 hx hZ hown (host := "") (Or.inl (hw _ (List.mem_of_getElem? (i := 25) rfl))) Via.refl e30 F36 (g := (mkF m 57 #[.val (.ref a1), .val (.int x1), .val (.int (-1 : Int32)), .unset] [(.ref a1)])) rfl rfl (hb hby d5_57)
      refine oGo.step (f' := (mkF m 60 #[.val (.ref a1), .val (.int x1), .val (.int (-1 : Int32)), .unset] [(.int (f_lacking - (1 : Int32)))])) st41 ?_
      by_cases c42 : (f_lacking - (1 : Int32)) = 0
      · refine o_ifF (pc' := 63) X41 hx (hb hby d5_60) (XT.i0_ne_f c42) rfl ?_
        refine o_aloadN (pc' := 64) X41 hx (hb hby d5_63) rfl rfl rfl ?_
        obtain ⟨T43, X43, e43, st43⟩ := getF X41 hx hZ hown (host := "") (Or.inl (hw _ (List.mem_of_getElem? (i := 31) rfl))) Via.refl e41 F35 (g := (mkF m 64 #[.val (.ref a1), .val (.int x1), .val (.int (-1 : Int32)), .unset] [(.ref a1)])) rfl rfl (hb hby d5_64)
        refine oGo.step (f' := (mkF m 67 #[.val (.ref a1), .val (.int x1), .val (.int (-1 : Int32)), .unset] [(.int ((f_codePoint <<< ((6 : Int32) &&& 31)) ||| (x1 &&& (63 : Int32))))])) st43 ?_
        obtain ⟨T44, X44, e44, st44⟩ := getS X43 hx hZ (host := "") hown (hw _ (List.mem_of_getElem? (i := 47) rfl)) Via.refl e43 (S_LEAST.ext F31.2) (g := (mkF m 67 #[.val (.ref a1), .val (.int x1), .val (.int (-1 : Int32)), .unset] [(.int ((f_codePoint <<< ((6 : Int32) &&& 31)) ||| (x1 &&& (63 : Int32))))])) rfl (hb hby d5_67)
        refine oGo.step (f' := (mkF m 70 #[.val (.ref a1), .val (.int x1), .val (.int (-1 : Int32)), .unset] [(.ref r_LEAST), (.int ((f_codePoint <<< ((6 : Int32) &&& 31)) ||| (x1 &&& (63 : Int32))))])) st44 ?_
        refine o_aloadN (pc' := 71) X44 hx (hb hby d5_70) rfl rfl rfl ?_
        obtain ⟨T45, X45, e45, st45⟩ := getF X44 hx hZ hown (host := "") (Or.inl (hw _ (List.mem_of_getElem? (i := 29) rfl))) Via.refl e44 F37 (g := (mkF m 71 #[.val (.ref a1), .val (.int x1), .val (.int (-1 : Int32)), .unset] [(.ref a1), (.ref r_LEAST), (.int ((f_codePoint <<< ((6 : Int32) &&& 31)) ||| (x1 &&& (63 : Int32))))])) rfl rfl (hb hby d5_71)
        refine oGo.step (f' := (mkF m 74 #[.val (.ref a1), .val (.int x1), .val (.int (-1 : Int32)), .unset] [(.int (f_given + (1 : Int32))), (.ref r_LEAST), (.int ((f_codePoint <<< ((6 : Int32) &&& 31)) ||| (x1 &&& (63 : Int32))))])) st45 ?_
        refine o_iconst (pc' := 75) (v := (1 : Int32)) X45 hx (hb hby d5_74) rfl rfl ?_
        refine o_isub (pc' := 76) X45 hx (hb hby d5_75)  rfl ?_
        refine o_iaload (pc' := 77) (v := (oLeast f_given)) X45 hx hZ e45 (A_LEAST.ext F31.2) (hb hby d5_76) (own_idx hI).1 (own_idx hI).2 rfl ?_
        have J47 : ∀ (T55 : State) (X55 : Stand p l e room5 s m #[(.ref a1), (.int x1)] below meth c T55 ((([] ++ [⟨a1, Jvm.RoadKit.slotOf Z "com/example/harborlog/harborlog/Utf8Decoder" "codePoint" "I"⟩]) ++ [⟨a1, Jvm.RoadKit.slotOf Z "com/example/harborlog/harborlog/Utf8Decoder" "given" "I"⟩]) ++ [⟨a1, Jvm.RoadKit.slotOf Z "com/example/harborlog/harborlog/Utf8Decoder" "lacking" "I"⟩]) (0) (0)) (e55 : T55.heap = h30_) (v54 : Int32), v54 = (if ((f_codePoint <<< ((6 : Int32) &&& 31)) ||| (x1 &&& (63 : Int32))) < (oLeast f_given) then (0 : Int32) else (if (1114111 : Int32) < ((f_codePoint <<< ((6 : Int32) &&& 31)) ||| (x1 &&& (63 : Int32))) then (0 : Int32) else (if ((f_codePoint <<< ((6 : Int32) &&& 31)) ||| (x1 &&& (63 : Int32))) < (55296 : Int32) then (1 : Int32) else (if (57343 : Int32) < ((f_codePoint <<< ((6 : Int32) &&& 31)) ||| (x1 &&& (63 : Int32))) then (1 : Int32) else (0 : Int32))))) → oGo p e below (oG s (fun v h L => v = some (.int (spec5 x1 f_codePoint f_lacking f_given)) ∧ Fr n0 L ∧ Keep h0 h [a1] ∧ Exa Z h a1 "com/example/harborlog/harborlog/Utf8Decoder" ∧ Fld Z h a1 "com/example/harborlog/harborlog/Utf8Decoder" "codePoint" "I" (.int (fld5_codePoint x1 f_codePoint f_lacking)) ∧ Fld Z h a1 "com/example/harborlog/harborlog/Utf8Decoder" "lacking" "I" (.int (fld5_lacking x1 f_lacking)) ∧ Fld Z h a1 "com/example/harborlog/harborlog/Utf8Decoder" "given" "I" (.int (fld5_given x1 f_lacking f_given)) ∧ Fld Z h a1 "com/example/harborlog/harborlog/Utf8Decoder" "malformed" "Z" (.int (fld5_malformed x1 f_codePoint f_lacking f_given f_malformed))) room5.cells room5.slots) T55 (mkF m 112 #[.val (.ref a1), .val (.int x1), .val (.int (-1 : Int32)), .unset] [(.int v54)]) := by
          intro T55 X55 e55 v54 hv54
          refine o_istoreN (pc' := 113) (l' := #[.val (.ref a1), .val (.int x1), .val (.int (-1 : Int32)), .val (.int v54)]) X55 hx (hb hby d5_112) rfl rfl ?_
          refine o_iloadN (pc' := 114) X55 hx (hb hby d5_113) rfl rfl ?_
          have J57 : ∀ (T60 : State) (X60 : Stand p l e room5 s m #[(.ref a1), (.int x1)] below meth c T60 ((([] ++ [⟨a1, Jvm.RoadKit.slotOf Z "com/example/harborlog/harborlog/Utf8Decoder" "codePoint" "I"⟩]) ++ [⟨a1, Jvm.RoadKit.slotOf Z "com/example/harborlog/harborlog/Utf8Decoder" "given" "I"⟩]) ++ [⟨a1, Jvm.RoadKit.slotOf Z "com/example/harborlog/harborlog/Utf8Decoder" "lacking" "I"⟩]) (0) (0)) (e60 : T60.heap = h30_) (v59 : Int32), v59 = (if v54 = 0 then (-1 : Int32) else ((f_codePoint <<< ((6 : Int32) &&& 31)) ||| (x1 &&& (63 : Int32)))) → oGo p e below (oG s (fun v h L => v = some (.int (spec5 x1 f_codePoint f_lacking f_given)) ∧ Fr n0 L ∧ Keep h0 h [a1] ∧ Exa Z h a1 "com/example/harborlog/harborlog/Utf8Decoder" ∧ Fld Z h a1 "com/example/harborlog/harborlog/Utf8Decoder" "codePoint" "I" (.int (fld5_codePoint x1 f_codePoint f_lacking)) ∧ Fld Z h a1 "com/example/harborlog/harborlog/Utf8Decoder" "lacking" "I" (.int (fld5_lacking x1 f_lacking)) ∧ Fld Z h a1 "com/example/harborlog/harborlog/Utf8Decoder" "given" "I" (.int (fld5_given x1 f_lacking f_given)) ∧ Fld Z h a1 "com/example/harborlog/harborlog/Utf8Decoder" "malformed" "Z" (.int (fld5_malformed x1 f_codePoint f_lacking f_given f_malformed))) room5.cells room5.slots) T60 (mkF m 125 #[.val (.ref a1), .val (.int x1), .val (.int (-1 : Int32)), .val (.int v54)] [(.int v59)]) := by
            intro T60 X60 e60 v59 hv59
            refine o_istoreN (pc' := 126) (l' := #[.val (.ref a1), .val (.int x1), .val (.int v59), .val (.int v54)]) X60 hx (hb hby d5_125) rfl rfl ?_
            refine o_aloadN (pc' := 127) X60 hx (hb hby d5_126) rfl rfl rfl ?_
            refine o_dup (pc' := 128) X60 hx (hb hby d5_127) rfl rfl ?_
            obtain ⟨T61, X61, e61, st61⟩ := getF X60 hx hZ hown (host := "") (Or.inl (hw _ (List.mem_of_getElem? (i := 27) rfl))) Via.refl e60 F38 (g := (mkF m 128 #[.val (.ref a1), .val (.int x1), .val (.int v59), .val (.int v54)] [(.ref a1), (.ref a1)])) rfl rfl (hb hby d5_128)
            refine oGo.step (f' := (mkF m 131 #[.val (.ref a1), .val (.int x1), .val (.int v59), .val (.int v54)] [(.int f_malformed), (.ref a1)])) st61 ?_
            refine o_iloadN (pc' := 132) X61 hx (hb hby d5_131) rfl rfl ?_
            have J63 : ∀ (v64 : Int32), v64 = (if v54 = 0 then (1 : Int32) else (0 : Int32)) → oGo p e below (oG s (fun v h L => v = some (.int (spec5 x1 f_codePoint f_lacking f_given)) ∧ Fr n0 L ∧ Keep h0 h [a1] ∧ Exa Z h a1 "com/example/harborlog/harborlog/Utf8Decoder" ∧ Fld Z h a1 "com/example/harborlog/harborlog/Utf8Decoder" "codePoint" "I" (.int (fld5_codePoint x1 f_codePoint f_lacking)) ∧ Fld Z h a1 "com/example/harborlog/harborlog/Utf8Decoder" "lacking" "I" (.int (fld5_lacking x1 f_lacking)) ∧ Fld Z h a1 "com/example/harborlog/harborlog/Utf8Decoder" "given" "I" (.int (fld5_given x1 f_lacking f_given)) ∧ Fld Z h a1 "com/example/harborlog/harborlog/Utf8Decoder" "malformed" "Z" (.int (fld5_malformed x1 f_codePoint f_lacking f_given f_malformed))) room5.cells room5.slots) T61 (mkF m 140 #[.val (.ref a1), .val (.int x1), .val (.int v59), .val (.int v54)] [(.int v64), (.int f_malformed), (.ref a1)]) := by
              intro v64 hv64
              refine o_ior (pc' := 141) X61 hx (hb hby d5_140)  rfl ?_
              obtain ⟨T65, h65_, X65, e65, W65, st65⟩ := putF X61 hx hZ hown (host := "") (Or.inl (hw _ (List.mem_of_getElem? (i := 27) rfl))) Via.refl e61 F38 F34 (Or.inl (hw _ (List.mem_of_getElem? (i := 28) rfl))) (hw _ (List.mem_of_getElem? (i := 8) rfl)) (ty := .boolean) (by decide) (o_nb (o_orB hI.2 (by rw [hv64]; (repeat' split) <;> simp))) (o_fb (o_orB hI.2 (by rw [hv64]; (repeat' split) <;> simp))) (g := (mkF m 141 #[.val (.ref a1), .val (.int x1), .val (.int v59), .val (.int v54)] [(.int (f_malformed ||| v64)), (.ref a1)])) rfl rfl (hb hby d5_141)
              refine oGo.step (f' := (mkF m 144 #[.val (.ref a1), .val (.int x1), .val (.int v59), .val (.int v54)] [])) st65 ?_
              have N65 := Fr.snoc X65 N30 ga
              have F66 := F31.wr W65 ga
              have F69 := F34.wr W65
              have F70 := F35.other W65 (Or.inr (slot_ne (Or.inl (hw _ (List.mem_of_getElem? (i := 32) rfl))) (Or.inl (hw _ (List.mem_of_getElem? (i := 28) rfl))) (by decide) (t := .int) (t' := .boolean) (by decide) (by decide)))
              have F71 := F36.other W65 (Or.inr (slot_ne (Or.inl (hw _ (List.mem_of_getElem? (i := 26) rfl))) (Or.inl (hw _ (List.mem_of_getElem? (i := 28) rfl))) (by decide) (t := .int) (t' := .boolean) (by decide) (by decide)))
              have F72 := F37.other W65 (Or.inr (slot_ne (Or.inl (hw _ (List.mem_of_getElem? (i := 30) rfl))) (Or.inl (hw _ (List.mem_of_getElem? (i := 28) rfl))) (by decide) (t := .int) (t' := .boolean) (by decide) (by decide)))
              have F73 := F38.same W65
              have K74 := K39.wr W65 (Or.inl (List.mem_of_getElem? (i := 0) rfl))
              have Z75 := Nat.le_trans Z40 (Keep.of_wr W65).1
              refine o_aloadN (pc' := 145) X65 hx (hb hby d5_144) rfl rfl rfl ?_
              refine o_iconst (pc' := 146) (v := (0 : Int32)) X65 hx (hb hby d5_145) rfl rfl ?_
              obtain ⟨T76, h76_, X76, e76, W76, st76⟩ := putF X65 hx hZ hown (host := "") (Or.inl (hw _ (List.mem_of_getElem? (i := 29) rfl))) Via.refl e65 F72 F69 (Or.inl (hw _ (List.mem_of_getElem? (i := 30) rfl))) (hw _ (List.mem_of_getElem? (i := 8) rfl)) (ty := .int) (by decide) rfl rfl (g := (mkF m 146 #[.val (.ref a1), .val (.int x1), .val (.int v59), .val (.int v54)] [(.int (0 : Int32)), (.ref a1)])) rfl rfl (hb hby d5_146)
              refine oGo.step (f' := (mkF m 149 #[.val (.ref a1), .val (.int x1), .val (.int v59), .val (.int v54)] [])) st76 ?_
              have N76 := Fr.snoc X76 N65 ga
              have F77 := F66.wr W76 ga
              have F80 := F69.wr W76
              have F81 := F70.other W76 (Or.inr (slot_ne (Or.inl (hw _ (List.mem_of_getElem? (i := 32) rfl))) (Or.inl (hw _ (List.mem_of_getElem? (i := 30) rfl))) (by decide) (t := .int) (t' := .int) (by decide) (by decide)))
              have F82 := F71.other W76 (Or.inr (slot_ne (Or.inl (hw _ (List.mem_of_getElem? (i := 26) rfl))) (Or.inl (hw _ (List.mem_of_getElem? (i := 30) rfl))) (by decide) (t := .int) (t' := .int) (by decide) (by decide)))
              have F83 := F72.same W76
              have F84 := F73.other W76 (Or.inr (slot_ne (Or.inl (hw _ (List.mem_of_getElem? (i := 28) rfl))) (Or.inl (hw _ (List.mem_of_getElem? (i := 30) rfl))) (by decide) (t := .boolean) (t' := .int) (by decide) (by decide)))
              have K85 := K74.wr W76 (Or.inl (List.mem_of_getElem? (i := 0) rfl))
              have Z86 := Nat.le_trans Z75 (Keep.of_wr W76).1
              refine o_goto (pc' := 266) X76 hx (hb hby d5_149) (by decide) (by decide) ?_
              subst hv64 hv59 hv54
              exact J3 T76 h76_ _ X76 e76 N76 Z86 K85 _ (One.val rfl) _ _ _ _ _ ((if_pos c2).trans ((if_pos c4).trans (if_pos c42))).symm ((if_pos c2).trans (if_pos c4)).symm ((if_pos c2).trans (if_pos c4)).symm ((if_pos c2).trans ((if_pos c4).trans (if_pos c42))).symm ((if_pos c2).trans ((if_pos c4).trans (if_pos c42))).symm F77 F80 F81 F82 F83 F84
            by_cases c62 : v54 = 0
            · refine o_ifF (pc' := 135) X61 hx (hb hby d5_132) (XT.i0_ne_f c62) rfl ?_
              refine o_iconst (pc' := 136) (v := (1 : Int32)) X61 hx (hb hby d5_135) rfl rfl ?_
              refine o_goto (pc' := 140) X61 hx (hb hby d5_136) (by decide) (by decide) ?_
              exact J63 _ (if_pos c62).symm
            · refine o_ifT (pc' := 139) X61 hx (hb hby d5_132) (XT.i0_ne_t c62) (by decide) (by decide) ?_
              refine o_iconst (pc' := 140) (v := (0 : Int32)) X61 hx (hb hby d5_139) rfl rfl ?_
              exact J63 _ (if_neg c62).symm
          by_cases c56 : v54 = 0
          · refine o_ifT (pc' := 124) X55 hx (hb hby d5_114) (XT.i0_eq_t c56) (by decide) (by decide) ?_
            refine o_iconst (pc' := 125) (v := (-1 : Int32)) X55 hx (hb hby d5_124) rfl rfl ?_
            exact J57 T55 X55 e55 _ (if_pos c56).symm
          · refine o_ifF (pc' := 117) X55 hx (hb hby d5_114) (XT.i0_eq_f c56) rfl ?_
            refine o_aloadN (pc' := 118) X55 hx (hb hby d5_117) rfl rfl rfl ?_
            obtain ⟨T58, X58, e58, st58⟩ := getF X55 hx hZ hown (host := "") (Or.inl (hw _ (List.mem_of_getElem? (i := 31) rfl))) Via.refl e55 F35 (g := (mkF m 118 #[.val (.ref a1), .val (.int x1), .val (.int (-1 : Int32)), .val (.int v54)] [(.ref a1)])) rfl rfl (hb hby d5_118)
            refine oGo.step (f' := (mkF m 121 #[.val (.ref a1), .val (.int x1), .val (.int (-1 : Int32)), .val (.int v54)] [(.int ((f_codePoint <<< ((6 : Int32) &&& 31)) ||| (x1 &&& (63 : Int32))))])) st58 ?_
            refine o_goto (pc' := 125) X58 hx (hb hby d5_121) (by decide) (by decide) ?_
            exact J57 T58 X58 e58 _ (if_neg c56).symm
        by_cases c46 : ((f_codePoint <<< ((6 : Int32) &&& 31)) ||| (x1 &&& (63 : Int32))) < (oLeast f_given)
        · refine o_icmpT (pc' := 111) X45 hx (hb hby d5_77) (XT.ii_lt_t c46) (by decide) (by decide) ?_
          refine o_iconst (pc' := 112) (v := (0 : Int32)) X45 hx (hb hby d5_111) rfl rfl ?_
          exact J47 T45 X45 e45 _ (if_pos c46).symm
        · refine o_icmpF (pc' := 80) X45 hx (hb hby d5_77) (XT.ii_lt_f c46) rfl ?_
          refine o_aloadN (pc' := 81) X45 hx (hb hby d5_80) rfl rfl rfl ?_
          obtain ⟨T48, X48, e48, st48⟩ := getF X45 hx hZ hown (host := "") (Or.inl (hw _ (List.mem_of_getElem? (i := 31) rfl))) Via.refl e45 F35 (g := (mkF m 81 #[.val (.ref a1), .val (.int x1), .val (.int (-1 : Int32)), .unset] [(.ref a1)])) rfl rfl (hb hby d5_81)
          refine oGo.step (f' := (mkF m 84 #[.val (.ref a1), .val (.int x1), .val (.int (-1 : Int32)), .unset] [(.int ((f_codePoint <<< ((6 : Int32) &&& 31)) ||| (x1 &&& (63 : Int32))))])) st48 ?_
          refine o_ldc (pc' := 86) (v := (1114111 : Int32)) X48 hx hZ hown (hw _ (List.mem_of_getElem? (i := 49) rfl)) (hb hby d5_84) rfl ?_
          by_cases c49 : (1114111 : Int32) < ((f_codePoint <<< ((6 : Int32) &&& 31)) ||| (x1 &&& (63 : Int32)))
          · refine o_icmpT (pc' := 111) X48 hx (hb hby d5_86) (XT.ii_gt_t c49) (by decide) (by decide) ?_
            refine o_iconst (pc' := 112) (v := (0 : Int32)) X48 hx (hb hby d5_111) rfl rfl ?_
            exact J47 T48 X48 e48 _ ((if_neg c46).trans (if_pos c49)).symm
          · refine o_icmpF (pc' := 89) X48 hx (hb hby d5_86) (XT.ii_gt_f c49) rfl ?_
            refine o_aloadN (pc' := 90) X48 hx (hb hby d5_89) rfl rfl rfl ?_
            obtain ⟨T50, X50, e50, st50⟩ := getF X48 hx hZ hown (host := "") (Or.inl (hw _ (List.mem_of_getElem? (i := 31) rfl))) Via.refl e48 F35 (g := (mkF m 90 #[.val (.ref a1), .val (.int x1), .val (.int (-1 : Int32)), .unset] [(.ref a1)])) rfl rfl (hb hby d5_90)
            refine oGo.step (f' := (mkF m 93 #[.val (.ref a1), .val (.int x1), .val (.int (-1 : Int32)), .unset] [(.int ((f_codePoint <<< ((6 : Int32) &&& 31)) ||| (x1 &&& (63 : Int32))))])) st50 ?_
            refine o_ldc (pc' := 95) (v := (55296 : Int32)) X50 hx hZ hown (hw _ (List.mem_of_getElem? (i := 50) rfl)) (hb hby d5_93) rfl ?_
            by_cases c51 : ((f_codePoint <<< ((6 : Int32) &&& 31)) ||| (x1 &&& (63 : Int32))) < (55296 : Int32)
            · refine o_icmpT (pc' := 107) X50 hx (hb hby d5_95) (XT.ii_lt_t c51) (by decide) (by decide) ?_
              refine o_iconst (pc' := 108) (v := (1 : Int32)) X50 hx (hb hby d5_107) rfl rfl ?_
              refine o_goto (pc' := 112) X50 hx (hb hby d5_108) (by decide) (by decide) ?_
              exact J47 T50 X50 e50 _ ((if_neg c46).trans ((if_neg c49).trans (if_pos c51))).symm
            · refine o_icmpF (pc' := 98) X50 hx (hb hby d5_95) (XT.ii_lt_f c51) rfl ?_
              refine o_aloadN (pc' := 99) X50 hx (hb hby d5_98) rfl rfl rfl ?_
              obtain ⟨T52, X52, e52, st52⟩ := getF X50 hx hZ hown (host := "") (Or.inl (hw _ (List.mem_of_getElem? (i := 31) rfl))) Via.refl e50 F35 (g := (mkF m 99 #[.val (.ref a1), .val (.int x1), .val (.int (-1 : Int32)), .unset] [(.ref a1)])) rfl rfl (hb hby d5_99)
              refine oGo.step (f' := (mkF m 102 #[.val (.ref a1), .val (.int x1), .val (.int (-1 : Int32)), .unset] [(.int ((f_codePoint <<< ((6 : Int32) &&& 31)) ||| (x1 &&& (63 : Int32))))])) st52 ?_
              refine o_ldc (pc' := 104) (v := (57343 : Int32)) X52 hx hZ hown (hw _ (List.mem_of_getElem? (i := 51) rfl)) (hb hby d5_102) rfl ?_
              by_cases c53 : (57343 : Int32) < ((f_codePoint <<< ((6 : Int32) &&& 31)) ||| (x1 &&& (63 : Int32)))
              · refine o_icmpF (pc' := 107) X52 hx (hb hby d5_104) (XT.ii_le_f c53) rfl ?_
                refine o_iconst (pc' := 108) (v := (1 : Int32)) X52 hx (hb hby d5_107) rfl rfl ?_
                refine o_goto (pc' := 112) X52 hx (hb hby d5_108) (by decide) (by decide) ?_
                exact J47 T52 X52 e52 _ ((if_neg c46).trans ((if_neg c49).trans ((if_neg c51).trans (if_pos c53)))).symm
              · refine o_icmpT (pc' := 111) X52 hx (hb hby d5_104) (XT.ii_le_t c53) (by decide) (by decide) ?_
                refine o_iconst (pc' := 112) (v := (0 : Int32)) X52 hx (hb hby d5_111) rfl rfl ?_
                exact J47 T52 X52 e52 _ ((if_neg c46).trans ((if_neg c49).trans ((if_neg c51).trans (if_neg c53)))).symm
      · refine o_ifT (pc' := 266) X41 hx (hb hby d5_60) (XT.i0_ne_t c42) (by decide) (by decide) ?_
        exact J3 T41 h30_ _ X41 e41 N30 Z40 K39 _ One.u _ _ _ _ _ ((if_pos c2).trans ((if_pos c4).trans (if_neg c42))).symm ((if_pos c2).trans (if_pos c4)).symm ((if_pos c2).trans (if_pos c4)).symm ((if_pos c2).trans ((if_pos c4).trans (if_neg c42))).symm ((if_pos c2).trans ((if_pos c4).trans (if_neg c42))).symm F31 F34 F35 F36 F37 F38
    · refine o_icmpT (pc' := 152) X1 hx (hb hby d5_17) (XT.ii_ne_t c4) (by decide) (by decide) ?_
      refine o_aloadN (pc' := 153) X1 hx (hb hby d5_152) rfl rfl rfl ?_
      refine o_dup (pc' := 154) X1 hx (hb hby d5_153) rfl rfl ?_
      obtain ⟨T87, X87, e87, st87⟩ := getF X1 hx hZ hown (host := "") (Or.inl (hw _ (List.mem_of_getElem? (i := 27) rfl))) Via.refl e1 F_malformed (g := (mkF m 154 #[.val (.ref a1), .val (.int x1), .val (.int (-1 : Int32)), .unset] [(.ref a1), (.ref a1)])) rfl rfl (hb hby d5_154)
      refine oGo.step (f' := (mkF m 157 #[.val (.ref a1), .val (.int x1), .val (.int (-1 : Int32)), .unset] [(.int f_malformed), (.ref a1)])) st87 ?_
      refine o_aloadN (pc' := 158) X87 hx (hb hby d5_157) rfl rfl rfl ?_
      obtain ⟨T88, X88, e88, st88⟩ := getF X87 hx hZ hown (host := "") (Or.inl (hw _ (List.mem_of_getElem? (i := 25) rfl))) Via.refl e87 F_lacking (g := (mkF m 158 #[.val (.ref a1), .val (.int x1), .val (.int (-1 : Int32)), .unset] [(.ref a1), (.int f_malformed), (.ref a1)])) rfl rfl (hb hby d5_158)
      refine oGo.step (f' := (mkF m 161 #[.val (.ref a1), .val (.int x1), .val (.int (-1 : Int32)), .unset] [(.int f_lacking), (.int f_malformed), (.ref a1)])) st88 ?_
      refine o_ifF (pc' := 164) X88 hx (hb hby d5_161) (XT.i0_le_f c2) rfl ?_
      refine o_iconst (pc' := 165) (v := (1 : Int32)) X88 hx (hb hby d5_164) rfl rfl ?_
      refine o_goto (pc' := 169) X88 hx (hb hby d5_165) (by decide) (by decide) ?_
      refine o_ior (pc' := 170) X88 hx (hb hby d5_169)  rfl ?_
      obtain ⟨T89, h89_, X89, e89, W89, st89⟩ := putF X88 hx hZ hown (host := "") (Or.inl (hw _ (List.mem_of_getElem? (i := 27) rfl))) Via.refl e88 F_malformed E0 (Or.inl (hw _ (List.mem_of_getElem? (i := 28) rfl))) (hw _ (List.mem_of_getElem? (i := 8) rfl)) (ty := .boolean) (by decide) (o_nb (o_orB hI.2 (Or.inr rfl))) (o_fb (o_orB hI.2 (Or.inr rfl))) (g := (mkF m 170 #[.val (.ref a1), .val (.int x1), .val (.int (-1 : Int32)), .unset] [(.int (f_malformed ||| (1 : Int32))), (.ref a1)])) rfl rfl (hb hby d5_170)
      refine oGo.step (f' := (mkF m 173 #[.val (.ref a1), .val (.int x1), .val (.int (-1 : Int32)), .unset] [])) st89 ?_
      have N89 := Fr.snoc X89 N0 ga
      have F90 := O0.wr W89 ga
      have F93 := E0.wr W89
      have F94 := F_codePoint.other W89 (Or.inr (slot_ne (Or.inl (hw _ (List.mem_of_getElem? (i := 32) rfl))) (Or.inl (hw _ (List.mem_of_getElem? (i := 28) rfl))) (by decide) (t := .int) (t' := .boolean) (by decide) (by decide)))
      have F95 := F_lacking.other W89 (Or.inr (slot_ne (Or.inl (hw _ (List.mem_of_getElem? (i := 26) rfl))) (Or.inl (hw _ (List.mem_of_getElem? (i := 28) rfl))) (by decide) (t := .int) (t' := .boolean) (by decide) (by decide)))
      have F96 := F_given.other W89 (Or.inr (slot_ne (Or.inl (hw _ (List.mem_of_getElem? (i := 30) rfl))) (Or.inl (hw _ (List.mem_of_getElem? (i := 28) rfl))) (by decide) (t := .int) (t' := .boolean) (by decide) (by decide)))
      have F97 := F_malformed.same W89
      have K98 := K0.wr W89 (Or.inl (List.mem_of_getElem? (i := 0) rfl))
      have Z99 := Nat.le_trans Z0 (Keep.of_wr W89).1
      refine o_aloadN (pc' := 174) X89 hx (hb hby d5_173) rfl rfl rfl ?_
      refine o_iconst (pc' := 175) (v := (0 : Int32)) X89 hx (hb hby d5_174) rfl rfl ?_
      obtain ⟨T100, h100_, X100, e100, W100, st100⟩ := putF X89 hx hZ hown (host := "") (Or.inl (hw _ (List.mem_of_getElem? (i := 25) rfl))) Via.refl e89 F95 F93 (Or.inl (hw _ (List.mem_of_getElem? (i := 26) rfl))) (hw _ (List.mem_of_getElem? (i := 8) rfl)) (ty := .int) (by decide) rfl rfl (g := (mkF m 175 #[.val (.ref a1), .val (.int x1), .val (.int (-1 : Int32)), .unset] [(.int (0 : Int32)), (.ref a1)])) rfl rfl (hb hby d5_175)
      refine oGo.step (f' := (mkF m 178 #[.val (.ref a1), .val (.int x1), .val (.int (-1 : Int32)), .unset] [])) st100 ?_
      have N100 := Fr.snoc X100 N89 ga
      have F101 := F90.wr W100 ga
      have F104 := F93.wr W100
      have F105 := F94.other W100 (Or.inr (slot_ne (Or.inl (hw _ (List.mem_of_getElem? (i := 32) rfl))) (Or.inl (hw _ (List.mem_of_getElem? (i := 26) rfl))) (by decide) (t := .int) (t' := .int) (by decide) (by decide)))
      have F106 := F95.same W100
      have F107 := F96.other W100 (Or.inr (slot_ne (Or.inl (hw _ (List.mem_of_getElem? (i := 30) rfl))) (Or.inl (hw _ (List.mem_of_getElem? (i := 26) rfl))) (by decide) (t := .int) (t' := .int) (by decide) (by decide)))
      have F108 := F97.other W100 (Or.inr (slot_ne (Or.inl (hw _ (List.mem_of_getElem? (i := 28) rfl))) (Or.inl (hw _ (List.mem_of_getElem? (i := 26) rfl))) (by decide) (t := .boolean) (t' := .int) (by decide) (by decide)))
      have K109 := K98.wr W100 (Or.inl (List.mem_of_getElem? (i := 0) rfl))
      have Z110 := Nat.le_trans Z99 (Keep.of_wr W100).1
      refine o_aloadN (pc' := 179) X100 hx (hb hby d5_178) rfl rfl rfl ?_
      refine o_iconst (pc' := 180) (v := (0 : Int32)) X100 hx (hb hby d5_179) rfl rfl ?_
      obtain ⟨T111, h111_, X111, e111, W111, st111⟩ := putF X100 hx hZ hown (host := "") (Or.inl (hw _ (List.mem_of_getElem? (i := 29) rfl))) Via.refl e100 F107 F104 (Or.inl (hw _ (List.mem_of_getElem? (i := 30) rfl))) (hw _ (List.mem_of_getElem? (i := 8) rfl)) (ty := .int) (by decide) rfl rfl (g := (mkF m 180 #[.val (.ref a1), .val (.int x1), .val (.int (-1 : Int32)), .unset] [(.int (0 : Int32)), (.ref a1)])) rfl rfl (hb hby d5_180)
      refine oGo.step (f' := (mkF m 183 #[.val (.ref a1), .val (.int x1), .val (.int (-1 : Int32)), .unset] [])) st111 ?_
      have N111 := Fr.snoc X111 N100 ga
      have F112 := F101.wr W111 ga
      have F115 := F104.wr W111
      have F116 := F105.other W111 (Or.inr (slot_ne (Or.inl (hw _ (List.mem_of_getElem? (i := 32) rfl))) (Or.inl (hw _ (List.mem_of_getElem? (i := 30) rfl))) (by decide) (t := .int) (t' := .int) (by decide) (by decide)))
      have F117 := F106.other W111 (Or.inr (slot_ne (Or.inl (hw _ (List.mem_of_getElem? (i := 26) rfl))) (Or.inl (hw _ (List.mem_of_getElem? (i := 30) rfl))) (by decide) (t := .int) (t' := .int) (by decide) (by decide)))
      have F118 := F107.same W111
      have F119 := F108.other W111 (Or.inr (slot_ne (Or.inl (hw _ (List.mem_of_getElem? (i := 28) rfl))) (Or.inl (hw _ (List.mem_of_getElem? (i := 30) rfl))) (by decide) (t := .boolean) (t' := .int) (by decide) (by decide)))
      have K120 := K109.wr W111 (Or.inl (List.mem_of_getElem? (i := 0) rfl))
      have Z121 := Nat.le_trans Z110 (Keep.of_wr W111).1
      refine o_iloadN (pc' := 184) X111 hx (hb hby d5_183) rfl rfl ?_
      refine o_sipush (pc' := 187) (v := (128 : Int32)) X111 hx (hb hby d5_184) rfl rfl ?_
      by_cases c122 : x1 < (128 : Int32)
      · refine o_icmpF (pc' := 190) X111 hx (hb hby d5_187) (XT.ii_ge_f c122) rfl ?_
        refine o_iloadN (pc' := 191) X111 hx (hb hby d5_190) rfl rfl ?_
        refine o_istoreN (pc' := 192) (l' := #[.val (.ref a1), .val (.int x1), .val (.int x1), .unset]) X111 hx (hb hby d5_191) rfl rfl ?_
        refine o_goto (pc' := 266) X111 hx (hb hby d5_192) (by decide) (by decide) ?_
        exact J3 T111 h111_ _ X111 e111 N111 Z121 K120 _ One.u _ _ _ _ _ ((if_pos c2).trans ((if_neg c4).trans (if_pos c122))).symm ((if_pos c2).trans ((if_neg c4).trans (if_pos c122))).symm ((if_pos c2).trans ((if_neg c4).trans (if_pos c122))).symm ((if_pos c2).trans ((if_neg c4).trans (if_pos c122))).symm ((if_pos c2).trans ((if_neg c4).trans (if_pos c122))).symm F112 F115 F116 F117 F118 F119
      · refine o_icmpT (pc' := 195) X111 hx (hb hby d5_187) (XT.ii_ge_t c122) (by decide) (by decide) ?_
        refine o_iloadN (pc' := 196) X111 hx (hb hby d5_195) rfl rfl ?_
        refine o_sipush (pc' := 199) (v := (192 : Int32)) X111 hx (hb hby d5_196) rfl rfl ?_
        by_cases c123 : x1 < (192 : Int32)
        · refine o_icmpT (pc' := 209) X111 hx (hb hby d5_199) (XT.ii_lt_t c123) (by decide) (by decide) ?_
          refine o_aloadN (pc' := 210) X111 hx (hb hby d5_209) rfl rfl rfl ?_
          refine o_iconst (pc' := 211) (v := (1 : Int32)) X111 hx (hb hby d5_210) rfl rfl ?_
          obtain ⟨T124, h124_, X124, e124, W124, st124⟩ := putF X111 hx hZ hown (host := "") (Or.inl (hw _ (List.mem_of_getElem? (i := 27) rfl))) Via.refl e111 F119 F115 (Or.inl (hw _ (List.mem_of_getElem? (i := 28) rfl))) (hw _ (List.mem_of_getElem? (i := 8) rfl)) (ty := .boolean) (by decide) rfl rfl (g := (mkF m 211 #[.val (.ref a1), .val (.int x1), .val (.int (-1 : Int32)), .unset] [(.int (1 : Int32)), (.ref a1)])) rfl rfl (hb hby d5_211)
          refine oGo.step (f' := (mkF m 214 #[.val (.ref a1), .val (.int x1), .val (.int (-1 : Int32)), .unset] [])) st124 ?_
          have N124 := Fr.snoc X124 N111 ga
          have F125 := F112.wr W124 ga
          have F128 := F115.wr W124
          have F129 := F116.other W124 (Or.inr (slot_ne (Or.inl (hw _ (List.mem_of_getElem? (i := 32) rfl))) (Or.inl (hw _ (List.mem_of_getElem? (i := 28) rfl))) (by decide) (t := .int) (t' := .boolean) (by decide) (by decide)))
          have F130 := F117.other W124 (Or.inr (slot_ne (Or.inl (hw _ (List.mem_of_getElem? (i := 26) rfl))) (Or.inl (hw _ (List.mem_of_getElem? (i := 28) rfl))) (by decide) (t := .int) (t' := .boolean) (by decide) (by decide)))
          have F131 := F118.other W124 (Or.inr (slot_ne (Or.inl (hw _ (List.mem_of_getElem? (i := 30) rfl))) (Or.inl (hw _ (List.mem_of_getElem? (i := 28) rfl))) (by decide) (t := .int) (t' := .boolean) (by decide) (by decide)))
          have F132 := F119.same W124
          have K133 := K120.wr W124 (Or.inl (List.mem_of_getElem? (i := 0) rfl))
          have Z134 := Nat.le_trans Z121 (Keep.of_wr W124).1
          refine o_goto (pc' := 266) X124 hx (hb hby d5_214) (by decide) (by decide) ?_
          exact J3 T124 h124_ _ X124 e124 N124 Z134 K133 _ One.u _ _ _ _ _ ((if_pos c2).trans ((if_neg c4).trans (if_neg c122))).symm ((if_pos c2).trans ((if_neg c4).trans ((if_neg c122).trans (if_pos c123)))).symm ((if_pos c2).trans ((if_neg c4).trans ((if_neg c122).trans (if_pos c123)))).symm ((if_pos c2).trans ((if_neg c4).trans ((if_neg c122).trans (if_pos c123)))).symm ((if_pos c2).trans ((if_neg c4).trans ((if_neg c122).trans (if_pos c123)))).symm F125 F128 F129 F130 F131 F132
        · refine o_icmpF (pc' := 202) X111 hx (hb hby d5_199) (XT.ii_lt_f c123) rfl ?_
          refine o_iloadN (pc' := 203) X111 hx (hb hby d5_202) rfl rfl ?_
          refine o_sipush (pc' := 206) (v := (247 : Int32)) X111 hx (hb hby d5_203) rfl rfl ?_
          by_cases c135 : (247 : Int32) < x1
          · refine o_icmpF (pc' := 209) X111 hx (hb hby d5_206) (XT.ii_le_f c135) rfl ?_
            refine o_aloadN (pc' := 210) X111 hx (hb hby d5_209) rfl rfl rfl ?_
            refine o_iconst (pc' := 211) (v := (1 : Int32)) X111 hx (hb hby d5_210) rfl rfl ?_
            obtain ⟨T136, h136_, X136, e136, W136, st136⟩ := putF X111 hx hZ hown (host := "") (Or.inl (hw _ (List.mem_of_getElem? (i := 27) rfl))) Via.refl e111 F119 F115 (Or.inl (hw _ (List.mem_of_getElem? (i := 28) rfl))) (hw _ (List.mem_of_getElem? (i := 8) rfl)) (ty := .boolean) (by decide) rfl rfl (g := (mkF m 211 #[.val (.ref a1), .val (.int x1), .val (.int (-1 : Int32)), .unset] [(.int (1 : Int32)), (.ref a1)])) rfl rfl (hb hby d5_211)
            refine oGo.step (f' := (mkF m 214 #[.val (.ref a1), .val (.int x1), .val (.int (-1 : Int32)), .unset] [])) st136 ?_
            have N136 := Fr.snoc X136 N111 ga
            have F137 := F112.wr W136 ga
            have F140 := F115.wr W136
            have F141 := F116.other W136 (Or.inr (slot_ne (Or.inl (hw _ (List.mem_of_getElem? (i := 32) rfl))) (Or.inl (hw _ (List.mem_of_getElem? (i := 28) rfl))) (by decide) (t := .int) (t' := .boolean) (by decide) (by decide)))
            have F142 := F117.other W136 (Or.inr (slot_ne (Or.inl (hw _ (List.mem_of_getElem? (i := 26) rfl))) (Or.inl (hw _ (List.mem_of_getElem? (i := 28) rfl))) (by decide) (t := .int) (t' := .boolean) (by decide) (by decide)))
            have F143 := F118.other W136 (Or.inr (slot_ne (Or.inl (hw _ (List.mem_of_getElem? (i := 30) rfl))) (Or.inl (hw _ (List.mem_of_getElem? (i := 28) rfl))) (by decide) (t := .int) (t' := .boolean) (by decide) (by decide)))
            have F144 := F119.same W136
            have K145 := K120.wr W136 (Or.inl (List.mem_of_getElem? (i := 0) rfl))
            have Z146 := Nat.le_trans Z121 (Keep.of_wr W136).1
            refine o_goto (pc' := 266) X136 hx (hb hby d5_214) (by decide) (by decide) ?_
            exact J3 T136 h136_ _ X136 e136 N136 Z146 K145 _ One.u _ _ _ _ _ ((if_pos c2).trans ((if_neg c4).trans (if_neg c122))).symm ((if_pos c2).trans ((if_neg c4).trans ((if_neg c122).trans ((if_neg c123).trans (if_pos c135))))).symm ((if_pos c2).trans ((if_neg c4).trans ((if_neg c122).trans ((if_neg c123).trans (if_pos c135))))).symm ((if_pos c2).trans ((if_neg c4).trans ((if_neg c122).trans ((if_neg c123).trans (if_pos c135))))).symm ((if_pos c2).trans ((if_neg c4).trans ((if_neg c122).trans ((if_neg c123).trans (if_pos c135))))).symm F137 F140 F141 F142 F143 F144
          · refine o_icmpT (pc' := 217) X111 hx (hb hby d5_206) (XT.ii_le_t c135) (by decide) (by decide) ?_
            refine o_aloadN (pc' := 218) X111 hx (hb hby d5_217) rfl rfl rfl ?_
            refine o_iconst (pc' := 219) (v := (1 : Int32)) X111 hx (hb hby d5_218) rfl rfl ?_
            refine o_iloadN (pc' := 220) X111 hx (hb hby d5_219) rfl rfl ?_
            refine o_sipush (pc' := 223) (v := (224 : Int32)) X111 hx (hb hby d5_220) rfl rfl ?_
            have J148 : ∀ (v149 : Int32), v149 = (if x1 < (224 : Int32) then (0 : Int32) else (1 : Int32)) → oGo p e below (oG s (fun v h L => v = some (.int (spec5 x1 f_codePoint f_lacking f_given)) ∧ Fr n0 L ∧ Keep h0 h [a1] ∧ Exa Z h a1 "com/example/harborlog/harborlog/Utf8Decoder" ∧ Fld Z h a1 "com/example/harborlog/harborlog/Utf8Decoder" "codePoint" "I" (.int (fld5_codePoint x1 f_codePoint f_lacking)) ∧ Fld Z h a1 "com/example/harborlog/harborlog/Utf8Decoder" "lacking" "I" (.int (fld5_lacking x1 f_lacking)) ∧ Fld Z h a1 "com/example/harborlog/harborlog/Utf8Decoder" "given" "I" (.int (fld5_given x1 f_lacking f_given)) ∧ Fld Z h a1 "com/example/harborlog/harborlog/Utf8Decoder" "malformed" "Z" (.int (fld5_malformed x1 f_codePoint f_lacking f_given f_malformed))) room5.cells room5.slots) T111 (mkF m 231 #[.val (.ref a1), .val (.int x1), .val (.int (-1 : Int32)), .unset] [(.int v149), (.int (1 : Int32)), (.ref a1)]) := by
              intro v149 hv149
              refine o_iadd (pc' := 232) X111 hx (hb hby d5_231)  rfl ?_
              refine o_iloadN (pc' := 233) X111 hx (hb hby d5_232) rfl rfl ?_
              refine o_sipush (pc' := 236) (v := (240 : Int32)) X111 hx (hb hby d5_233) rfl rfl ?_
              have J151 : ∀ (v152 : Int32), v152 = (if x1 < (240 : Int32) then (0 : Int32) else (1 : Int32)) → oGo p e below (oG s (fun v h L => v = some (.int (spec5 x1 f_codePoint f_lacking f_given)) ∧ Fr n0 L ∧ Keep h0 h [a1] ∧ Exa Z h a1 "com/example/harborlog/harborlog/Utf8Decoder" ∧ Fld Z h a1 "com/example/harborlog/harborlog/Utf8Decoder" "codePoint" "I" (.int (fld5_codePoint x1 f_codePoint f_lacking)) ∧ Fld Z h a1 "com/example/harborlog/harborlog/Utf8Decoder" "lacking" "I" (.int (fld5_lacking x1 f_lacking)) ∧ Fld Z h a1 "com/example/harborlog/harborlog/Utf8Decoder" "given" "I" (.int (fld5_given x1 f_lacking f_given)) ∧ Fld Z h a1 "com/example/harborlog/harborlog/Utf8Decoder" "malformed" "Z" (.int (fld5_malformed x1 f_codePoint f_lacking f_given f_malformed))) room5.cells room5.slots) T111 (mkF m 244 #[.val (.ref a1), .val (.int x1), .val (.int (-1 : Int32)), .unset] [(.int v152), (.int ((1 : Int32) + v149)), (.ref a1)]) := by
                intro v152 hv152
                refine o_iadd (pc' := 245) X111 hx (hb hby d5_244)  rfl ?_
                obtain ⟨T153, h153_, X153, e153, W153, st153⟩ := putF X111 hx hZ hown (host := "") (Or.inl (hw _ (List.mem_of_getElem? (i := 25) rfl))) Via.refl e111 F117 F115 (Or.inl (hw _ (List.mem_of_getElem? (i := 26) rfl))) (hw _ (List.mem_of_getElem? (i := 8) rfl)) (ty := .int) (by decide) rfl rfl (g := (mkF m 245 #[.val (.ref a1), .val (.int x1), .val (.int (-1 : Int32)), .unset] [(.int (((1 : Int32) + v149) + v152)), (.ref a1)])) rfl rfl (hb hby d5_245)
                refine oGo.step (f' := (mkF m 248 #[.val (.ref a1), .val (.int x1), .val (.int (-1 : Int32)), .unset] [])) st153 ?_
                have N153 := Fr.snoc X153 N111 ga
                have F154 := F112.wr W153 ga
                have F157 := F115.wr W153
                have F158 := F116.other W153 (Or.inr (slot_ne (Or.inl (hw _ (List.mem_of_getElem? (i := 32) rfl))) (Or.inl (hw _ (List.mem_of_getElem? (i := 26) rfl))) (by decide) (t := .int) (t' := .int) (by decide) (by decide)))
                have F159 := F117.same W153
                have F160 := F118.other W153 (Or.inr (slot_ne (Or.inl (hw _ (List.mem_of_getElem? (i := 30) rfl))) (Or.inl (hw _ (List.mem_of_getElem? (i := 26) rfl))) (by decide) (t := .int) (t' := .int) (by decide) (by decide)))
                have F161 := F119.other W153 (Or.inr (slot_ne (Or.inl (hw _ (List.mem_of_getElem? (i := 28) rfl))) (Or.inl (hw _ (List.mem_of_getElem? (i := 26) rfl))) (by decide) (t := .boolean) (t' := .int) (by decide) (by decide)))
                have K162 := K120.wr W153 (Or.inl (List.mem_of_getElem? (i := 0) rfl))
                have Z163 := Nat.le_trans Z121 (Keep.of_wr W153).1
                refine o_aloadN (pc' := 249) X153 hx (hb hby d5_248) rfl rfl rfl ?_
                refine o_iloadN (pc' := 250) X153 hx (hb hby d5_249) rfl rfl ?_
                refine o_bipush (pc' := 252) (v := (63 : Int32)) X153 hx (hb hby d5_250) rfl rfl ?_
                refine o_aloadN (pc' := 253) X153 hx (hb hby d5_252) rfl rfl rfl ?_
                obtain ⟨T164, X164, e164, st164⟩ := getF X153 hx hZ hown (host := "") (Or.inl (hw _ (List.mem_of_getElem? (i := 25) rfl))) Via.refl e153 F159 (g := (mkF m 253 #[.val (.ref a1), .val (.int x1), .val (.int (-1 : Int32)), .unset] [(.ref a1), (.int (63 : Int32)), (.int x1), (.ref a1)])) rfl rfl (hb hby d5_253)
                refine oGo.step (f' := (mkF m 256 #[.val (.ref a1), .val (.int x1), .val (.int (-1 : Int32)), .unset] [(.int (((1 : Int32) + v149) + v152)), (.int (63 : Int32)), (.int x1), (.ref a1)])) st164 ?_
                refine o_ishr (pc' := 257) X164 hx (hb hby d5_256)  rfl ?_
                refine o_iand (pc' := 258) X164 hx (hb hby d5_257)  rfl ?_
                obtain ⟨T165, h165_, X165, e165, W165, st165⟩ := putF X164 hx hZ hown (host := "") (Or.inl (hw _ (List.mem_of_getElem? (i := 31) rfl))) Via.refl e164 F158 F157 (Or.inl (hw _ (List.mem_of_getElem? (i := 32) rfl))) (hw _ (List.mem_of_getElem? (i := 8) rfl)) (ty := .int) (by decide) rfl rfl (g := (mkF m 258 #[.val (.ref a1), .val (.int x1), .val (.int (-1 : Int32)), .unset] [(.int (x1 &&& ((63 : Int32) >>> ((((1 : Int32) + v149) + v152) &&& 31)))), (.ref a1)])) rfl rfl (hb hby d5_258)
                refine oGo.step (f' := (mkF m 261 #[.val (.ref a1), .val (.int x1), .val (.int (-1 : Int32)), .unset] [])) st165 ?_
                have N165 := Fr.snoc X165 N153 ga
                have F166 := F154.wr W165 ga
                have F169 := F157.wr W165
                have F170 := F158.same W165
                have F171 := F159.other W165 (Or.inr (slot_ne (Or.inl (hw _ (List.mem_of_getElem? (i := 26) rfl))) (Or.inl (hw _ (List.mem_of_getElem? (i := 32) rfl))) (by decide) (t := .int) (t' := .int) (by decide) (by decide)))
                have F172 := F160.other W165 (Or.inr (slot_ne (Or.inl (hw _ (List.mem_of_getElem? (i := 30) rfl))) (Or.inl (hw _ (List.mem_of_getElem? (i := 32) rfl))) (by decide) (t := .int) (t' := .int) (by decide) (by decide)))
                have F173 := F161.other W165 (Or.inr (slot_ne (Or.inl (hw _ (List.mem_of_getElem? (i := 28) rfl))) (Or.inl (hw _ (List.mem_of_getElem? (i := 32) rfl))) (by decide) (t := .boolean) (t' := .int) (by decide) (by decide)))
                have K174 := K162.wr W165 (Or.inl (List.mem_of_getElem? (i := 0) rfl))
                have Z175 := Nat.le_trans Z163 (Keep.of_wr W165).1
                refine o_aloadN (pc' := 262) X165 hx (hb hby d5_261) rfl rfl rfl ?_
                refine o_iconst (pc' := 263) (v := (1 : Int32)) X165 hx (hb hby d5_262) rfl rfl ?_
                obtain ⟨T176, h176_, X176, e176, W176, st176⟩ := putF X165 hx hZ hown (host := "") (Or.inl (hw _ (List.mem_of_getElem? (i := 29) rfl))) Via.refl e165 F172 F169 (Or.inl (hw _ (List.mem_of_getElem? (i := 30) rfl))) (hw _ (List.mem_of_getElem? (i := 8) rfl)) (ty := .int) (by decide) rfl rfl (g := (mkF m 263 #[.val (.ref a1), .val (.int x1), .val (.int (-1 : Int32)), .unset] [(.int (1 : Int32)), (.ref a1)])) rfl rfl (hb hby d5_263)
                refine oGo.step (f' := (mkF m 266 #[.val (.ref a1), .val (.int x1), .val (.int (-1 : Int32)), .unset] [])) st176 ?_
                have N176 := Fr.snoc X176 N165 ga
                have F177 := F166.wr W176 ga
                have F180 := F169.wr W176
                have F181 := F170.other W176 (Or.inr (slot_ne (Or.inl (hw _ (List.mem_of_getElem? (i := 32) rfl))) (Or.inl (hw _ (List.mem_of_getElem? (i := 30) rfl))) (by decide) (t := .int) (t' := .int) (by decide) (by decide)))
                have F182 := F171.other W176 (Or.inr (slot_ne (Or.inl (hw _ (List.mem_of_getElem? (i := 26) rfl))) (Or.inl (hw _ (List.mem_of_getElem? (i := 30) rfl))) (by decide) (t := .int) (t' := .int) (by decide) (by decide)))
                have F183 := F172.same W176
                have F184 := F173.other W176 (Or.inr (slot_ne (Or.inl (hw _ (List.mem_of_getElem? (i := 28) rfl))) (Or.inl (hw _ (List.mem_of_getElem? (i := 30) rfl))) (by decide) (t := .boolean) (t' := .int) (by decide) (by decide)))
                have K185 := K174.wr W176 (Or.inl (List.mem_of_getElem? (i := 0) rfl))
                have Z186 := Nat.le_trans Z175 (Keep.of_wr W176).1
                subst hv152 hv149
                exact J3 T176 h176_ _ X176 e176 N176 Z186 K185 _ One.u _ _ _ _ _ ((if_pos c2).trans ((if_neg c4).trans (if_neg c122))).symm ((if_pos c2).trans ((if_neg c4).trans ((if_neg c122).trans ((if_neg c123).trans (if_neg c135))))).symm ((if_pos c2).trans ((if_neg c4).trans ((if_neg c122).trans ((if_neg c123).trans (if_neg c135))))).symm ((if_pos c2).trans ((if_neg c4).trans ((if_neg c122).trans ((if_neg c123).trans (if_neg c135))))).symm ((if_pos c2).trans ((if_neg c4).trans ((if_neg c122).trans ((if_neg c123).trans (if_neg c135))))).symm F177 F180 F181 F182 F183 F184
              by_cases c150 : x1 < (240 : Int32)
              · refine o_icmpT (pc' := 243) X111 hx (hb hby d5_236) (XT.ii_lt_t c150) (by decide) (by decide) ?_
                refine o_iconst (pc' := 244) (v := (0 : Int32)) X111 hx (hb hby d5_243) rfl rfl ?_
                exact J151 _ (if_pos c150).symm
              · refine o_icmpF (pc' := 239) X111 hx (hb hby d5_236) (XT.ii_lt_f c150) rfl ?_
                refine o_iconst (pc' := 240) (v := (1 : Int32)) X111 hx (hb hby d5_239) rfl rfl ?_
                refine o_goto (pc' := 244) X111 hx (hb hby d5_240) (by decide) (by decide) ?_
                exact J151 _ (if_neg c150).symm
            by_cases c147 : x1 < (224 : Int32)
            · refine o_icmpT (pc' := 230) X111 hx (hb hby d5_223) (XT.ii_lt_t c147) (by decide) (by decide) ?_
              refine o_iconst (pc' := 231) (v := (0 : Int32)) X111 hx (hb hby d5_230) rfl rfl ?_
              exact J148 _ (if_pos c147).symm
            · refine o_icmpF (pc' := 226) X111 hx (hb hby d5_223) (XT.ii_lt_f c147) rfl ?_
              refine o_iconst (pc' := 227) (v := (1 : Int32)) X111 hx (hb hby d5_226) rfl rfl ?_
              refine o_goto (pc' := 231) X111 hx (hb hby d5_227) (by decide) (by decide) ?_
              exact J148 _ (if_neg c147).symm
  · refine o_ifT (pc' := 152) X1 hx (hb hby d5_6) (XT.i0_le_t c2) (by decide) (by decide) ?_
    refine o_aloadN (pc' := 153) X1 hx (hb hby d5_152) rfl rfl rfl ?_
    refine o_dup (pc' := 154) X1 hx (hb hby d5_153) rfl rfl ?_
    obtain ⟨T187, X187, e187, st187⟩ := getF X1 hx hZ hown (host := "") (Or.inl (hw _ (List.mem_of_getElem? (i := 27) rfl))) Via.refl e1 F_malformed (g := (mkF m 154 #[.val (.ref a1), .val (.int x1), .val (.int (-1 : Int32)), .unset] [(.ref a1), (.ref a1)])) rfl rfl (hb hby d5_154)
    refine oGo.step (f' := (mkF m 157 #[.val (.ref a1), .val (.int x1), .val (.int (-1 : Int32)), .unset] [(.int f_malformed), (.ref a1)])) st187 ?_
    refine o_aloadN (pc' := 158) X187 hx (hb hby d5_157) rfl rfl rfl ?_
    obtain ⟨T188, X188, e188, st188⟩ := getF X187 hx hZ hown (host := "") (Or.inl (hw _ (List.mem_of_getElem? (i := 25) rfl))) Via.refl e187 F_lacking (g := (mkF m 158 #[.val (.ref a1), .val (.int x1), .val (.int (-1 : Int32)), .unset] [(.ref a1), (.int f_malformed), (.ref a1)])) rfl rfl (hb hby d5_158)
    refine oGo.step (f' := (mkF m 161 #[.val (.ref a1), .val (.int x1), .val (.int (-1 : Int32)), .unset] [(.int f_lacking), (.int f_malformed), (.ref a1)])) st188 ?_
    refine o_ifT (pc' := 168) X188 hx (hb hby d5_161) (XT.i0_le_t c2) (by decide) (by decide) ?_
    refine o_iconst (pc' := 169) (v := (0 : Int32)) X188 hx (hb hby d5_168) rfl rfl ?_
    refine o_ior (pc' := 170) X188 hx (hb hby d5_169)  rfl ?_
    obtain ⟨T189, h189_, X189, e189, W189, st189⟩ := putF X188 hx hZ hown (host := "") (Or.inl (hw _ (List.mem_of_getElem? (i := 27) rfl))) Via.refl e188 F_malformed E0 (Or.inl (hw _ (List.mem_of_getElem? (i := 28) rfl))) (hw _ (List.mem_of_getElem? (i := 8) rfl)) (ty := .boolean) (by decide) (o_nb (o_orB hI.2 (Or.inl rfl))) (o_fb (o_orB hI.2 (Or.inl rfl))) (g := (mkF m 170 #[.val (.ref a1), .val (.int x1), .val (.int (-1 : Int32)), .unset] [(.int (f_malformed ||| (0 : Int32))), (.ref a1)])) rfl rfl (hb hby d5_170)
    refine oGo.step (f' := (mkF m 173 #[.val (.ref a1), .val (.int x1), .val (.int (-1 : Int32)), .unset] [])) st189 ?_
    have N189 := Fr.snoc X189 N0 ga
    have F190 := O0.wr W189 ga
    have F193 := E0.wr W189
    have F194 := F_codePoint.other W189 (Or.inr (slot_ne (Or.inl (hw _ (List.mem_of_getElem? (i := 32) rfl))) (Or.inl (hw _ (List.mem_of_getElem? (i := 28) rfl))) (by decide) (t := .int) (t' := .boolean) (by decide) (by decide)))
    have F195 := F_lacking.other W189 (Or.inr (slot_ne (Or.inl (hw _ (List.mem_of_getElem? (i := 26) rfl))) (Or.inl (hw _ (List.mem_of_getElem? (i := 28) rfl))) (by decide) (t := .int) (t' := .boolean) (by decide) (by decide)))
    have F196 := F_given.other W189 (Or.inr (slot_ne (Or.inl (hw _ (List.mem_of_getElem? (i := 30) rfl))) (Or.inl (hw _ (List.mem_of_getElem? (i := 28) rfl))) (by decide) (t := .int) (t' := .boolean) (by decide) (by decide)))
    have F197 := F_malformed.same W189
    have K198 := K0.wr W189 (Or.inl (List.mem_of_getElem? (i := 0) rfl))
    have Z199 := Nat.le_trans Z0 (Keep.of_wr W189).1
    refine o_aloadN (pc' := 174) X189 hx (hb hby d5_173) rfl rfl rfl ?_
    refine o_iconst (pc' := 175) (v := (0 : Int32)) X189 hx (hb hby d5_174) rfl rfl ?_
    obtain ⟨T200, h200_, X200, e200, W200, st200⟩ := putF X189 hx hZ hown (host := "") (Or.inl (hw _ (List.mem_of_getElem? (i := 25) rfl))) Via.refl e189 F195 F193 (Or.inl (hw _ (List.mem_of_getElem? (i := 26) rfl))) (hw _ (List.mem_of_getElem? (i := 8) rfl)) (ty := .int) (by decide) rfl rfl (g := (mkF m 175 #[.val (.ref a1), .val (.int x1), .val (.int (-1 : Int32)), .unset] [(.int (0 : Int32)), (.ref a1)])) rfl rfl (hb hby d5_175)
    refine oGo.step (f' := (mkF m 178 #[.val (.ref a1), .val (.int x1), .val (.int (-1 : Int32)), .unset] [])) st200 ?_
    have N200 := Fr.snoc X200 N189 ga
    have F201 := F190.wr W200 ga
    have F204 := F193.wr W200
    have F205 := F194.other W200 (Or.inr (slot_ne (Or.inl (hw _ (List.mem_of_getElem? (i := 32) rfl))) (Or.inl (hw _ (List.mem_of_getElem? (i := 26) rfl))) (by decide) (t := .int) (t' := .int) (by decide) (by decide)))
    have F206 := F195.same W200
    have F207 := F196.other W200 (Or.inr (slot_ne (Or.inl (hw _ (List.mem_of_getElem? (i := 30) rfl))) (Or.inl (hw _ (List.mem_of_getElem? (i := 26) rfl))) (by decide) (t := .int) (t' := .int) (by decide) (by decide)))
    have F208 := F197.other W200 (Or.inr (slot_ne (Or.inl (hw _ (List.mem_of_getElem? (i := 28) rfl))) (Or.inl (hw _ (List.mem_of_getElem? (i := 26) rfl))) (by decide) (t := .boolean) (t' := .int) (by decide) (by decide)))
    have K209 := K198.wr W200 (Or.inl (List.mem_of_getElem? (i := 0) rfl))
    have Z210 := Nat.le_trans Z199 (Keep.of_wr W200).1
    refine o_aloadN (pc' := 179) X200 hx (hb hby d5_178) rfl rfl rfl ?_
    refine o_iconst (pc' := 180) (v := (0 : Int32)) X200 hx (hb hby d5_179) rfl rfl ?_
    obtain ⟨T211, h211_, X211, e211, W211, st211⟩ := putF X200 hx hZ hown (host := "") (Or.inl (hw _ (List.mem_of_getElem? (i := 29) rfl))) Via.refl e200 F207 F204 (Or.inl (hw _ (List.mem_of_getElem? (i := 30) rfl))) (hw _ (List.mem_of_getElem? (i := 8) rfl)) (ty := .int) (by decide) rfl rfl (g := (mkF m 180 #[.val (.ref a1), .val (.int x1), .val (.int (-1 : Int32)), .unset] [(.int (0 : Int32)), (.ref a1)])) rfl rfl (hb hby d5_180)
    refine oGo.step (f' := (mkF m 183 #[.val (.ref a1), .val (.int x1), .val (.int (-1 : Int32)), .unset] [])) st211 ?_
    have N211 := Fr.snoc X211 N200 ga
    have F212 := F201.wr W211 ga
    have F215 := F204.wr W211
    have F216 := F205.other W211 (Or.inr (slot_ne (Or.inl (hw _ (List.mem_of_getElem? (i := 32) rfl))) (Or.inl (hw _ (List.mem_of_getElem? (i := 30) rfl))) (by decide) (t := .int) (t' := .int) (by decide) (by decide)))
    have F217 := F206.other W211 (Or.inr (slot_ne (Or.inl (hw _ (List.mem_of_getElem? (i := 26) rfl))) (Or.inl (hw _ (List.mem_of_getElem? (i := 30) rfl))) (by decide) (t := .int) (t' := .int) (by decide) (by decide)))
    have F218 := F207.same W211
    have F219 := F208.other W211 (Or.inr (slot_ne (Or.inl (hw _ (List.mem_of_getElem? (i := 28) rfl))) (Or.inl (hw _ (List.mem_of_getElem? (i := 30) rfl))) (by decide) (t := .boolean) (t' := .int) (by decide) (by decide)))
    have K220 := K209.wr W211 (Or.inl (List.mem_of_getElem? (i := 0) rfl))
    have Z221 := Nat.le_trans Z210 (Keep.of_wr W211).1
    refine o_iloadN (pc' := 184) X211 hx (hb hby d5_183) rfl rfl ?_
    refine o_sipush (pc' := 187) (v := (128 : Int32)) X211 hx (hb hby d5_184) rfl rfl ?_
    by_cases c222 : x1 < (128 : Int32)
    · refine o_icmpF (pc' := 190) X211 hx (hb hby d5_187) (XT.ii_ge_f c222) rfl ?_
      refine o_iloadN (pc' := 191) X211 hx (hb hby d5_190) rfl rfl ?_
      refine o_istoreN (pc' := 192) (l' := #[.val (.ref a1), .val (.int x1), .val (.int x1), .unset]) X211 hx (hb hby d5_191) rfl rfl ?_
      refine o_goto (pc' := 266) X211 hx (hb hby d5_192) (by decide) (by decide) ?_
      exact J3 T211 h211_ _ X211 e211 N211 Z221 K220 _ One.u _ _ _ _ _ ((if_neg c2).trans (if_pos c222)).symm ((if_neg c2).trans (if_pos c222)).symm ((if_neg c2).trans (if_pos c222)).symm ((if_neg c2).trans (if_pos c222)).symm ((if_neg c2).trans (if_pos c222)).symm F212 F215 F216 F217 F218 F219
    · refine o_icmpT (pc' := 195) X211 hx (hb hby d5_187) (XT.ii_ge_t c222) (by decide) (by decide) ?_
      refine o_iloadN (pc' := 196) X211 hx (hb hby d5_195) rfl rfl ?_
      refine o_sipush (pc' := 199) (v := (192 : Int32)) X211 hx (hb hby d5_196) rfl rfl ?_
      by_cases c223 : x1 < (192 : Int32)
      · refine o_icmpT (pc' := 209) X211 hx (hb hby d5_199) (XT.ii_lt_t c223) (by decide) (by decide) ?_
        refine o_aloadN (pc' := 210) X211 hx (hb hby d5_209) rfl rfl rfl ?_
        refine o_iconst (pc' := 211) (v := (1 : Int32)) X211 hx (hb hby d5_210) rfl rfl ?_
        obtain ⟨T224, h224_, X224, e224, W224, st224⟩ := putF X211 hx hZ hown (host := "") (Or.inl (hw _ (List.mem_of_getElem? (i := 27) rfl))) Via.refl e211 F219 F215 (Or.inl (hw _ (List.mem_of_getElem? (i := 28) rfl))) (hw _ (List.mem_of_getElem? (i := 8) rfl)) (ty := .boolean) (by decide) rfl rfl (g := (mkF m 211 #[.val (.ref a1), .val (.int x1), .val (.int (-1 : Int32)), .unset] [(.int (1 : Int32)), (.ref a1)])) rfl rfl (hb hby d5_211)
        refine oGo.step (f' := (mkF m 214 #[.val (.ref a1), .val (.int x1), .val (.int (-1 : Int32)), .unset] [])) st224 ?_
        have N224 := Fr.snoc X224 N211 ga
        have F225 := F212.wr W224 ga
        have F228 := F215.wr W224
        have F229 := F216.other W224 (Or.inr (slot_ne (Or.inl (hw _ (List.mem_of_getElem? (i := 32) rfl))) (Or.inl (hw _ (List.mem_of_getElem? (i := 28) rfl))) (by decide) (t := .int) (t' := .boolean) (by decide) (by decide)))
        have F230 := F217.other W224 (Or.inr (slot_ne (Or.inl (hw _ (List.mem_of_getElem? (i := 26) rfl))) (Or.inl (hw _ (List.mem_of_getElem? (i := 28) rfl))) (by decide) (t := .int) (t' := .boolean) (by decide) (by decide)))
        have F231 := F218.other W224 (Or.inr (slot_ne (Or.inl (hw _ (List.mem_of_getElem? (i := 30) rfl))) (Or.inl (hw _ (List.mem_of_getElem? (i := 28) rfl))) (by decide) (t := .int) (t' := .boolean) (by decide) (by decide)))
        have F232 := F219.same W224
        have K233 := K220.wr W224 (Or.inl (List.mem_of_getElem? (i := 0) rfl))
        have Z234 := Nat.le_trans Z221 (Keep.of_wr W224).1
        refine o_goto (pc' := 266) X224 hx (hb hby d5_214) (by decide) (by decide) ?_
        exact J3 T224 h224_ _ X224 e224 N224 Z234 K233 _ One.u _ _ _ _ _ ((if_neg c2).trans (if_neg c222)).symm ((if_neg c2).trans ((if_neg c222).trans (if_pos c223))).symm ((if_neg c2).trans ((if_neg c222).trans (if_pos c223))).symm ((if_neg c2).trans ((if_neg c222).trans (if_pos c223))).symm ((if_neg c2).trans ((if_neg c222).trans (if_pos c223))).symm F225 F228 F229 F230 F231 F232
      · refine o_icmpF (pc' := 202) X211 hx (hb hby d5_199) (XT.ii_lt_f c223) rfl ?_
        refine o_iloadN (pc' := 203) X211 hx (hb hby d5_202) rfl rfl ?_
        refine o_sipush (pc' := 206) (v := (247 : Int32)) X211 hx (hb hby d5_203) rfl rfl ?_
        by_cases c235 : (247 : Int32) < x1
        · refine o_icmpF (pc' := 209) X211 hx (hb hby d5_206) (XT.ii_le_f c235) rfl ?_
          refine o_aloadN (pc' := 210) X211 hx (hb hby d5_209) rfl rfl rfl ?_
          refine o_iconst (pc' := 211) (v := (1 : Int32)) X211 hx (hb hby d5_210) rfl rfl ?_
          obtain ⟨T236, h236_, X236, e236, W236, st236⟩ := putF X211 hx hZ hown (host := "") (Or.inl (hw _ (List.mem_of_getElem? (i := 27) rfl))) Via.refl e211 F219 F215 (Or.inl (hw _ (List.mem_of_getElem? (i := 28) rfl))) (hw _ (List.mem_of_getElem? (i := 8) rfl)) (ty := .boolean) (by decide) rfl rfl (g := (mkF m 211 #[.val (.ref a1), .val (.int x1), .val (.int (-1 : Int32)), .unset] [(.int (1 : Int32)), (.ref a1)])) rfl rfl (hb hby d5_211)
          refine oGo.step (f' := (mkF m 214 #[.val (.ref a1), .val (.int x1), .val (.int (-1 : Int32)), .unset] [])) st236 ?_
          have N236 := Fr.snoc X236 N211 ga
          have F237 := F212.wr W236 ga
          have F240 := F215.wr W236
          have F241 := F216.other W236 (Or.inr (slot_ne (Or.inl (hw _ (List.mem_of_getElem? (i := 32) rfl))) (Or.inl (hw _ (List.mem_of_getElem? (i := 28) rfl))) (by decide) (t := .int) (t' := .boolean) (by decide) (by decide)))
          have F242 := F217.other W236 (Or.inr (slot_ne (Or.inl (hw _ (List.mem_of_getElem? (i := 26) rfl))) (Or.inl (hw _ (List.mem_of_getElem? (i := 28) rfl))) (by decide) (t := .int) (t' := .boolean) (by decide) (by decide)))
          have F243 := F218.other W236 (Or.inr (slot_ne (Or.inl (hw _ (List.mem_of_getElem? (i := 30) rfl))) (Or.inl (hw _ (List.mem_of_getElem? (i := 28) rfl))) (by decide) (t := .int) (t' := .boolean) (by decide) (by decide)))
          have F244 := F219.same W236
          have K245 := K220.wr W236 (Or.inl (List.mem_of_getElem? (i := 0) rfl))
          have Z246 := Nat.le_trans Z221 (Keep.of_wr W236).1
          refine o_goto (pc' := 266) X236 hx (hb hby d5_214) (by decide) (by decide) ?_
          exact J3 T236 h236_ _ X236 e236 N236 Z246 K245 _ One.u _ _ _ _ _ ((if_neg c2).trans (if_neg c222)).symm ((if_neg c2).trans ((if_neg c222).trans ((if_neg c223).trans (if_pos c235)))).symm ((if_neg c2).trans ((if_neg c222).trans ((if_neg c223).trans (if_pos c235)))).symm ((if_neg c2).trans ((if_neg c222).trans ((if_neg c223).trans (if_pos c235)))).symm ((if_neg c2).trans ((if_neg c222).trans ((if_neg c223).trans (if_pos c235)))).symm F237 F240 F241 F242 F243 F244
        · refine o_icmpT (pc' := 217) X211 hx (hb hby d5_206) (XT.ii_le_t c235) (by decide) (by decide) ?_
          refine o_aloadN (pc' := 218) X211 hx (hb hby d5_217) rfl rfl rfl ?_
          refine o_iconst (pc' := 219) (v := (1 : Int32)) X211 hx (hb hby d5_218) rfl rfl ?_
          refine o_iloadN (pc' := 220) X211 hx (hb hby d5_219) rfl rfl ?_
          refine o_sipush (pc' := 223) (v := (224 : Int32)) X211 hx (hb hby d5_220) rfl rfl ?_
          have J248 : ∀ (v249 : Int32), v249 = (if x1 < (224 : Int32) then (0 : Int32) else (1 : Int32)) → oGo p e below (oG s (fun v h L => v = some (.int (spec5 x1 f_codePoint f_lacking f_given)) ∧ Fr n0 L ∧ Keep h0 h [a1] ∧ Exa Z h a1 "com/example/harborlog/harborlog/Utf8Decoder" ∧ Fld Z h a1 "com/example/harborlog/harborlog/Utf8Decoder" "codePoint" "I" (.int (fld5_codePoint x1 f_codePoint f_lacking)) ∧ Fld Z h a1 "com/example/harborlog/harborlog/Utf8Decoder" "lacking" "I" (.int (fld5_lacking x1 f_lacking)) ∧ Fld Z h a1 "com/example/harborlog/harborlog/Utf8Decoder" "given" "I" (.int (fld5_given x1 f_lacking f_given)) ∧ Fld Z h a1 "com/example/harborlog/harborlog/Utf8Decoder" "malformed" "Z" (.int (fld5_malformed x1 f_codePoint f_lacking f_given f_malformed))) room5.cells room5.slots) T211 (mkF m 231 #[.val (.ref a1), .val (.int x1), .val (.int (-1 : Int32)), .unset] [(.int v249), (.int (1 : Int32)), (.ref a1)]) := by
            intro v249 hv249
            refine o_iadd (pc' := 232) X211 hx (hb hby d5_231)  rfl ?_
            refine o_iloadN (pc' := 233) X211 hx (hb hby d5_232) rfl rfl ?_
            refine o_sipush (pc' := 236) (v := (240 : Int32)) X211 hx (hb hby d5_233) rfl rfl ?_
            have J251 : ∀ (v252 : Int32), v252 = (if x1 < (240 : Int32) then (0 : Int32) else (1 : Int32)) → oGo p e below (oG s (fun v h L => v = some (.int (spec5 x1 f_codePoint f_lacking f_given)) ∧ Fr n0 L ∧ Keep h0 h [a1] ∧ Exa Z h a1 "com/example/harborlog/harborlog/Utf8Decoder" ∧ Fld Z h a1 "com/example/harborlog/harborlog/Utf8Decoder" "codePoint" "I" (.int (fld5_codePoint x1 f_codePoint f_lacking)) ∧ Fld Z h a1 "com/example/harborlog/harborlog/Utf8Decoder" "lacking" "I" (.int (fld5_lacking x1 f_lacking)) ∧ Fld Z h a1 "com/example/harborlog/harborlog/Utf8Decoder" "given" "I" (.int (fld5_given x1 f_lacking f_given)) ∧ Fld Z h a1 "com/example/harborlog/harborlog/Utf8Decoder" "malformed" "Z" (.int (fld5_malformed x1 f_codePoint f_lacking f_given f_malformed))) room5.cells room5.slots) T211 (mkF m 244 #[.val (.ref a1), .val (.int x1), .val (.int (-1 : Int32)), .unset] [(.int v252), (.int ((1 : Int32) + v249)), (.ref a1)]) := by
              intro v252 hv252
              refine o_iadd (pc' := 245) X211 hx (hb hby d5_244)  rfl ?_
              obtain ⟨T253, h253_, X253, e253, W253, st253⟩ := putF X211 hx hZ hown (host := "") (Or.inl (hw _ (List.mem_of_getElem? (i := 25) rfl))) Via.refl e211 F217 F215 (Or.inl (hw _ (List.mem_of_getElem? (i := 26) rfl))) (hw _ (List.mem_of_getElem? (i := 8) rfl)) (ty := .int) (by decide) rfl rfl (g := (mkF m 245 #[.val (.ref a1), .val (.int x1), .val (.int (-1 : Int32)), .unset] [(.int (((1 : Int32) + v249) + v252)), (.ref a1)])) rfl rfl (hb hby d5_245)
              refine oGo.step (f' := (mkF m 248 #[.val (.ref a1), .val (.int x1), .val (.int (-1 : Int32)), .unset] [])) st253 ?_
              have N253 := Fr.snoc X253 N211 ga
              have F254 := F212.wr W253 ga
              have F257 := F215.wr W253
              have F258 := F216.other W253 (Or.inr (slot_ne (Or.inl (hw _ (List.mem_of_getElem? (i := 32) rfl))) (Or.inl (hw _ (List.mem_of_getElem? (i := 26) rfl))) (by decide) (t := .int) (t' := .int) (by decide) (by decide)))
              have F259 := F217.same W253
              have F260 := F218.other W253 (Or.inr (slot_ne (Or.inl (hw _ (List.mem_of_getElem? (i := 30) rfl))) (Or.inl (hw _ (List.mem_of_getElem? (i := 26) rfl))) (by decide) (t := .int) (t' := .int) (by decide) (by decide)))
              have F261 := F219.other W253 (Or.inr (slot_ne (Or.inl (hw _ (List.mem_of_getElem? (i := 28) rfl))) (Or.inl (hw _ (List.mem_of_getElem? (i := 26) rfl))) (by decide) (t := .boolean) (t' := .int) (by decide) (by decide)))
              have K262 := K220.wr W253 (Or.inl (List.mem_of_getElem? (i := 0) rfl))
              have Z263 := Nat.le_trans Z221 (Keep.of_wr W253).1
              refine o_aloadN (pc' := 249) X253 hx (hb hby d5_248) rfl rfl rfl ?_
              refine o_iloadN (pc' := 250) X253 hx (hb hby d5_249) rfl rfl ?_
              refine o_bipush (pc' := 252) (v := (63 : Int32)) X253 hx (hb hby d5_250) rfl rfl ?_
              refine o_aloadN (pc' := 253) X253 hx (hb hby d5_252) rfl rfl rfl ?_
              obtain ⟨T264, X264, e264, st264⟩ := getF X253 hx hZ hown (host := "") (Or.inl (hw _ (List.mem_of_getElem? (i := 25) rfl))) Via.refl e253 F259 (g := (mkF m 253 #[.val (.ref a1), .val (.int x1), .val (.int (-1 : Int32)), .unset] [(.ref a1), (.int (63 : Int32)), (.int x1), (.ref a1)])) rfl rfl (hb hby d5_253)
              refine oGo.step (f' := (mkF m 256 #[.val (.ref a1), .val (.int x1), .val (.int (-1 : Int32)), .unset] [(.int (((1 : Int32) + v249) + v252)), (.int (63 : Int32)), (.int x1), (.ref a1)])) st264 ?_
              refine o_ishr (pc' := 257) X264 hx (hb hby d5_256)  rfl ?_
              refine o_iand (pc' := 258) X264 hx (hb hby d5_257)  rfl ?_
              obtain ⟨T265, h265_, X265, e265, W265, st265⟩ := putF X264 hx hZ hown (host := "") (Or.inl (hw _ (List.mem_of_getElem? (i := 31) rfl))) Via.refl e264 F258 F257 (Or.inl (hw _ (List.mem_of_getElem? (i := 32) rfl))) (hw _ (List.mem_of_getElem? (i := 8) rfl)) (ty := .int) (by decide) rfl rfl (g := (mkF m 258 #[.val (.ref a1), .val (.int x1), .val (.int (-1 : Int32)), .unset] [(.int (x1 &&& ((63 : Int32) >>> ((((1 : Int32) + v249) + v252) &&& 31)))), (.ref a1)])) rfl rfl (hb hby d5_258)
              refine oGo.step (f' := (mkF m 261 #[.val (.ref a1), .val (.int x1), .val (.int (-1 : Int32)), .unset] [])) st265 ?_
              have N265 := Fr.snoc X265 N253 ga
              have F266 := F254.wr W265 ga
              have F269 := F257.wr W265
              have F270 := F258.same W265
              have F271 := F259.other W265 (Or.inr (slot_ne (Or.inl (hw _ (List.mem_of_getElem? (i := 26) rfl))) (Or.inl (hw _ (List.mem_of_getElem? (i := 32) rfl))) (by decide) (t := .int) (t' := .int) (by decide) (by decide)))
              have F272 := F260.other W265 (Or.inr (slot_ne (Or.inl (hw _ (List.mem_of_getElem? (i := 30) rfl))) (Or.inl (hw _ (List.mem_of_getElem? (i := 32) rfl))) (by decide) (t := .int) (t' := .int) (by decide) (by decide)))
              have F273 := F261.other W265 (Or.inr (slot_ne (Or.inl (hw _ (List.mem_of_getElem? (i := 28) rfl))) (Or.inl (hw _ (List.mem_of_getElem? (i := 32) rfl))) (by decide) (t := .boolean) (t' := .int) (by decide) (by decide)))
              have K274 := K262.wr W265 (Or.inl (List.mem_of_getElem? (i := 0) rfl))
              have Z275 := Nat.le_trans Z263 (Keep.of_wr W265).1
              refine o_aloadN (pc' := 262) X265 hx (hb hby d5_261) rfl rfl rfl ?_
              refine o_iconst (pc' := 263) (v := (1 : Int32)) X265 hx (hb hby d5_262) rfl rfl ?_
              obtain ⟨T276, h276_, X276, e276, W276, st276⟩ := putF X265 hx hZ hown (host := "") (Or.inl (hw _ (List.mem_of_getElem? (i := 29) rfl))) Via.refl e265 F272 F269 (Or.inl (hw _ (List.mem_of_getElem? (i := 30) rfl))) (hw _ (List.mem_of_getElem? (i := 8) rfl)) (ty := .int) (by decide) rfl rfl (g := (mkF m 263 #[.val (.ref a1), .val (.int x1), .val (.int (-1 : Int32)), .unset] [(.int (1 : Int32)), (.ref a1)])) rfl rfl (hb hby d5_263)
              refine oGo.step (f' := (mkF m 266 #[.val (.ref a1), .val (.int x1), .val (.int (-1 : Int32)), .unset] [])) st276 ?_
              have N276 := Fr.snoc X276 N265 ga
              have F277 := F266.wr W276 ga
              have F280 := F269.wr W276
              have F281 := F270.other W276 (Or.inr (slot_ne (Or.inl (hw _ (List.mem_of_getElem? (i := 32) rfl))) (Or.inl (hw _ (List.mem_of_getElem? (i := 30) rfl))) (by decide) (t := .int) (t' := .int) (by decide) (by decide)))
              have F282 := F271.other W276 (Or.inr (slot_ne (Or.inl (hw _ (List.mem_of_getElem? (i := 26) rfl))) (Or.inl (hw _ (List.mem_of_getElem? (i := 30) rfl))) (by decide) (t := .int) (t' := .int) (by decide) (by decide)))
              have F283 := F272.same W276
              have F284 := F273.other W276 (Or.inr (slot_ne (Or.inl (hw _ (List.mem_of_getElem? (i := 28) rfl))) (Or.inl (hw _ (List.mem_of_getElem? (i := 30) rfl))) (by decide) (t := .boolean) (t' := .int) (by decide) (by decide)))
              have K285 := K274.wr W276 (Or.inl (List.mem_of_getElem? (i := 0) rfl))
              have Z286 := Nat.le_trans Z275 (Keep.of_wr W276).1
              subst hv252 hv249
              exact J3 T276 h276_ _ X276 e276 N276 Z286 K285 _ One.u _ _ _ _ _ ((if_neg c2).trans (if_neg c222)).symm ((if_neg c2).trans ((if_neg c222).trans ((if_neg c223).trans (if_neg c235)))).symm ((if_neg c2).trans ((if_neg c222).trans ((if_neg c223).trans (if_neg c235)))).symm ((if_neg c2).trans ((if_neg c222).trans ((if_neg c223).trans (if_neg c235)))).symm ((if_neg c2).trans ((if_neg c222).trans ((if_neg c223).trans (if_neg c235)))).symm F277 F280 F281 F282 F283 F284
            by_cases c250 : x1 < (240 : Int32)
            · refine o_icmpT (pc' := 243) X211 hx (hb hby d5_236) (XT.ii_lt_t c250) (by decide) (by decide) ?_
              refine o_iconst (pc' := 244) (v := (0 : Int32)) X211 hx (hb hby d5_243) rfl rfl ?_
              exact J251 _ (if_pos c250).symm
            · refine o_icmpF (pc' := 239) X211 hx (hb hby d5_236) (XT.ii_lt_f c250) rfl ?_
              refine o_iconst (pc' := 240) (v := (1 : Int32)) X211 hx (hb hby d5_239) rfl rfl ?_
              refine o_goto (pc' := 244) X211 hx (hb hby d5_240) (by decide) (by decide) ?_
              exact J251 _ (if_neg c250).symm
          by_cases c247 : x1 < (224 : Int32)
          · refine o_icmpT (pc' := 230) X211 hx (hb hby d5_223) (XT.ii_lt_t c247) (by decide) (by decide) ?_
            refine o_iconst (pc' := 231) (v := (0 : Int32)) X211 hx (hb hby d5_230) rfl rfl ?_
            exact J248 _ (if_pos c247).symm
          · refine o_icmpF (pc' := 226) X211 hx (hb hby d5_223) (XT.ii_lt_f c247) rfl ?_
            refine o_iconst (pc' := 227) (v := (1 : Int32)) X211 hx (hb hby d5_226) rfl rfl ?_
            refine o_goto (pc' := 231) X211 hx (hb hby d5_227) (by decide) (by decide) ?_
            exact J248 _ (if_neg c247).symm
theorem own_inv_next (f_codePoint x1 : Int32) {f_lacking f_given f_malformed : Int32} (I : oInv f_lacking f_given f_malformed) : oInv (fld5_lacking x1 f_lacking) (fld5_given x1 f_lacking f_given) (fld5_malformed x1 f_codePoint f_lacking f_given f_malformed) := by
  obtain ⟨hk, hz⟩ := I
  have hB : ∀ u : Int32, (0 ||| u = 0 ∨ 0 ||| u = 1) → True := fun _ _ => trivial
  have z1 : fld5_malformed x1 f_codePoint f_lacking f_given f_malformed = 0 ∨ fld5_malformed x1 f_codePoint f_lacking f_given f_malformed = 1 := by
    unfold fld5_malformed
    rcases hz with rfl | rfl <;> (repeat' split) <;> first | exact Or.inl rfl | exact Or.inr rfl | decide
  refine ⟨?_, z1⟩
  have zero : (fld5_lacking x1 0 = 0 ∧ fld5_given x1 0 f_given = 0) ∨ (fld5_lacking x1 0 = 1 ∧ (fld5_given x1 0 f_given = 1)) ∨ (fld5_lacking x1 0 = 2 ∧ (fld5_given x1 0 f_given = 1)) ∨ (fld5_lacking x1 0 = 3 ∧ fld5_given x1 0 f_given = 1) := by
    have h0 : ¬ (0 : Int32) < 0 := by decide
    unfold fld5_lacking fld5_given
    simp only [if_neg h0]
    by_cases a : x1 < 128
    · simp only [if_pos a]; exact Or.inl ⟨(by first | rfl | trivial), (by first | rfl | trivial)⟩
    · by_cases b : x1 < 192
      · simp only [if_neg a, if_pos b]; exact Or.inl ⟨(by first | rfl | trivial), (by first | rfl | trivial)⟩
      · by_cases c : 247 < x1
        · simp only [if_neg a, if_neg b, if_pos c]; exact Or.inl ⟨(by first | rfl | trivial), (by first | rfl | trivial)⟩
        · simp only [if_neg a, if_neg b, if_neg c]
          by_cases d : x1 < 224
          · have d2 : x1 < 240 := Int32.lt_trans d (by decide)
            simp only [if_pos d, if_pos d2]; exact Or.inr (Or.inl ⟨(by first | rfl | trivial), (by first | rfl | trivial)⟩)
          · by_cases f : x1 < 240
            · simp only [if_neg d, if_pos f]; exact Or.inr (Or.inr (Or.inl ⟨(by first | rfl | trivial), (by first | rfl | trivial)⟩))
            · simp only [if_neg d, if_neg f]; exact Or.inr (Or.inr (Or.inr ⟨(by first | rfl | trivial), (by first | rfl | trivial)⟩))
  by_cases h : 0 < f_lacking ∧ (x1 &&& 192) = 128
  · have e1 : fld5_lacking x1 f_lacking = f_lacking - 1 := by unfold fld5_lacking; rw [if_pos h.1, if_pos h.2]
    have e2 : fld5_given x1 f_lacking f_given = if f_lacking - 1 = 0 then 0 else f_given + 1 := by unfold fld5_given; rw [if_pos h.1, if_pos h.2]
    rw [e1, e2]
    rcases hk with ⟨rfl, rfl⟩ | ⟨rfl, rfl | rfl | rfl⟩ | ⟨rfl, rfl | rfl⟩ | ⟨rfl, rfl⟩ <;> first | exact absurd h.1 (by decide) | decide
  · have e1 : fld5_lacking x1 f_lacking = fld5_lacking x1 0 := by
      have h0 : ¬ (0 : Int32) < 0 := by decide
      unfold fld5_lacking
      by_cases a : 0 < f_lacking
      · rw [if_pos a, if_neg (fun q => h ⟨a, q⟩), if_neg h0]
      · rw [if_neg a, if_neg h0]
    have e2 : fld5_given x1 f_lacking f_given = fld5_given x1 0 f_given := by
      have h0 : ¬ (0 : Int32) < 0 := by decide
      unfold fld5_given
      by_cases a : 0 < f_lacking
      · rw [if_pos a, if_neg (fun q => h ⟨a, q⟩), if_neg h0]
      · rw [if_neg a, if_neg h0]
    rw [e1, e2]
    rcases zero with a | ⟨a, b⟩ | ⟨a, b⟩ | ⟨a, b⟩
    · exact Or.inl a
    · exact Or.inr (Or.inl ⟨a, Or.inl b⟩)
    · exact Or.inr (Or.inr (Or.inl ⟨a, Or.inl b⟩))
    · exact Or.inr (Or.inr (Or.inr ⟨a, b⟩))

/-! bytes -/
def oB (x : Int32) : Prop := 0 ≤ x.toInt ∧ x.toInt < 256
theorem own_enum (y : Int32) (K : Nat) (h0 : 0 ≤ y.toInt) (h1 : y.toInt < K) : ∃ n : Nat, n < K ∧ y = Int32.ofInt n :=
  ⟨y.toInt.toNat, by omega, by rw [Int.toNat_of_nonneg h0]; exact (Int32.ofInt_toInt y).symm⟩
theorem own_tabB : ∀ n : Nat, n < 256 → ((decide ((Int32.ofInt n &&& 192) = 128) == decide (128 ≤ n ∧ n < 192)) && (decide ((Int32.ofInt n &&& 63).toInt = (n % 64 : Nat))) && (decide ((Int32.ofInt n &&& 31).toInt = (n % 32 : Nat))) && (decide ((Int32.ofInt n &&& 15).toInt = (n % 16 : Nat))) && (decide ((Int32.ofInt n &&& 7).toInt = (n % 8 : Nat))) && decide ((Int32.ofInt n).toInt = n)) = true := by decide +kernel
theorem own_byte {x : Int32} (h : oB x) : ((x &&& 192) = 128 ↔ (128 ≤ x.toInt ∧ x.toInt < 192)) ∧ (x &&& 63).toInt = x.toInt % 64 ∧ (x &&& 31).toInt = x.toInt % 32 ∧ (x &&& 15).toInt = x.toInt % 16 ∧ (x &&& 7).toInt = x.toInt % 8 := by
  obtain ⟨n, hn, rfl⟩ := own_enum x 256 h.1 h.2
  have T := own_tabB n hn
  simp only [Bool.and_eq_true, decide_eq_true_eq, beq_iff_eq, decide_eq_decide] at T
  obtain ⟨⟨⟨⟨⟨t1, t2⟩, t3⟩, t4⟩, t5⟩, t6⟩ := T
  rw [t1, t2, t3, t4, t5, t6]
  omega
theorem own_lit : (0 : Int32).toInt = 0 ∧ (1 : Int32).toInt = 1 ∧ (2 : Int32).toInt = 2 ∧ (3 : Int32).toInt = 3 ∧ (128 : Int32).toInt = 128 ∧ (192 : Int32).toInt = 192 ∧ (247 : Int32).toInt = 247 ∧ (224 : Int32).toInt = 224 ∧ (240 : Int32).toInt = 240 ∧ (1114111 : Int32).toInt = 1114111 ∧ (55296 : Int32).toInt = 55296 ∧ (57343 : Int32).toInt = 57343 ∧ (2048 : Int32).toInt = 2048 ∧ (65536 : Int32).toInt = 65536 := ⟨rfl, rfl, rfl, rfl, rfl, rfl, rfl, rfl, rfl, rfl, rfl, rfl, rfl, rfl⟩
/-- one byte more of a character's bits -/
theorem own_shift {cp x : Int32} (h0 : 0 ≤ cp.toInt) (h1 : cp.toInt < 33554432) (hx : oB x) (hc : 128 ≤ x.toInt ∧ x.toInt < 192) : ((cp <<< ((6 : Int32) &&& 31)) ||| (x &&& (63 : Int32))).toInt = cp.toInt * 64 + (x.toInt - 128) := by
  have b := (own_byte hx).2.1
  have s := c_ishl cp 6 6 (by decide)
  have r := rng32 (cp <<< ((6 : Int32) &&& 31))
  have o := c_or (cp <<< ((6 : Int32) &&& 31)) (x &&& (63 : Int32)) 6 (by decide) 64 (by decide)
  have r2 := rng32 ((cp <<< ((6 : Int32) &&& 31)) ||| (x &&& (63 : Int32)))
  generalize (cp <<< ((6 : Int32) &&& 31)) = u at *
  generalize (x &&& (63 : Int32)) = y at *
  have e : u.toInt = cp.toInt * 64 := by omega
  have o' := o (by omega) (by omega) (by omega)
  omega
def oScal (v g : Int32) : Bool := decide (¬ v < oLeast g ∧ ¬ (1114111 : Int32) < v ∧ (v < (55296 : Int32) ∨ (57343 : Int32) < v))
abbrev oSh (cp x : Int32) : Int32 := (cp <<< ((6 : Int32) &&& 31)) ||| (x &&& (63 : Int32))
def oTop (x : Int32) : Int32 := ((1 : Int32) + (if x < (224 : Int32) then (0 : Int32) else (1 : Int32))) + (if x < (240 : Int32) then (0 : Int32) else (1 : Int32))
/-! what 'next' does, case by case -/
theorem nx_ascii {x cp k g z : Int32} (hk : k = 0) (hz : z = 0 ∨ z = 1) (h : x < 128) : fld5_codePoint x cp k = cp ∧ fld5_lacking x k = 0 ∧ fld5_given x k g = 0 ∧ fld5_malformed x cp k g z = z ∧ spec5 x cp k g = x := by
  subst hk
  have h0 : ¬ (0 : Int32) < 0 := by decide
  unfold fld5_codePoint fld5_lacking fld5_given fld5_malformed spec5
  simp only [if_neg h0, if_pos h]
  exact ⟨(by first | rfl | trivial), (by first | rfl | trivial), (by first | rfl | trivial), by rcases hz with rfl | rfl <;> decide, (by first | rfl | trivial)⟩
theorem nx_bad {x cp k g z : Int32} (hk : k = 0) (h : ¬ x < 128) (h2 : x < 192 ∨ 247 < x) : fld5_codePoint x cp k = cp ∧ fld5_lacking x k = 0 ∧ fld5_given x k g = 0 ∧ fld5_malformed x cp k g z = 1 ∧ spec5 x cp k g = -1 := by
  subst hk
  have h0 : ¬ (0 : Int32) < 0 := by decide
  unfold fld5_codePoint fld5_lacking fld5_given fld5_malformed spec5
  simp only [if_neg h0, if_neg h]
  by_cases q : x < 192
  · simp only [if_pos q]; exact ⟨(by first | rfl | trivial), (by first | rfl | trivial), (by first | rfl | trivial), (by first | rfl | trivial), (by first | rfl | trivial)⟩
  · have q2 := h2.resolve_left q
    simp only [if_neg q, if_pos q2]; exact ⟨(by first | rfl | trivial), (by first | rfl | trivial), (by first | rfl | trivial), (by first | rfl | trivial), (by first | rfl | trivial)⟩
theorem nx_lead {x cp k g z : Int32} (hk : k = 0) (hz : z = 0 ∨ z = 1) (h : ¬ x < 192) (h2 : ¬ 247 < x) : fld5_codePoint x cp k = (x &&& ((63 : Int32) >>> (oTop x &&& 31))) ∧ fld5_lacking x k = oTop x ∧ fld5_given x k g = 1 ∧ fld5_malformed x cp k g z = z ∧ spec5 x cp k g = -1 := by
  subst hk
  have h0 : ¬ (0 : Int32) < 0 := by decide
  have h1 : ¬ x < 128 := fun q => h (Int32.lt_trans q (by decide))
  unfold fld5_codePoint fld5_lacking fld5_given fld5_malformed spec5
  simp only [if_neg h0, if_neg h1, if_neg h, if_neg h2]
  exact ⟨(by first | rfl | trivial), (by first | rfl | trivial), (by first | rfl | trivial), by rcases hz with rfl | rfl <;> decide, (by first | rfl | trivial)⟩
theorem nx_cut {x cp k g z : Int32} (hk : 0 < k) (hz : z = 0 ∨ z = 1) (h : ¬ (x &&& 192) = 128) : fld5_malformed x cp k g z = 1 ∧ fld5_lacking x k = fld5_lacking x 0 ∧ fld5_given x k g = fld5_given x 0 g ∧ spec5 x cp k g = spec5 x cp 0 g := by
  have h0 : ¬ (0 : Int32) < 0 := by decide
  unfold fld5_malformed fld5_lacking fld5_given spec5
  simp only [if_pos hk, if_neg h, if_neg h0]
  refine ⟨?_, trivial, trivial, trivial⟩
  rcases hz with rfl | rfl <;> (repeat' split) <;> first | rfl | decide
theorem nx_more {x cp k g z : Int32} (hk : 0 < k) (h : (x &&& 192) = 128) (h1 : ¬ k - 1 = 0) : fld5_codePoint x cp k = oSh cp x ∧ fld5_lacking x k = k - 1 ∧ fld5_given x k g = g + 1 ∧ fld5_malformed x cp k g z = z ∧ spec5 x cp k g = -1 := by
  unfold fld5_codePoint fld5_lacking fld5_given fld5_malformed spec5
  simp only [if_pos hk, if_pos h, if_neg h1]
  exact ⟨(by first | rfl | trivial), (by first | rfl | trivial), (by first | rfl | trivial), (by first | rfl | trivial), (by first | rfl | trivial)⟩
theorem nx_last {x cp k g z : Int32} (hk : 0 < k) (hz : z = 0 ∨ z = 1) (h : (x &&& 192) = 128) (h1 : k - 1 = 0) : fld5_lacking x k = 0 ∧ fld5_given x k g = 0 ∧ fld5_malformed x cp k g z = (if oScal (oSh cp x) g = true then z else 1) ∧ spec5 x cp k g = (if oScal (oSh cp x) g = true then oSh cp x else -1) := by
  have e : ∀ v : Int32, (if v < (oLeast g) then (0 : Int32) else (if (1114111 : Int32) < v then (0 : Int32) else (if v < (55296 : Int32) then (1 : Int32) else (if (57343 : Int32) < v then (1 : Int32) else (0 : Int32))))) = if oScal v g = true then 1 else 0 := by
    intro v
    by_cases a : v < oLeast g <;> by_cases b : (1114111 : Int32) < v <;> by_cases c : v < (55296 : Int32) <;> by_cases d : (57343 : Int32) < v <;> simp [oScal, a, b, c, d]
  unfold fld5_lacking fld5_given fld5_malformed spec5
  simp only [if_pos hk, if_pos h, if_pos h1, e]
  refine ⟨h1, trivial, ?_, ?_⟩
  · by_cases q : oScal (oSh cp x) g = true
    · rw [if_pos q, if_pos q]; rcases hz with rfl | rfl <;> decide
    · rw [if_neg q, if_neg q]; rcases hz with rfl | rfl <;> decide
  · by_cases q : oScal (oSh cp x) g = true
    · rw [if_pos q, if_pos q]; rfl
    · rw [if_neg q, if_neg q]; rfl

theorem d6_0 : decode prog_155_method_4_code 0 = .ok (.aload_n 0, 1) := by decide +kernel
theorem d6_1 : decode prog_155_method_4_code 1 = .ok (.getfield 29, 3) := by decide +kernel
theorem d6_4 : decode prog_155_method_4_code 4 = .ok (.ireturn, 1) := by decide +kernel
theorem ef6 (m : MethodId) (a1 : Addr) : entryFrame m #[(.ref a1)] 1 = mkF m 0 #[.val (.ref a1)] [] := by first | (simp [entryFrame, mkF, argsToLocals, Value.category]; done) | rfl
def room6 : Room := { frames := 0, cells := 0, slots := 0, locals := 0 }
set_option maxRecDepth 65536 in
set_option maxHeartbeats 40000000 in
theorem rm6 (l : Launch) (Z : State) (a0 : Array Value) (hw : ∀ d ∈ tables_1, d.before a0 Z = true) (a1 : Addr) (f_given : Int32) (h0 : Heap) (n0 : Nat) (Z0 : n0 ≤ h0.size) (E0 : Exa Z h0 a1 "com/example/harborlog/harborlog/Utf8Decoder") (F_given : Fld Z h0 a1 "com/example/harborlog/harborlog/Utf8Decoder" "given" "I" (.int f_given))  :
    oCon l Z (⟨"com/example/harborlog/harborlog/Utf8Decoder", "unfinished", "()I"⟩ : MethodName) prog_155_method_4_code 1 (some .int) room6 #[(.ref a1)] h0 (fun v h L => v = some (.int f_given) ∧ L = [] ∧ h = h0) := by
  refine oCon.of (plainFor_of_name pn_2) ?_
  intro p e s m below meth c s₁ hx hby hml hown hnm hret hlk hZ X0 e0
  rw [ef6 m a1]
  have N0 := Fr.nil n0
  refine o_aloadN (pc' := 1) X0 hx (hb hby d6_0) rfl rfl rfl ?_
  obtain ⟨T1, X1, e1, st1⟩ := getF X0 hx hZ hown (host := "") (Or.inl (hw _ (List.mem_of_getElem? (i := 29) rfl))) Via.refl e0 F_given (g := (mkF m 1 #[.val (.ref a1)] [(.ref a1)])) rfl rfl (hb hby d6_1)
  refine oGo.step (f' := (mkF m 4 #[.val (.ref a1)] [(.int f_given)])) st1 ?_
  refine o_retI X1 hx hret hlk (hb hby d6_4) (by decide) (by decide) ?_
  exact ⟨rfl, rfl, e1⟩
theorem d7_0 : decode prog_155_method_5_code 0 = .ok (.aload_n 0, 1) := by decide +kernel
theorem d7_1 : decode prog_155_method_5_code 1 = .ok (.getfield 10, 3) := by decide +kernel
theorem d7_4 : decode prog_155_method_5_code 4 = .ok (.ifCond .ne 14, 3) := by decide +kernel
theorem d7_7 : decode prog_155_method_5_code 7 = .ok (.aload_n 0, 1) := by decide +kernel
theorem d7_8 : decode prog_155_method_5_code 8 = .ok (.getfield 14, 3) := by decide +kernel
theorem d7_11 : decode prog_155_method_5_code 11 = .ok (.ifCond .ne 7, 3) := by decide +kernel
theorem d7_14 : decode prog_155_method_5_code 14 = .ok (.iconst 1, 1) := by decide +kernel
theorem d7_15 : decode prog_155_method_5_code 15 = .ok (.goto 4, 3) := by decide +kernel
theorem d7_18 : decode prog_155_method_5_code 18 = .ok (.iconst 0, 1) := by decide +kernel
theorem d7_19 : decode prog_155_method_5_code 19 = .ok (.istore_n 1, 1) := by decide +kernel
theorem d7_20 : decode prog_155_method_5_code 20 = .ok (.aload_n 0, 1) := by decide +kernel
theorem d7_21 : decode prog_155_method_5_code 21 = .ok (.iconst 0, 1) := by decide +kernel
theorem d7_22 : decode prog_155_method_5_code 22 = .ok (.putfield 26, 3) := by decide +kernel
theorem d7_25 : decode prog_155_method_5_code 25 = .ok (.aload_n 0, 1) := by decide +kernel
theorem d7_26 : decode prog_155_method_5_code 26 = .ok (.iconst 0, 1) := by decide +kernel
theorem d7_27 : decode prog_155_method_5_code 27 = .ok (.putfield 14, 3) := by decide +kernel
theorem d7_30 : decode prog_155_method_5_code 30 = .ok (.aload_n 0, 1) := by decide +kernel
theorem d7_31 : decode prog_155_method_5_code 31 = .ok (.iconst 0, 1) := by decide +kernel
theorem d7_32 : decode prog_155_method_5_code 32 = .ok (.putfield 29, 3) := by decide +kernel
theorem d7_35 : decode prog_155_method_5_code 35 = .ok (.aload_n 0, 1) := by decide +kernel
theorem d7_36 : decode prog_155_method_5_code 36 = .ok (.iconst 0, 1) := by decide +kernel
theorem d7_37 : decode prog_155_method_5_code 37 = .ok (.putfield 10, 3) := by decide +kernel
theorem d7_40 : decode prog_155_method_5_code 40 = .ok (.iload_n 1, 1) := by decide +kernel
theorem d7_41 : decode prog_155_method_5_code 41 = .ok (.ireturn, 1) := by decide +kernel
theorem ef7 (m : MethodId) (a1 : Addr) : entryFrame m #[(.ref a1)] 2 = mkF m 0 #[.val (.ref a1), .unset] [] := by first | (simp [entryFrame, mkF, argsToLocals, Value.category]; done) | rfl
def spec7 (f_lacking : Int32) (f_malformed : Int32) : Int32 := (if f_malformed = 0 then (if f_lacking = 0 then (1 : Int32) else (0 : Int32)) else (0 : Int32))
def room7 : Room := { frames := 0, cells := 0, slots := 0, locals := 0 }
set_option maxRecDepth 65536 in
set_option maxHeartbeats 40000000 in
theorem rm7 (l : Launch) (Z : State) (a0 : Array Value) (hw : ∀ d ∈ tables_1, d.before a0 Z = true) (a1 : Addr) (f_codePoint : Int32) (f_lacking : Int32) (f_given : Int32) (f_malformed : Int32) (h0 : Heap) (n0 : Nat) (Z0 : n0 ≤ h0.size) (E0 : Exa Z h0 a1 "com/example/harborlog/harborlog/Utf8Decoder") (F_codePoint : Fld Z h0 a1 "com/example/harborlog/harborlog/Utf8Decoder" "codePoint" "I" (.int f_codePoint)) (F_lacking : Fld Z h0 a1 "com/example/harborlog/harborlog/Utf8Decoder" "lacking" "I" (.int f_lacking)) (F_given : Fld Z h0 a1 "com/example/harborlog/harborlog/Utf8Decoder" "given" "I" (.int f_given)) (F_malformed : Fld Z h0 a1 "com/example/harborlog/harborlog/Utf8Decoder" "malformed" "Z" (.int f_malformed)) (ga : n0 ≤ a1)  :
    oCon l Z (⟨"com/example/harborlog/harborlog/Utf8Decoder", "end", "()Z"⟩ : MethodName) prog_155_method_5_code 2 (some .boolean) room7 #[(.ref a1)] h0 (fun v h L => v = some (.int (spec7 f_lacking f_malformed)) ∧ Fr n0 L ∧ Keep h0 h [a1] ∧ Exa Z h a1 "com/example/harborlog/harborlog/Utf8Decoder" ∧ Fld Z h a1 "com/example/harborlog/harborlog/Utf8Decoder" "codePoint" "I" (.int (0 : Int32)) ∧ Fld Z h a1 "com/example/harborlog/harborlog/Utf8Decoder" "lacking" "I" (.int (0 : Int32)) ∧ Fld Z h a1 "com/example/harborlog/harborlog/Utf8Decoder" "given" "I" (.int (0 : Int32)) ∧ Fld Z h a1 "com/example/harborlog/harborlog/Utf8Decoder" "malformed" "Z" (.int (0 : Int32))) := by
  refine oCon.of (plainFor_of_name pn_2) ?_
  intro p e s m below meth c s₁ hx hby hml hown hnm hret hlk hZ X0 e0
  rw [ef7 m a1]
  have N0 := Fr.nil n0
  have K0 := Keep.refl h0 [a1]
  refine o_aloadN (pc' := 1) X0 hx (hb hby d7_0) rfl rfl rfl ?_
  obtain ⟨T1, X1, e1, st1⟩ := getF X0 hx hZ hown (host := "") (Or.inl (hw _ (List.mem_of_getElem? (i := 27) rfl))) Via.refl e0 F_malformed (g := (mkF m 1 #[.val (.ref a1), .unset] [(.ref a1)])) rfl rfl (hb hby d7_1)
  refine oGo.step (f' := (mkF m 4 #[.val (.ref a1), .unset] [(.int f_malformed)])) st1 ?_
  have J3 : ∀ (T7 : State) (X7 : Stand p l e room7 s m #[(.ref a1)] below meth c T7 [] (0) (0)) (e7 : T7.heap = h0) (v6 : Int32), v6 = (if f_malformed = 0 then (if f_lacking = 0 then (1 : Int32) else (0 : Int32)) else (0 : Int32)) → oGo p e below (oG s (fun v h L => v = some (.int (spec7 f_lacking f_malformed)) ∧ Fr n0 L ∧ Keep h0 h [a1] ∧ Exa Z h a1 "com/example/harborlog/harborlog/Utf8Decoder" ∧ Fld Z h a1 "com/example/harborlog/harborlog/Utf8Decoder" "codePoint" "I" (.int (0 : Int32)) ∧ Fld Z h a1 "com/example/harborlog/harborlog/Utf8Decoder" "lacking" "I" (.int (0 : Int32)) ∧ Fld Z h a1 "com/example/harborlog/harborlog/Utf8Decoder" "given" "I" (.int (0 : Int32)) ∧ Fld Z h a1 "com/example/harborlog/harborlog/Utf8Decoder" "malformed" "Z" (.int (0 : Int32))) room7.cells room7.slots) T7 (mkF m 19 #[.val (.ref a1), .unset] [(.int v6)]) := by
    intro T7 X7 e7 v6 hv6
    refine o_istoreN (pc' := 20) (l' := #[.val (.ref a1), .val (.int v6)]) X7 hx (hb hby d7_19) rfl rfl ?_
    refine o_aloadN (pc' := 21) X7 hx (hb hby d7_20) rfl rfl rfl ?_
    refine o_iconst (pc' := 22) (v := (0 : Int32)) X7 hx (hb hby d7_21) rfl rfl ?_
    obtain ⟨T8, h8_, X8, e8, W8, st8⟩ := putF X7 hx hZ hown (host := "") (Or.inl (hw _ (List.mem_of_getElem? (i := 31) rfl))) Via.refl e7 F_codePoint E0 (Or.inl (hw _ (List.mem_of_getElem? (i := 32) rfl))) (hw _ (List.mem_of_getElem? (i := 8) rfl)) (ty := .int) (by decide) rfl rfl (g := (mkF m 22 #[.val (.ref a1), .val (.int v6)] [(.int (0 : Int32)), (.ref a1)])) rfl rfl (hb hby d7_22)
    refine oGo.step (f' := (mkF m 25 #[.val (.ref a1), .val (.int v6)] [])) st8 ?_
    have N8 := Fr.snoc X8 N0 ga
    have F9 := E0.wr W8
    have F10 := F_codePoint.same W8
    have F11 := F_lacking.other W8 (Or.inr (slot_ne (Or.inl (hw _ (List.mem_of_getElem? (i := 26) rfl))) (Or.inl (hw _ (List.mem_of_getElem? (i := 32) rfl))) (by decide) (t := .int) (t' := .int) (by decide) (by decide)))
    have F12 := F_given.other W8 (Or.inr (slot_ne (Or.inl (hw _ (List.mem_of_getElem? (i := 30) rfl))) (Or.inl (hw _ (List.mem_of_getElem? (i := 32) rfl))) (by decide) (t := .int) (t' := .int) (by decide) (by decide)))
    have F13 := F_malformed.other W8 (Or.inr (slot_ne (Or.inl (hw _ (List.mem_of_getElem? (i := 28) rfl))) (Or.inl (hw _ (List.mem_of_getElem? (i := 32) rfl))) (by decide) (t := .boolean) (t' := .int) (by decide) (by decide)))
    have K14 := K0.wr W8 (Or.inl (List.mem_of_getElem? (i := 0) rfl))
    have Z15 := Nat.le_trans Z0 (Keep.of_wr W8).1
    refine o_aloadN (pc' := 26) X8 hx (hb hby d7_25) rfl rfl rfl ?_
    refine o_iconst (pc' := 27) (v := (0 : Int32)) X8 hx (hb hby d7_26) rfl rfl ?_
    obtain ⟨T16, h16_, X16, e16, W16, st16⟩ := putF X8 hx hZ hown (host := "") (Or.inl (hw _ (List.mem_of_getElem? (i := 25) rfl))) Via.refl e8 F11 F9 (Or.inl (hw _ (List.mem_of_getElem? (i := 26) rfl))) (hw _ (List.mem_of_getElem? (i := 8) rfl)) (ty := .int) (by decide) rfl rfl (g := (mkF m 27 #[.val (.ref a1), .val (.int v6)] [(.int (0 : Int32)), (.ref a1)])) rfl rfl (hb hby d7_27)
    refine oGo.step (f' := (mkF m 30 #[.val (.ref a1), .val (.int v6)] [])) st16 ?_
    have N16 := Fr.snoc X16 N8 ga
    have F17 := F9.wr W16
    have F18 := F10.other W16 (Or.inr (slot_ne (Or.inl (hw _ (List.mem_of_getElem? (i := 32) rfl))) (Or.inl (hw _ (List.mem_of_getElem? (i := 26) rfl))) (by decide) (t := .int) (t' := .int) (by decide) (by decide)))
    have F19 := F11.same W16
    have F20 := F12.other W16 (Or.inr (slot_ne (Or.inl (hw _ (List.mem_of_getElem? (i := 30) rfl))) (Or.inl (hw _ (List.mem_of_getElem? (i := 26) rfl))) (by decide) (t := .int) (t' := .int) (by decide) (by decide)))
    have F21 := F13.other W16 (Or.inr (slot_ne (Or.inl (hw _ (List.mem_of_getElem? (i := 28) rfl))) (Or.inl (hw _ (List.mem_of_getElem? (i := 26) rfl))) (by decide) (t := .boolean) (t' := .int) (by decide) (by decide)))
    have K22 := K14.wr W16 (Or.inl (List.mem_of_getElem? (i := 0) rfl))
    have Z23 := Nat.le_trans Z15 (Keep.of_wr W16).1
    refine o_aloadN (pc' := 31) X16 hx (hb hby d7_30) rfl rfl rfl ?_
    refine o_iconst (pc' := 32) (v := (0 : Int32)) X16 hx (hb hby d7_31) rfl rfl ?_
    obtain ⟨T24, h24_, X24, e24, W24, st24⟩ := putF X16 hx hZ hown (host := "") (Or.inl (hw _ (List.mem_of_getElem? (i := 29) rfl))) Via.refl e16 F20 F17 (Or.inl (hw _ (List.mem_of_getElem? (i := 30) rfl))) (hw _ (List.mem_of_getElem? (i := 8) rfl)) (ty := .int) (by decide) rfl rfl (g := (mkF m 32 #[.val (.ref a1), .val (.int v6)] [(.int (0 : Int32)), (.ref a1)])) rfl rfl (hb hby d7_32)
    refine oGo.step (f' := (mkF m 35 #[.val (.ref a1), .val (.int v6)] [])) st24 ?_
    have N24 := Fr.snoc X24 N16 ga
    have F25 := F17.wr W24
    have F26 := F18.other W24 (Or.inr (slot_ne (Or.inl (hw _ (List.mem_of_getElem? (i := 32) rfl))) (Or.inl (hw _ (List.mem_of_getElem? (i := 30) rfl))) (by decide) (t := .int) (t' := .int) (by decide) (by decide)))
    have F27 := F19.other W24 (Or.inr (slot_ne (Or.inl (hw _ (List.mem_of_getElem? (i := 26) rfl))) (Or.inl (hw _ (List.mem_of_getElem? (i := 30) rfl))) (by decide) (t := .int) (t' := .int) (by decide) (by decide)))
    have F28 := F20.same W24
    have F29 := F21.other W24 (Or.inr (slot_ne (Or.inl (hw _ (List.mem_of_getElem? (i := 28) rfl))) (Or.inl (hw _ (List.mem_of_getElem? (i := 30) rfl))) (by decide) (t := .boolean) (t' := .int) (by decide) (by decide)))
    have K30 := K22.wr W24 (Or.inl (List.mem_of_getElem? (i := 0) rfl))
    have Z31 := Nat.le_trans Z23 (Keep.of_wr W24).1
    refine o_aloadN (pc' := 36) X24 hx (hb hby d7_35) rfl rfl rfl ?_
    refine o_iconst (pc' := 37) (v := (0 : Int32)) X24 hx (hb hby d7_36) rfl rfl ?_
    obtain ⟨T32, h32_, X32, e32, W32, st32⟩ := putF X24 hx hZ hown (host := "") (Or.inl (hw _ (List.mem_of_getElem? (i := 27) rfl))) Via.refl e24 F29 F25 (Or.inl (hw _ (List.mem_of_getElem? (i := 28) rfl))) (hw _ (List.mem_of_getElem? (i := 8) rfl)) (ty := .boolean) (by decide) rfl rfl (g := (mkF m 37 #[.val (.ref a1), .val (.int v6)] [(.int (0 : Int32)), (.ref a1)])) rfl rfl (hb hby d7_37)
    refine oGo.step (f' := (mkF m 40 #[.val (.ref a1), .val (.int v6)] [])) st32 ?_
    have N32 := Fr.snoc X32 N24 ga
    have F33 := F25.wr W32
    have F34 := F26.other W32 (Or.inr (slot_ne (Or.inl (hw _ (List.mem_of_getElem? (i := 32) rfl))) (Or.inl (hw _ (List.mem_of_getElem? (i := 28) rfl))) (by decide) (t := .int) (t' := .boolean) (by decide) (by decide)))
    have F35 := F27.other W32 (Or.inr (slot_ne (Or.inl (hw _ (List.mem_of_getElem? (i := 26) rfl))) (Or.inl (hw _ (List.mem_of_getElem? (i := 28) rfl))) (by decide) (t := .int) (t' := .boolean) (by decide) (by decide)))
    have F36 := F28.other W32 (Or.inr (slot_ne (Or.inl (hw _ (List.mem_of_getElem? (i := 30) rfl))) (Or.inl (hw _ (List.mem_of_getElem? (i := 28) rfl))) (by decide) (t := .int) (t' := .boolean) (by decide) (by decide)))
    have F37 := F29.same W32
    have K38 := K30.wr W32 (Or.inl (List.mem_of_getElem? (i := 0) rfl))
    have Z39 := Nat.le_trans Z31 (Keep.of_wr W32).1
    refine o_iloadN (pc' := 41) X32 hx (hb hby d7_40) rfl rfl ?_
    refine o_retZ X32 hx hret hlk (hb hby d7_41) (by rw [hv6]; (repeat' split) <;> (first | rfl | assumption)) (by decide) (by decide) ?_
    subst hv6
    rw [e32]
    exact ⟨rfl, N32, K38, F33, F34, F35, F36, F37⟩
  by_cases c2 : f_malformed = 0
  · refine o_ifF (pc' := 7) X1 hx (hb hby d7_4) (XT.i0_ne_f c2) rfl ?_
    refine o_aloadN (pc' := 8) X1 hx (hb hby d7_7) rfl rfl rfl ?_
    obtain ⟨T4, X4, e4, st4⟩ := getF X1 hx hZ hown (host := "") (Or.inl (hw _ (List.mem_of_getElem? (i := 25) rfl))) Via.refl e1 F_lacking (g := (mkF m 8 #[.val (.ref a1), .unset] [(.ref a1)])) rfl rfl (hb hby d7_8)
    refine oGo.step (f' := (mkF m 11 #[.val (.ref a1), .unset] [(.int f_lacking)])) st4 ?_
    by_cases c5 : f_lacking = 0
    · refine o_ifF (pc' := 14) X4 hx (hb hby d7_11) (XT.i0_ne_f c5) rfl ?_
      refine o_iconst (pc' := 15) (v := (1 : Int32)) X4 hx (hb hby d7_14) rfl rfl ?_
      refine o_goto (pc' := 19) X4 hx (hb hby d7_15) (by decide) (by decide) ?_
      exact J3 T4 X4 e4 _ ((if_pos c2).trans (if_pos c5)).symm
    · refine o_ifT (pc' := 18) X4 hx (hb hby d7_11) (XT.i0_ne_t c5) (by decide) (by decide) ?_
      refine o_iconst (pc' := 19) (v := (0 : Int32)) X4 hx (hb hby d7_18) rfl rfl ?_
      exact J3 T4 X4 e4 _ ((if_pos c2).trans (if_neg c5)).symm
  · refine o_ifT (pc' := 18) X1 hx (hb hby d7_4) (XT.i0_ne_t c2) (by decide) (by decide) ?_
    refine o_iconst (pc' := 19) (v := (0 : Int32)) X1 hx (hb hby d7_18) rfl rfl ?_
    exact J3 T1 X1 e1 _ (if_neg c2).symm
theorem o_and1 {x y : Int32} (q : y = 0 ∨ y = 1) : (x &&& y) &&& 1 = x &&& y := by
  rcases q with rfl | rfl
  · simp
  · rw [Int32.and_assoc]; rfl
theorem d4_0 : decode method_2_code 0 = .ok (.aload_n 0, 1) := by decide +kernel
theorem d4_1 : decode method_2_code 1 = .ok (.iload_n 1, 1) := by decide +kernel
theorem d4_2 : decode method_2_code 2 = .ok (.invokevirtual 7, 3) := by decide +kernel
theorem d4_5 : decode method_2_code 5 = .ok (.istore 6, 2) := by decide +kernel
theorem d4_7 : decode method_2_code 7 = .ok (.iload_n 2, 1) := by decide +kernel
theorem d4_8 : decode method_2_code 8 = .ok (.iload_n 3, 1) := by decide +kernel
theorem d4_9 : decode method_2_code 9 = .ok (.iconst 1, 1) := by decide +kernel
theorem d4_10 : decode method_2_code 10 = .ok (.isub, 1) := by decide +kernel
theorem d4_11 : decode method_2_code 11 = .ok (.if_icmp .ne 17, 3) := by decide +kernel
theorem d4_14 : decode method_2_code 14 = .ok (.iload 5, 2) := by decide +kernel
theorem d4_16 : decode method_2_code 16 = .ok (.ifCond .eq 8, 3) := by decide +kernel
theorem d4_19 : decode method_2_code 19 = .ok (.iload 4, 2) := by decide +kernel
theorem d4_21 : decode method_2_code 21 = .ok (.goto 8, 3) := by decide +kernel
theorem d4_24 : decode method_2_code 24 = .ok (.iconst (-1), 1) := by decide +kernel
theorem d4_25 : decode method_2_code 25 = .ok (.goto 4, 3) := by decide +kernel
theorem d4_28 : decode method_2_code 28 = .ok (.iconst (-1), 1) := by decide +kernel
theorem d4_29 : decode method_2_code 29 = .ok (.istore 7, 2) := by decide +kernel
theorem d4_31 : decode method_2_code 31 = .ok (.iload 6, 2) := by decide +kernel
theorem d4_33 : decode method_2_code 33 = .ok (.iload 7, 2) := by decide +kernel
theorem d4_35 : decode method_2_code 35 = .ok (.if_icmp .ne 7, 3) := by decide +kernel
theorem d4_38 : decode method_2_code 38 = .ok (.iconst 1, 1) := by decide +kernel
theorem d4_39 : decode method_2_code 39 = .ok (.goto 4, 3) := by decide +kernel
theorem d4_42 : decode method_2_code 42 = .ok (.iconst 0, 1) := by decide +kernel
theorem d4_43 : decode method_2_code 43 = .ok (.ireturn, 1) := by decide +kernel
theorem pn_4 : plainName "com/example/harborlog/harborlog/Utf8DecoderNextPinLaw" = true := by first | (simp [plainName, overriddenIn]; done) | decide +kernel
theorem ef4 (m : MethodId) (a1 : Addr) (x1 : Int32) (x2 : Int32) (x3 : Int32) (x4 : Int32) (x5 : Int32) : entryFrame m #[(.ref a1), (.int x1), (.int x2), (.int x3), (.int x4), (.int x5)] 8 = mkF m 0 #[.val (.ref a1), .val (.int x1), .val (.int x2), .val (.int x3), .val (.int x4), .val (.int x5), .unset, .unset] [] := by first | (simp [entryFrame, mkF, argsToLocals, Value.category]; done) | rfl
theorem pd0 : parseMethodDescriptor "(I)I" = some ⟨[.int], (some .int)⟩ := by decide +kernel
def spec4 (x1 : Int32) (x2 : Int32) (x3 : Int32) (x4 : Int32) (x5 : Int32) (f_codePoint : Int32) (f_lacking : Int32) (f_given : Int32) : Int32 := (if (spec5 x1 f_codePoint f_lacking f_given) = (if x2 = (x3 - (1 : Int32)) then (if x5 = 0 then (-1 : Int32) else x4) else (-1 : Int32)) then (1 : Int32) else (0 : Int32))
def room4 : Room := { frames := 1, cells := 0, slots := 0, locals := 15 }
set_option maxRecDepth 65536 in
set_option maxHeartbeats 40000000 in
theorem rm4 (l : Launch) (Z : State) (a0 : Array Value) (hw : ∀ d ∈ tables_1, d.before a0 Z = true) (a1 : Addr) (x1 : Int32) (x2 : Int32) (x3 : Int32) (x4 : Int32) (x5 : Int32) (f_codePoint : Int32) (f_lacking : Int32) (f_given : Int32) (f_malformed : Int32) (r_LEAST : Addr) (h0 : Heap) (n0 : Nat) (Z0 : n0 ≤ h0.size) (E0 : Exa Z h0 a1 "com/example/harborlog/harborlog/Utf8Decoder") (F_codePoint : Fld Z h0 a1 "com/example/harborlog/harborlog/Utf8Decoder" "codePoint" "I" (.int f_codePoint)) (F_lacking : Fld Z h0 a1 "com/example/harborlog/harborlog/Utf8Decoder" "lacking" "I" (.int f_lacking)) (F_given : Fld Z h0 a1 "com/example/harborlog/harborlog/Utf8Decoder" "given" "I" (.int f_given)) (F_malformed : Fld Z h0 a1 "com/example/harborlog/harborlog/Utf8Decoder" "malformed" "Z" (.int f_malformed)) (ga : n0 ≤ a1) (hI : oInv f_lacking f_given f_malformed) (O0 : Old Z n0 h0) (S_LEAST : Sta Z Z.heap "com/example/harborlog/harborlog/Utf8Decoder" "LEAST" "[I" (.ref r_LEAST)) (A_LEAST : oInts Z Z.heap r_LEAST [(0 : Int32), 128, 2048, 65536]) :
    oCon l Z (⟨"com/example/harborlog/harborlog/Utf8DecoderNextPinLaw", "step", "(Lcom/example/harborlog/harborlog/Utf8Decoder;IIIIZ)Z"⟩ : MethodName) method_2_code 8 (some .boolean) room4 #[(.ref a1), (.int x1), (.int x2), (.int x3), (.int x4), (.int x5)] h0 (fun v h L => v = some (.int (spec4 x1 x2 x3 x4 x5 f_codePoint f_lacking f_given)) ∧ Fr n0 L ∧ Keep h0 h [a1] ∧ Exa Z h a1 "com/example/harborlog/harborlog/Utf8Decoder" ∧ Fld Z h a1 "com/example/harborlog/harborlog/Utf8Decoder" "codePoint" "I" (.int (fld5_codePoint x1 f_codePoint f_lacking)) ∧ Fld Z h a1 "com/example/harborlog/harborlog/Utf8Decoder" "lacking" "I" (.int (fld5_lacking x1 f_lacking)) ∧ Fld Z h a1 "com/example/harborlog/harborlog/Utf8Decoder" "given" "I" (.int (fld5_given x1 f_lacking f_given)) ∧ Fld Z h a1 "com/example/harborlog/harborlog/Utf8Decoder" "malformed" "Z" (.int (fld5_malformed x1 f_codePoint f_lacking f_given f_malformed))) := by
  refine oCon.of (plainFor_of_name pn_4) ?_
  intro p e s m below meth c s₁ hx hby hml hown hnm hret hlk hZ X0 e0
  rw [ef4 m a1 x1 x2 x3 x4 x5]
  have N0 := Fr.nil n0
  have K0 := Keep.refl h0 [a1]
  refine o_aloadN (pc' := 1) X0 hx (hb hby d4_0) rfl rfl rfl ?_
  refine o_iloadN (pc' := 2) X0 hx (hb hby d4_1) rfl rfl ?_
  obtain ⟨r1, T1, L1, X1, hq1, st1⟩ := o_callV X0 hx hZ hown (hw _ (List.mem_of_getElem? (i := 20) rfl)) (hw _ (List.mem_of_getElem? (i := 21) rfl)) (hw _ (List.mem_of_getElem? (i := 23) rfl)) (hw _ (List.mem_of_getElem? (i := 22) rfl)) (hw _ (List.mem_of_getElem? (i := 9) rfl)) (hw _ (List.mem_of_getElem? (i := 24) rfl)) (by decide) E0 (rm5 l Z a0 hw a1 x1 f_codePoint f_lacking f_given f_malformed r_LEAST h0 n0 Z0 E0 F_codePoint F_lacking F_given F_malformed ga hI O0 S_LEAST A_LEAST) e0 (pc' := 5) (Ls := #[.val (.ref a1), .val (.int x1), .val (.int x2), .val (.int x3), .val (.int x4), .val (.int x5), .unset, .unset]) (by rw [hml]; rfl) [(.int x1)] [] rfl pd0 rfl rfl 0 (Nat.le_of_eq rfl) (hb hby d4_2) rfl (by decide) (by decide) (by decide) (by decide)
  obtain ⟨rfl, N1, Kc1, E1_, F1_codePoint, F1_lacking, F1_given, F1_malformed⟩ := hq1
  refine oGo.step (f' := (mkF m 5 #[.val (.ref a1), .val (.int x1), .val (.int x2), .val (.int x3), .val (.int x4), .val (.int x5), .unset, .unset] [(.int (spec5 x1 f_codePoint f_lacking f_given))])) st1 ?_
  have N1_ := Fr.app N0 N1
  have K2 := Kc1
  have F3 := O0.keep K2 (allS ga all0)
  have F7 := E0.keep K2
  have Z12 := Nat.le_trans Z0 K2.1
  have K13 := K0.trans K2 (allS (Or.inl (List.mem_of_getElem? (i := 0) rfl)) all0)
  have hI1 : oInv (fld5_lacking x1 f_lacking) (fld5_given x1 f_lacking f_given) (fld5_malformed x1 f_codePoint f_lacking f_given f_malformed) := own_inv_next f_codePoint x1 hI
  have X1 := o_flat X1 rfl rfl
  refine o_istore (pc' := 7) (l' := #[.val (.ref a1), .val (.int x1), .val (.int x2), .val (.int x3), .val (.int x4), .val (.int x5), .val (.int (spec5 x1 f_codePoint f_lacking f_given)), .unset]) X1 hx (hb hby d4_5) rfl rfl ?_
  refine o_iloadN (pc' := 8) X1 hx (hb hby d4_7) rfl rfl ?_
  refine o_iloadN (pc' := 9) X1 hx (hb hby d4_8) rfl rfl ?_
  refine o_iconst (pc' := 10) (v := (1 : Int32)) X1 hx (hb hby d4_9) rfl rfl ?_
  refine o_isub (pc' := 11) X1 hx (hb hby d4_10)  rfl ?_
  have J15 : ∀ (v17 : Int32), v17 = (if x2 = (x3 - (1 : Int32)) then (if x5 = 0 then (-1 : Int32) else x4) else (-1 : Int32)) → oGo p e below (oG s (fun v h L => v = some (.int (spec4 x1 x2 x3 x4 x5 f_codePoint f_lacking f_given)) ∧ Fr n0 L ∧ Keep h0 h [a1] ∧ Exa Z h a1 "com/example/harborlog/harborlog/Utf8Decoder" ∧ Fld Z h a1 "com/example/harborlog/harborlog/Utf8Decoder" "codePoint" "I" (.int (fld5_codePoint x1 f_codePoint f_lacking)) ∧ Fld Z h a1 "com/example/harborlog/harborlog/Utf8Decoder" "lacking" "I" (.int (fld5_lacking x1 f_lacking)) ∧ Fld Z h a1 "com/example/harborlog/harborlog/Utf8Decoder" "given" "I" (.int (fld5_given x1 f_lacking f_given)) ∧ Fld Z h a1 "com/example/harborlog/harborlog/Utf8Decoder" "malformed" "Z" (.int (fld5_malformed x1 f_codePoint f_lacking f_given f_malformed))) room4.cells room4.slots) T1 (mkF m 29 #[.val (.ref a1), .val (.int x1), .val (.int x2), .val (.int x3), .val (.int x4), .val (.int x5), .val (.int (spec5 x1 f_codePoint f_lacking f_given)), .unset] [(.int v17)]) := by
    intro v17 hv17
    refine o_istore (pc' := 31) (l' := #[.val (.ref a1), .val (.int x1), .val (.int x2), .val (.int x3), .val (.int x4), .val (.int x5), .val (.int (spec5 x1 f_codePoint f_lacking f_given)), .val (.int v17)]) X1 hx (hb hby d4_29) rfl rfl ?_
    refine o_iload (pc' := 33) X1 hx (hb hby d4_31) rfl rfl ?_
    refine o_iload (pc' := 35) X1 hx (hb hby d4_33) rfl rfl ?_
    have J19 : ∀ (v20 : Int32), v20 = (if (spec5 x1 f_codePoint f_lacking f_given) = v17 then (1 : Int32) else (0 : Int32)) → oGo p e below (oG s (fun v h L => v = some (.int (spec4 x1 x2 x3 x4 x5 f_codePoint f_lacking f_given)) ∧ Fr n0 L ∧ Keep h0 h [a1] ∧ Exa Z h a1 "com/example/harborlog/harborlog/Utf8Decoder" ∧ Fld Z h a1 "com/example/harborlog/harborlog/Utf8Decoder" "codePoint" "I" (.int (fld5_codePoint x1 f_codePoint f_lacking)) ∧ Fld Z h a1 "com/example/harborlog/harborlog/Utf8Decoder" "lacking" "I" (.int (fld5_lacking x1 f_lacking)) ∧ Fld Z h a1 "com/example/harborlog/harborlog/Utf8Decoder" "given" "I" (.int (fld5_given x1 f_lacking f_given)) ∧ Fld Z h a1 "com/example/harborlog/harborlog/Utf8Decoder" "malformed" "Z" (.int (fld5_malformed x1 f_codePoint f_lacking f_given f_malformed))) room4.cells room4.slots) T1 (mkF m 43 #[.val (.ref a1), .val (.int x1), .val (.int x2), .val (.int x3), .val (.int x4), .val (.int x5), .val (.int (spec5 x1 f_codePoint f_lacking f_given)), .val (.int v17)] [(.int v20)]) := by
      intro v20 hv20
      refine o_retZ X1 hx hret hlk (hb hby d4_43) (by rw [hv20]; (repeat' split) <;> (first | rfl | assumption)) (by decide) (by decide) ?_
      subst hv20 hv17
      skip
      exact ⟨rfl, N1_, K13, E1_, F1_codePoint, F1_lacking, F1_given, F1_malformed⟩
    by_cases c18 : (spec5 x1 f_codePoint f_lacking f_given) = v17
    · refine o_icmpF (pc' := 38) X1 hx (hb hby d4_35) (XT.ii_ne_f c18) rfl ?_
      refine o_iconst (pc' := 39) (v := (1 : Int32)) X1 hx (hb hby d4_38) rfl rfl ?_
      refine o_goto (pc' := 43) X1 hx (hb hby d4_39) (by decide) (by decide) ?_
      exact J19 _ (if_pos c18).symm
    · refine o_icmpT (pc' := 42) X1 hx (hb hby d4_35) (XT.ii_ne_t c18) (by decide) (by decide) ?_
      refine o_iconst (pc' := 43) (v := (0 : Int32)) X1 hx (hb hby d4_42) rfl rfl ?_
      exact J19 _ (if_neg c18).symm
  by_cases c14 : x2 = (x3 - (1 : Int32))
  · refine o_icmpF (pc' := 14) X1 hx (hb hby d4_11) (XT.ii_ne_f c14) rfl ?_
    refine o_iload (pc' := 16) X1 hx (hb hby d4_14) rfl rfl ?_
    by_cases c16 : x5 = 0
    · refine o_ifT (pc' := 24) X1 hx (hb hby d4_16) (XT.i0_eq_t c16) (by decide) (by decide) ?_
      refine o_iconst (pc' := 25) (v := (-1 : Int32)) X1 hx (hb hby d4_24) rfl rfl ?_
      refine o_goto (pc' := 29) X1 hx (hb hby d4_25) (by decide) (by decide) ?_
      exact J15 _ ((if_pos c14).trans (if_pos c16)).symm
    · refine o_ifF (pc' := 19) X1 hx (hb hby d4_16) (XT.i0_eq_f c16) rfl ?_
      refine o_iload (pc' := 21) X1 hx (hb hby d4_19) rfl rfl ?_
      refine o_goto (pc' := 29) X1 hx (hb hby d4_21) (by decide) (by decide) ?_
      exact J15 _ ((if_pos c14).trans (if_neg c16)).symm
  · refine o_icmpT (pc' := 28) X1 hx (hb hby d4_11) (XT.ii_ne_t c14) (by decide) (by decide) ?_
    refine o_iconst (pc' := 29) (v := (-1 : Int32)) X1 hx (hb hby d4_28) rfl rfl ?_
    exact J15 _ (if_neg c14).symm
theorem own_size {t : Term} {args : Array Value} {s : State} {x : Addr} {cl : Cell} (ht : t.eval args s none [] s = some (.ref x)) (ha : s.arrayAt? x = some cl) (h : (Term.length t).eval args s none [] s = some (.int 4)) : cl.slots.size = 4 := by
  by_cases hl : cl.slots.size < 2 ^ 31
  · rw [len_f ht ha hl] at h
    have q := Value.int.inj (Option.some.inj h)
    have e := len_toInt hl
    rw [q] at e
    have : (4 : Int32).toInt = 4 := rfl
    omega
  · simp [Term.eval, ht, ha, hl] at h
theorem own_four {c : Cell} {a b d f : Int32} (sz : c.slots.size = 4) (h0 : c.slots[(0 : Int32).toNatClampNeg]? = some (.int a)) (h1 : c.slots[(1 : Int32).toNatClampNeg]? = some (.int b)) (h2 : c.slots[(2 : Int32).toNatClampNeg]? = some (.int d)) (h3 : c.slots[(3 : Int32).toNatClampNeg]? = some (.int f)) : c.slots = ([a, b, d, f].map Value.int).toArray := by
  apply Array.ext_getElem?
  intro i
  match i with
  | 0 => exact h0
  | 1 => exact h1
  | 2 => exact h2
  | 3 => exact h3
  | i + 4 => rw [Array.getElem?_eq_none (by omega)]; rfl
theorem own_lti {x y : Int32} : x < y ↔ x.toInt < y.toInt := Int32.lt_iff_toInt_lt
theorem own_eqi {x y : Int32} : x = y ↔ x.toInt = y.toInt := Int32.toInt_inj.symm
theorem own_len4 (x : Int32) : ((x &&& (3 : Int32)) + (1 : Int32)) = 1 ∨ ((x &&& (3 : Int32)) + (1 : Int32)) = 2 ∨ ((x &&& (3 : Int32)) + (1 : Int32)) = 3 ∨ ((x &&& (3 : Int32)) + (1 : Int32)) = 4 := by
  have h := c_mask x 3 2 (by decide) (by decide)
  have a := c_iadd (x &&& (3 : Int32)) 1
  have r := rng32 ((x &&& (3 : Int32)) + 1)
  have o1 : (1 : Int32).toInt = 1 := rfl
  have o2 : (2 : Int32).toInt = 2 := rfl
  have o3 : (3 : Int32).toInt = 3 := rfl
  have o4 : (4 : Int32).toInt = 4 := rfl
  generalize (x &&& (3 : Int32)) = u at *
  simp only [own_eqi]
  omega
theorem own_cut (x : Int32) : ((1 : Int32) + (x &&& (3 : Int32))) = 1 ∨ ((1 : Int32) + (x &&& (3 : Int32))) = 2 ∨ ((1 : Int32) + (x &&& (3 : Int32))) = 3 ∨ ((1 : Int32) + (x &&& (3 : Int32))) = 4 := by
  rw [Int32.add_comm]; exact own_len4 x
theorem own_k1 (x : Int32) : spec1 (1 : Int32) ((1 : Int32) + (x &&& (3 : Int32))) = 1 := by
  rcases own_cut x with q | q | q | q <;> rw [q] <;> decide
theorem own_k2 (x : Int32) : spec1 (2 : Int32) ((1 : Int32) + (x &&& (3 : Int32))) = 1 ∨ spec1 (2 : Int32) ((1 : Int32) + (x &&& (3 : Int32))) = 2 := by
  rcases own_cut x with q | q | q | q <;> rw [q] <;> decide
theorem own_k3 (x : Int32) : spec1 (3 : Int32) ((1 : Int32) + (x &&& (3 : Int32))) = 1 ∨ spec1 (3 : Int32) ((1 : Int32) + (x &&& (3 : Int32))) = 2 ∨ spec1 (3 : Int32) ((1 : Int32) + (x &&& (3 : Int32))) = 3 := by
  rcases own_cut x with q | q | q | q <;> rw [q] <;> decide
theorem own_k4 (x : Int32) : spec1 (4 : Int32) ((1 : Int32) + (x &&& (3 : Int32))) = 1 ∨ spec1 (4 : Int32) ((1 : Int32) + (x &&& (3 : Int32))) = 2 ∨ spec1 (4 : Int32) ((1 : Int32) + (x &&& (3 : Int32))) = 3 ∨ spec1 (4 : Int32) ((1 : Int32) + (x &&& (3 : Int32))) = 4 := by
  rcases own_cut x with q | q | q | q <;> rw [q] <;> decide
theorem own_top1 {b : Int32} (h2 : b.toInt < 224) : oTop b = 1 := by
  have a : b < 224 := own_lti.mpr h2
  have c : b < 240 := Int32.lt_trans a (by decide)
  unfold oTop; rw [if_pos a, if_pos c]; decide
theorem own_top2 {b : Int32} (h1 : 224 ≤ b.toInt) (h2 : b.toInt < 240) : oTop b = 2 := by
  have a : ¬ b < 224 := fun q => by have := own_lti.mp q; have : (224 : Int32).toInt = 224 := rfl; omega
  have c : b < 240 := own_lti.mpr h2
  unfold oTop; rw [if_neg a, if_pos c]; decide
theorem own_top3 {b : Int32} (h1 : 240 ≤ b.toInt) : oTop b = 3 := by
  have e1 : (224 : Int32).toInt = 224 := rfl
  have e2 : (240 : Int32).toInt = 240 := rfl
  have a : ¬ b < 224 := fun q => by have := own_lti.mp q; omega
  have c : ¬ b < 240 := fun q => by have := own_lti.mp q; omega
  unfold oTop; rw [if_neg a, if_neg c]; decide
/-- the bits of a character's bytes -/
theorem own_hd {cp : Int32} {K : Int32} (s : Nat) (sh : Int32) (hs : sh.toBitVec.toNat % 32 = s) (h0 : 0 ≤ cp.toInt) {j : Nat} (hj : j ≤ 31) (P : Int) (hP : P = (2 ^ j : Nat)) (hK : K.toInt % P = 0) (hk0 : 0 ≤ K.toInt) (hk1 : K.toInt < 256) (hc : cp.toInt / (2 ^ s : Nat) < P) (hp : P ≤ 256) : (K ||| (cp >>> (sh &&& 31))).toInt = K.toInt + cp.toInt / (2 ^ s : Nat) := by
  have e := c_ishr cp sh s hs
  have g : 0 ≤ cp.toInt / (2 ^ s : Nat) := Int.ediv_nonneg h0 (by exact Int.natCast_nonneg _)
  have o := c_or K (cp >>> (sh &&& 31)) j hj P hP hK (by omega) (by omega)
  have r := rng32 (K ||| (cp >>> (sh &&& 31)))
  omega
theorem own_tl {u : Int32} (h0 : 0 ≤ u.toInt) : ((128 : Int32) ||| (u &&& (63 : Int32))).toInt = 128 + u.toInt % 64 := by
  have e := c_mask u 63 6 (by decide) (by decide)
  have o := c_or 128 (u &&& (63 : Int32)) 6 (by decide) 64 (by decide) (by decide) (by omega) (by omega)
  have r := rng32 ((128 : Int32) ||| (u &&& (63 : Int32)))
  have k : (128 : Int32).toInt = 128 := rfl
  omega
theorem own_shr {cp : Int32} (sh : Int32) (s : Nat) (hs : sh.toBitVec.toNat % 32 = s) : (cp >>> (sh &&& 31)).toInt = cp.toInt / (2 ^ s : Nat) := c_ishr cp sh s hs
theorem own_valid {v cp g l : Int32} (hl : l = oLeast g) (h : v = (if cp < l then (0 : Int32) else (if (1114111 : Int32) < cp then (0 : Int32) else (if cp < (55296 : Int32) then (1 : Int32) else (if (57343 : Int32) < cp then (1 : Int32) else (0 : Int32)))))) : v = if oScal cp g = true then 1 else 0 := by
  subst hl; rw [h]
  by_cases a : cp < oLeast g <;> by_cases b : (1114111 : Int32) < cp <;> by_cases c : cp < (55296 : Int32) <;> by_cases d : (57343 : Int32) < cp <;> simp [oScal, a, b, c, d]
theorem nz01 : (0 : Int32) = 0 ∨ (0 : Int32) = 1 := Or.inl rfl
/-! one step of the law -/
theorem st_one {b vl : Int32} (h0 : 0 ≤ b.toInt) (h1 : b.toInt < 128) (hv : vl = if oScal b 0 = true then 1 else 0) : spec4 b (0 : Int32) (1 : Int32) b vl (0 : Int32) (0 : Int32) (0 : Int32) = 1 ∧ fld5_lacking b (0 : Int32) = 0 ∧ fld5_given b (0 : Int32) (0 : Int32) = 0 ∧ fld5_malformed b (0 : Int32) (0 : Int32) (0 : Int32) (0 : Int32) = (if oScal b 0 = true then 0 else 1) := by
  have hb : b < 128 := own_lti.mpr h1
  obtain ⟨-, e2, e3, e4, e5⟩ := nx_ascii (cp := 0) (g := 0) (k := 0) rfl nz01 hb
  have sc : oScal b 0 = true := by
    unfold oScal; rw [decide_eq_true_eq]
    have l0 : (oLeast 0).toInt = 0 := rfl
    have l1 : (1114111 : Int32).toInt = 1114111 := rfl
    have l2 : (55296 : Int32).toInt = 55296 := rfl
    refine ⟨fun q => ?_, fun q => ?_, Or.inl (own_lti.mpr (by omega))⟩ <;> have := own_lti.mp q <;> omega
  refine ⟨?_, e2, e3, by rw [e4, if_pos sc]⟩
  unfold spec4
  rw [e5, hv, if_pos sc, if_pos (show (0 : Int32) = 1 - 1 by decide), if_neg (show ¬ (1 : Int32) = 0 by decide), if_pos rfl]
theorem st_lead {b i len cp vl k : Int32} (h1 : 192 ≤ b.toInt) (h2 : b.toInt < 248) (ht : oTop b = k) (hi : ¬ i = len - (1 : Int32)) : spec4 b i len cp vl (0 : Int32) (0 : Int32) (0 : Int32) = 1 ∧ fld5_lacking b (0 : Int32) = k ∧ fld5_given b (0 : Int32) (0 : Int32) = 1 ∧ fld5_malformed b (0 : Int32) (0 : Int32) (0 : Int32) (0 : Int32) = 0 ∧ fld5_codePoint b (0 : Int32) (0 : Int32) = (b &&& ((63 : Int32) >>> (k &&& 31))) := by
  have l1 : (192 : Int32).toInt = 192 := rfl
  have l2 : (247 : Int32).toInt = 247 := rfl
  obtain ⟨e1, e2, e3, e4, e5⟩ := nx_lead (cp := 0) (g := 0) (k := 0) rfl nz01 (fun q : b < 192 => by have := own_lti.mp q; omega) (fun q : 247 < b => by have := own_lti.mp q; omega)
  rw [ht] at e1 e2
  refine ⟨?_, e2, e3, e4, e1⟩
  unfold spec4
  rw [e5, if_neg hi, if_pos rfl]
theorem st_more {b i len cp vl c k g k' g' : Int32} (hb : oB b) (h1 : 128 ≤ b.toInt) (h2 : b.toInt < 192) (hk : 0 < k) (ek : k - 1 = k') (eg : g + 1 = g') (k0 : ¬ k' = 0) (hi : ¬ i = len - (1 : Int32)) (c0 : 0 ≤ c.toInt) (c1 : c.toInt < 33554432) : spec4 b i len cp vl c k g = 1 ∧ fld5_lacking b k = k' ∧ fld5_given b k g = g' ∧ fld5_malformed b c k g (0 : Int32) = 0 ∧ (fld5_codePoint b c k).toInt = c.toInt * 64 + (b.toInt - 128) := by
  obtain ⟨e1, e2, e3, e4, e5⟩ := nx_more (cp := c) (g := g) (z := 0) hk ((own_byte hb).1.mpr ⟨h1, h2⟩) (by rw [ek]; exact k0)
  refine ⟨?_, by rw [e2, ek], by rw [e3, eg], e4, by rw [e1]; exact own_shift c0 c1 hb ⟨h1, h2⟩⟩
  unfold spec4
  rw [e5, if_neg hi, if_pos rfl]
theorem st_last {b i len cp vl c k g : Int32} (hb : oB b) (h1 : 128 ≤ b.toInt) (h2 : b.toInt < 192) (hk : 0 < k) (ek : k - 1 = 0) (hi : i = len - (1 : Int32)) (c0 : 0 ≤ c.toInt) (c1 : c.toInt < 33554432) (ec : cp.toInt = c.toInt * 64 + (b.toInt - 128)) (hn : ¬ cp = -1) (hv : vl = if oScal cp g = true then 1 else 0) : spec4 b i len cp vl c k g = 1 ∧ fld5_lacking b k = 0 ∧ fld5_given b k g = 0 ∧ fld5_malformed b c k g (0 : Int32) = (if oScal cp g = true then 0 else 1) := by
  obtain ⟨e2, e3, e4, e5⟩ := nx_last (cp := c) (g := g) hk nz01 ((own_byte hb).1.mpr ⟨h1, h2⟩) ek
  have es : oSh c b = cp := own_eqi.mpr (by rw [ec]; exact own_shift c0 c1 hb ⟨h1, h2⟩)
  rw [es] at e4 e5
  refine ⟨?_, e2, e3, e4⟩
  unfold spec4
  rw [e5, if_pos hi, hv]
  by_cases q : oScal cp g = true
  · rw [if_pos q, if_pos q, if_neg (show ¬ (1 : Int32) = 0 by decide), if_pos rfl]
  · rw [if_neg q, if_neg q]; rfl
/-! the byte behind -/
theorem nx_any {t cp k g z : Int32} (hz : z = 0 ∨ z = 1) (h : k = 0 ∨ (0 < k ∧ ¬ (t &&& 192) = 128)) : spec5 t cp k g = (if t < (128 : Int32) then t else (-1 : Int32)) ∧ fld5_given t k g = (if t < (192 : Int32) then (0 : Int32) else (if (247 : Int32) < t then (0 : Int32) else (1 : Int32))) := by
  have z0 : ∀ g, spec5 t cp 0 g = (if t < (128 : Int32) then t else (-1 : Int32)) ∧ fld5_given t 0 g = (if t < (192 : Int32) then (0 : Int32) else (if (247 : Int32) < t then (0 : Int32) else (1 : Int32))) := by
    intro g
    have h0 : ¬ (0 : Int32) < 0 := by decide
    unfold spec5 fld5_given
    rw [if_neg h0, if_neg h0]
    refine ⟨rfl, ?_⟩
    by_cases a : t < 128
    · rw [if_pos a, if_pos (Int32.lt_trans a (by decide))]
    · rw [if_neg a]
  rcases h with rfl | ⟨hk, hc⟩
  · exact z0 g
  · obtain ⟨-, -, e3, e4⟩ := nx_cut (cp := cp) (g := g) hk hz hc
    rw [e3, e4]; exact z0 g
theorem end_whole {t cp g z vl : Int32} {sc : Bool} (hz : z = if sc = true then 0 else 1) (hv : vl = if sc = true then 1 else 0) : spec7 (fld5_lacking t (0 : Int32)) (fld5_malformed t cp (0 : Int32) g z) = (if vl = 0 then (0 : Int32) else (if t < (128 : Int32) then (1 : Int32) else (0 : Int32))) := by
  have hz' : z = 0 ∨ z = 1 := by rw [hz]; split; exact Or.inl rfl; exact Or.inr rfl
  by_cases a : t < 128
  · obtain ⟨-, e2, -, e4, -⟩ := nx_ascii (cp := cp) (g := g) (k := 0) rfl hz' a
    rw [e2, e4, if_pos a, hz, hv]; cases sc <;> rfl
  · rw [if_neg a]
    have R : spec7 (fld5_lacking t (0 : Int32)) (fld5_malformed t cp (0 : Int32) g z) = 0 := by
      by_cases b : t < 192 ∨ 247 < t
      · obtain ⟨-, e2, -, e4, -⟩ := nx_bad (cp := cp) (g := g) (k := 0) (z := z) rfl a b
        rw [e2, e4]; rfl
      · obtain ⟨-, e2, -, e4, -⟩ := nx_lead (cp := cp) (g := g) (k := 0) rfl hz' (fun q : t < 192 => b (Or.inl q)) (fun q : 247 < t => b (Or.inr q))
        rw [e2, e4]
        have T : ¬ oTop t = 0 := by unfold oTop; split <;> split <;> decide
        unfold spec7
        rcases hz' with rfl | rfl <;> simp [T]
    rw [R]; split <;> rfl
theorem end_cut {t cp k g : Int32} (hk : 0 < k) (hc : ¬ (t &&& 192) = 128) : spec7 (fld5_lacking t k) (fld5_malformed t cp k g (0 : Int32)) = 0 := by
  rw [(nx_cut hk nz01 hc).1]; unfold spec7; rfl
theorem own_m255 (x : Int32) : oB (x &&& (255 : Int32)) := by
  have h1 := c_mask x 255 8 (by decide) (by decide)
  exact ⟨by omega, by omega⟩
theorem own_tabX : ∀ n : Nat, n < 256 → (decide ((Int32.ofInt n &&& 192) = 128 → ((¬ ((Int32.ofInt n ^^^ 64) &&& 192) = 128) ∧ 0 ≤ (Int32.ofInt n ^^^ 64).toInt ∧ (Int32.ofInt n ^^^ 64).toInt < 256))) = true := by decide +kernel
theorem own_tx {t v : Int32} (ht : oB t) (hv : v = (if (t &&& (192 : Int32)) = (128 : Int32) then (t ^^^ (64 : Int32)) else t)) : oB v ∧ ¬ (v &&& 192) = 128 := by
  by_cases q : (t &&& (192 : Int32)) = (128 : Int32)
  · rw [if_pos q] at hv
    obtain ⟨n, hn, rfl⟩ := own_enum t 256 ht.1 ht.2
    have T := of_decide_eq_true (own_tabX n hn) q
    subst hv; exact ⟨T.2, T.1⟩
  · rw [if_neg q] at hv; subst hv; exact ⟨ht, q⟩
theorem ef_0 (m : MethodId) (x0 : Int32) (x1 : Int32) (x2 : Int32) (x3 : Int32) : entryFrame m #[(.int x0), (.int x1), (.int x2), (.int x3)] maxLocals = mkF m 0 #[.val (.int x0), .val (.int x1), .val (.int x2), .val (.int x3), .unset, .unset, .unset, .unset, .unset, .unset, .unset, .unset, .unset, .unset, .unset] [] := by first | (simp [entryFrame, mkF, argsToLocals, Value.category, maxLocals]; done) | rfl
theorem pd1 : parseMethodDescriptor "(II)I" = some ⟨[.int, .int], (some .int)⟩ := by decide +kernel
theorem pd2 : parseMethodDescriptor "()V" = some ⟨[], none⟩ := by decide +kernel
theorem pd3 : parseMethodDescriptor "(Lcom/example/harborlog/harborlog/Utf8Decoder;IIIIZ)Z" = some ⟨[(.object "com/example/harborlog/harborlog/Utf8Decoder"), .int, .int, .int, .int, .boolean], (some .boolean)⟩ := by decide +kernel
theorem pd4 : parseMethodDescriptor "()I" = some ⟨[], (some .int)⟩ := by decide +kernel
theorem pd5 : parseMethodDescriptor "()Z" = some ⟨[], (some .boolean)⟩ := by decide +kernel

set_option maxRecDepth 65536 in
set_option maxHeartbeats 40000000 in
theorem rm0 (l : Launch) (Z : State) (a0 : Array Value) (hw : ∀ d ∈ tables_1, d.before a0 Z = true) (x0 : Int32) (x1 : Int32) (x2 : Int32) (x3 : Int32) (r_LEAST : Addr) (h0 : Heap) (n0 : Nat) (Z0 : n0 ≤ h0.size) (O0 : Old Z n0 h0) (S_LEAST : Sta Z Z.heap "com/example/harborlog/harborlog/Utf8Decoder" "LEAST" "[I" (.ref r_LEAST)) (A_LEAST : oInts Z Z.heap r_LEAST [(0 : Int32), 128, 2048, 65536]) :
    oCon l Z x code maxLocals ret room_1 #[(.int x0), (.int x1), (.int x2), (.int x3)] h0 (fun v h L => v = some (.int 1) ∧ Fr n0 L) := by
  refine oCon.of (plainFor_of_name pn_4) ?_
  intro p e s m below meth c s₁ hx hby hml hown hnm hret hlk hZ X0 e0
  replace hml : c.maxLocals = 15 := hml
  rw [ef_0 m x0 x1 x2 x3]
  have N0 := Fr.nil n0
  refine o_iloadN (pc' := 1) X0 hx (hb hby at_0) rfl rfl ?_
  refine o_iconst (pc' := 2) (v := (3 : Int32)) X0 hx (hb hby at_1) rfl rfl ?_
  refine o_iand (pc' := 3) X0 hx (hb hby at_2)  rfl ?_
  refine o_iconst (pc' := 4) (v := (1 : Int32)) X0 hx (hb hby at_3) rfl rfl ?_
  refine o_iadd (pc' := 5) X0 hx (hb hby at_4)  rfl ?_
  refine o_istore (pc' := 7) (l' := #[.val (.int x0), .val (.int x1), .val (.int x2), .val (.int x3), .val (.int ((x1 &&& (3 : Int32)) + (1 : Int32))), .unset, .unset, .unset, .unset, .unset, .unset, .unset, .unset, .unset, .unset]) X0 hx (hb hby at_5) rfl rfl ?_
  rcases own_len4 x1 with hl | hl | hl | hl
  · rw [hl]
    refine o_iconst (pc' := 8) (v := (4 : Int32)) X0 hx (hb hby at_7) rfl rfl ?_
    obtain ⟨T1, h1_, X1, e1, E1, A1, st1⟩ := o_newI (Ls := #[.val (.int x0), .val (.int x1), .val (.int x2), .val (.int x3), .val (.int (1 : Int32)), .unset, .unset, .unset, .unset, .unset, .unset, .unset, .unset, .unset, .unset]) (st := []) (n := (4 : Int32)) X0 hx hZ (hw _ (List.mem_of_getElem? (i := 0) rfl)) e0 (hb hby at_8) (by decide) 4 (by decide) (by decide) (by decide) (by decide) rfl
    obtain ⟨b1, g1⟩ : ∃ z, z = h0.size := ⟨_, rfl⟩
    rw [← g1] at A1 st1
    replace A1 : oInts Z h1_ b1 [(0 : Int32), (0 : Int32), (0 : Int32), (0 : Int32)] := A1
    have ge2 : n0 ≤ b1 := by rw [g1]; exact Z0
    have K3 := (Keep.refl h0 []).ext E1
    have F4 := O0.keep K3 all0
    have Z7 := Nat.le_trans Z0 K3.1
    refine oGo.step (f' := (mkF m 10 #[.val (.int x0), .val (.int x1), .val (.int x2), .val (.int x3), .val (.int (1 : Int32)), .unset, .unset, .unset, .unset, .unset, .unset, .unset, .unset, .unset, .unset] [(.ref b1)])) st1 ?_
    refine o_astore (pc' := 12) (l' := #[.val (.int x0), .val (.int x1), .val (.int x2), .val (.int x3), .val (.int (1 : Int32)), .unset, .val (.ref b1), .unset, .unset, .unset, .unset, .unset, .unset, .unset, .unset]) X1 hx (hb hby at_10) rfl rfl rfl ?_
    refine o_iload (pc' := 14) X1 hx (hb hby at_12) rfl rfl ?_
    refine o_iconst (pc' := 15) (v := (1 : Int32)) X1 hx (hb hby at_14) rfl rfl ?_
    refine o_icmpF (pc' := 18) X1 hx (hb hby at_15) (XT.ii_ne_f (by decide)) rfl ?_
    refine o_iloadN (pc' := 19) X1 hx (hb hby at_18) rfl rfl ?_
    refine o_bipush (pc' := 21) (v := (127 : Int32)) X1 hx (hb hby at_19) rfl rfl ?_
    refine o_iand (pc' := 22) X1 hx (hb hby at_21)  rfl ?_
    refine o_istore (pc' := 24) (l' := #[.val (.int x0), .val (.int x1), .val (.int x2), .val (.int x3), .val (.int (1 : Int32)), .val (.int (x0 &&& (127 : Int32))), .val (.ref b1), .unset, .unset, .unset, .unset, .unset, .unset, .unset, .unset]) X1 hx (hb hby at_22) rfl rfl ?_
    have hcm := c_mask x0 127 7 (by decide) (by decide)
    generalize hcp : (x0 &&& (127 : Int32)) = cp at hcm ⊢
    have hc0 : 0 ≤ cp.toInt := by omega
    have hc1 : cp.toInt < 128 := by omega
    have hcn : ¬ cp = -1 := fun q => by rw [q] at hc0; exact absurd hc0 (by decide)
    refine o_aload (pc' := 26) X1 hx (hb hby at_24) rfl rfl rfl ?_
    refine o_iconst (pc' := 27) (v := (0 : Int32)) X1 hx (hb hby at_26) rfl rfl ?_
    refine o_iload (pc' := 29) X1 hx (hb hby at_27) rfl rfl ?_
    obtain ⟨T8, h8_, X8, e8, W8, st8⟩ := o_iastore (x := cp) (j := (0 : Int32)) (Ls := #[.val (.int x0), .val (.int x1), .val (.int x2), .val (.int x3), .val (.int (1 : Int32)), .val (.int cp), .val (.ref b1), .unset, .unset, .unset, .unset, .unset, .unset, .unset, .unset]) (st := []) X1 hx hZ e1 A1 (hb hby at_29) (by decide) (show _ < 4 by decide) rfl
    refine oGo.step (f' := (mkF m 30 #[.val (.int x0), .val (.int x1), .val (.int x2), .val (.int x3), .val (.int (1 : Int32)), .val (.int cp), .val (.ref b1), .unset, .unset, .unset, .unset, .unset, .unset, .unset, .unset] [])) st8 ?_
    have N8 := Fr.snoc X8 N0 ge2
    have F9 := A1.set W8
    replace F9 : oInts Z h8_ b1 [cp, (0 : Int32), (0 : Int32), (0 : Int32)] := F9
    have K10 := Keep.of_wr W8
    have F11 := F4.keep K10 (allS ge2 all0)
    have Z14 := Nat.le_trans Z7 K10.1
    refine o_goto (pc' := 196) X8 hx (hb hby at_30) (by decide) (by decide) ?_
    refine o_iload (pc' := 198) X8 hx (hb hby at_196) rfl rfl ?_
    refine o_iconst (pc' := 199) (v := (1 : Int32)) X8 hx (hb hby at_198) rfl rfl ?_
    refine o_icmpF (pc' := 202) X8 hx (hb hby at_199) (XT.ii_ne_f (by decide)) rfl ?_
    refine o_iconst (pc' := 203) (v := (0 : Int32)) X8 hx (hb hby at_202) rfl rfl ?_
    refine o_goto (pc' := 232) X8 hx (hb hby at_203) (by decide) (by decide) ?_
    refine o_istore (pc' := 234) (l' := #[.val (.int x0), .val (.int x1), .val (.int x2), .val (.int x3), .val (.int (1 : Int32)), .val (.int cp), .val (.ref b1), .val (.int (0 : Int32)), .unset, .unset, .unset, .unset, .unset, .unset, .unset]) X8 hx (hb hby at_232) rfl rfl ?_
    refine o_iload (pc' := 236) X8 hx (hb hby at_234) rfl rfl ?_
    refine o_iload (pc' := 238) X8 hx (hb hby at_236) rfl rfl ?_
    have J16 : ∀ (v20 : Int32), v20 = (if cp < (0 : Int32) then (0 : Int32) else (if (1114111 : Int32) < cp then (0 : Int32) else (if cp < (55296 : Int32) then (1 : Int32) else (if (57343 : Int32) < cp then (1 : Int32) else (0 : Int32))))) → oGo p e below (oG s (fun v h L => v = some (.int 1) ∧ Fr n0 L) room_1.cells room_1.slots) T8 (mkF m 267 #[.val (.int x0), .val (.int x1), .val (.int x2), .val (.int x3), .val (.int (1 : Int32)), .val (.int cp), .val (.ref b1), .val (.int (0 : Int32)), .unset, .unset, .unset, .unset, .unset, .unset, .unset] [(.int v20)]) := by
      intro v20 hv20
      refine o_istore (pc' := 269) (l' := #[.val (.int x0), .val (.int x1), .val (.int x2), .val (.int x3), .val (.int (1 : Int32)), .val (.int cp), .val (.ref b1), .val (.int (0 : Int32)), .val (.int v20), .unset, .unset, .unset, .unset, .unset, .unset]) X8 hx (hb hby at_267) rfl rfl ?_
      have hval := own_valid (g := 0) rfl hv20
      refine o_iload (pc' := 271) X8 hx (hb hby at_269) rfl rfl ?_
      refine o_iconst (pc' := 272) (v := (1 : Int32)) X8 hx (hb hby at_271) rfl rfl ?_
      refine o_iloadN (pc' := 273) X8 hx (hb hby at_272) rfl rfl ?_
      refine o_iconst (pc' := 274) (v := (3 : Int32)) X8 hx (hb hby at_273) rfl rfl ?_
      refine o_iand (pc' := 275) X8 hx (hb hby at_274)  rfl ?_
      refine o_iadd (pc' := 276) X8 hx (hb hby at_275)  rfl ?_
      obtain ⟨r21, T21, L21, X21, hq21, st21⟩ := o_callS X8 hx hZ hown (hw _ (List.mem_of_getElem? (i := 3) rfl)) (hw _ (List.mem_of_getElem? (i := 4) rfl)) (hw _ (List.mem_of_getElem? (i := 5) rfl)) (hw _ (List.mem_of_getElem? (i := 6) rfl)) (by decide) (rm1 l Z a0 hw (1 : Int32) ((1 : Int32) + (x2 &&& (3 : Int32)))  h8_ n0 Z14 ) e8 (pc' := 279) (Ls := #[.val (.int x0), .val (.int x1), .val (.int x2), .val (.int x3), .val (.int (1 : Int32)), .val (.int cp), .val (.ref b1), .val (.int (0 : Int32)), .val (.int v20), .unset, .unset, .unset, .unset, .unset, .unset]) (by rw [hml]; rfl) [(.int (1 : Int32)), (.int ((1 : Int32) + (x2 &&& (3 : Int32))))] [] rfl pd1 rfl rfl 0 (Nat.le_of_eq rfl) (hb hby at_276) rfl (by decide) (by decide) (by decide) (by decide)
      obtain ⟨rfl, rfl, Kc21⟩ := hq21
      obtain ⟨y22, hy22⟩ : ∃ z, z = (spec1 (1 : Int32) ((1 : Int32) + (x2 &&& (3 : Int32)))) := ⟨_, rfl⟩
      rw [← hy22] at st21
      refine oGo.step (f' := (mkF m 279 #[.val (.int x0), .val (.int x1), .val (.int x2), .val (.int x3), .val (.int (1 : Int32)), .val (.int cp), .val (.ref b1), .val (.int (0 : Int32)), .val (.int v20), .unset, .unset, .unset, .unset, .unset, .unset] [(.int y22)])) st21 ?_
      have e21 : T21.heap = h8_ := Kc21
      have X21 := o_same X21 rfl rfl
      refine o_istore (pc' := 281) (l' := #[.val (.int x0), .val (.int x1), .val (.int x2), .val (.int x3), .val (.int (1 : Int32)), .val (.int cp), .val (.ref b1), .val (.int (0 : Int32)), .val (.int v20), .val (.int y22), .unset, .unset, .unset, .unset, .unset]) X21 hx (hb hby at_279) rfl rfl ?_
      obtain rfl := (show y22 = (1 : Int32) by rw [hy22]; exact own_k1 x2)
      obtain ⟨T23, h23_, X23, e23, E23, A23, D23, -, st23⟩ := newO X21 hx hZ hown (hw _ (List.mem_of_getElem? (i := 7) rfl)) (hw _ (List.mem_of_getElem? (i := 8) rfl)) (hw _ (List.mem_of_getElem? (i := 9) rfl)) e21 (g := (mkF m 281 #[.val (.int x0), .val (.int x1), .val (.int x2), .val (.int x3), .val (.int (1 : Int32)), .val (.int cp), .val (.ref b1), .val (.int (0 : Int32)), .val (.int v20), .val (.int (1 : Int32)), .unset, .unset, .unset, .unset, .unset] [])) rfl (hb hby at_281) (by decide) (by decide)
      obtain ⟨b23, g23⟩ : ∃ z, z = h8_.size := ⟨_, rfl⟩
      rw [← g23] at A23 D23 st23
      have ne24 : b1 ≠ b23 := by rw [g23]; exact Nat.ne_of_lt F9.lt
      have ge25 : n0 ≤ b23 := by rw [g23]; exact Z14
      have K26 := (Keep.refl h8_ []).ext E23
      have F27 := F11.keep K26 all0
      have F30 := F9.keep K26 nin0
      have Z31 := Nat.le_trans Z14 K26.1
      have F32 : Fld Z h23_ b23 "com/example/harborlog/harborlog/Utf8Decoder" "lacking" "I" (.int (0 : Int32)) := D23 (Or.inl (hw _ (List.mem_of_getElem? (i := 26) rfl))) (ty := .int) (by decide)
      have F33 : Fld Z h23_ b23 "com/example/harborlog/harborlog/Utf8Decoder" "malformed" "Z" (.int (0 : Int32)) := D23 (Or.inl (hw _ (List.mem_of_getElem? (i := 28) rfl))) (ty := .boolean) (by decide)
      have F34 : Fld Z h23_ b23 "com/example/harborlog/harborlog/Utf8Decoder" "given" "I" (.int (0 : Int32)) := D23 (Or.inl (hw _ (List.mem_of_getElem? (i := 30) rfl))) (ty := .int) (by decide)
      have F35 : Fld Z h23_ b23 "com/example/harborlog/harborlog/Utf8Decoder" "codePoint" "I" (.int (0 : Int32)) := D23 (Or.inl (hw _ (List.mem_of_getElem? (i := 32) rfl))) (ty := .int) (by decide)
      refine oGo.step (f' := (mkF m 284 #[.val (.int x0), .val (.int x1), .val (.int x2), .val (.int x3), .val (.int (1 : Int32)), .val (.int cp), .val (.ref b1), .val (.int (0 : Int32)), .val (.int v20), .val (.int (1 : Int32)), .unset, .unset, .unset, .unset, .unset] [(.ref b23)])) st23 ?_
      refine o_dup (pc' := 285) X23 hx (hb hby at_284) rfl rfl ?_
      obtain ⟨r36, T36, L36, X36, hq36, st36⟩ := o_callN X23 hx hZ hown rfl (hw _ (List.mem_of_getElem? (i := 10) rfl)) (hw _ (List.mem_of_getElem? (i := 11) rfl)) (hw _ (List.mem_of_getElem? (i := 9) rfl)) (hw _ (List.mem_of_getElem? (i := 12) rfl)) (by decide) (rm2 l Z a0 hw b23 h23_ n0 Z31 ) e23 (pc' := 288) (Ls := #[.val (.int x0), .val (.int x1), .val (.int x2), .val (.int x3), .val (.int (1 : Int32)), .val (.int cp), .val (.ref b1), .val (.int (0 : Int32)), .val (.int v20), .val (.int (1 : Int32)), .unset, .unset, .unset, .unset, .unset]) (by rw [hml]; rfl) [] [(.ref b23)] rfl pd2 rfl rfl 1 (Nat.le_of_eq rfl) (hb hby at_285) rfl (by decide) (by decide) (by decide) (by decide)
      obtain ⟨rfl, rfl, Kc36⟩ := hq36
      refine oGo.step (f' := (mkF m 288 #[.val (.int x0), .val (.int x1), .val (.int x2), .val (.int x3), .val (.int (1 : Int32)), .val (.int cp), .val (.ref b1), .val (.int (0 : Int32)), .val (.int v20), .val (.int (1 : Int32)), .unset, .unset, .unset, .unset, .unset] [(.ref b23)])) st36 ?_
      have e36 : T36.heap = h23_ := Kc36
      have X36 := o_same X36 rfl rfl
      refine o_astore (pc' := 290) (l' := #[.val (.int x0), .val (.int x1), .val (.int x2), .val (.int x3), .val (.int (1 : Int32)), .val (.int cp), .val (.ref b1), .val (.int (0 : Int32)), .val (.int v20), .val (.int (1 : Int32)), .val (.ref b23), .unset, .unset, .unset, .unset]) X36 hx (hb hby at_288) rfl rfl rfl ?_
      refine o_aload (pc' := 292) X36 hx (hb hby at_290) rfl rfl rfl ?_
      refine o_aload (pc' := 294) X36 hx (hb hby at_292) rfl rfl rfl ?_
      refine o_iconst (pc' := 295) (v := (0 : Int32)) X36 hx (hb hby at_294) rfl rfl ?_
      refine o_iaload (pc' := 296) (v := cp) X36 hx hZ e36 F30 (hb hby at_295) (by decide) rfl rfl ?_
      refine o_iconst (pc' := 297) (v := (0 : Int32)) X36 hx (hb hby at_296) rfl rfl ?_
      refine o_iload (pc' := 299) X36 hx (hb hby at_297) rfl rfl ?_
      refine o_iload (pc' := 301) X36 hx (hb hby at_299) rfl rfl ?_
      refine o_iload (pc' := 303) X36 hx (hb hby at_301) rfl rfl ?_
      obtain ⟨r37, T37, L37, X37, hq37, st37⟩ := o_callS X36 hx hZ hown (hw _ (List.mem_of_getElem? (i := 16) rfl)) (hw _ (List.mem_of_getElem? (i := 17) rfl)) (hw _ (List.mem_of_getElem? (i := 18) rfl)) (hw _ (List.mem_of_getElem? (i := 19) rfl)) (by decide) (rm4 l Z a0 hw b23 cp (0 : Int32) (1 : Int32) cp v20 (0 : Int32) (0 : Int32) (0 : Int32) (0 : Int32) r_LEAST h23_ n0 Z31 A23 F35 F32 F34 F33 ge25 own_inv0 F27 S_LEAST A_LEAST) e36 (pc' := 306) (Ls := #[.val (.int x0), .val (.int x1), .val (.int x2), .val (.int x3), .val (.int (1 : Int32)), .val (.int cp), .val (.ref b1), .val (.int (0 : Int32)), .val (.int v20), .val (.int (1 : Int32)), .val (.ref b23), .unset, .unset, .unset, .unset]) (by rw [hml]; rfl) [(.ref b23), (.int cp), (.int (0 : Int32)), (.int (1 : Int32)), (.int cp), (.int v20)] [] rfl pd3 rfl rfl 0 (Nat.le_of_eq rfl) (hb hby at_303) rfl (by decide) (by decide) (by decide) (by decide)
      obtain ⟨rfl, N37, Kc37, E37_, F37_codePoint, F37_lacking, F37_given, F37_malformed⟩ := hq37
      obtain ⟨y38, hy38⟩ : ∃ z, z = (spec4 cp (0 : Int32) (1 : Int32) cp v20 (0 : Int32) (0 : Int32) (0 : Int32)) := ⟨_, rfl⟩
      rw [← hy38] at st37
      refine oGo.step (f' := (mkF m 306 #[.val (.int x0), .val (.int x1), .val (.int x2), .val (.int x3), .val (.int (1 : Int32)), .val (.int cp), .val (.ref b1), .val (.int (0 : Int32)), .val (.int v20), .val (.int (1 : Int32)), .val (.ref b23), .unset, .unset, .unset, .unset] [(.int y38)])) st37 ?_
      have N37_ := Fr.app N8 N37
      have K39 := Kc37
      have F40 := F27.keep K39 (allS ge25 all0)
      have F43 := F30.keep K39 (ninS ne24 nin0)
      have F44 := A23.keep K39
      have Z50 := Nat.le_trans Z31 K39.1
      obtain ⟨y51, hy51⟩ : ∃ z, z = (fld5_codePoint cp (0 : Int32) (0 : Int32)) := ⟨_, rfl⟩
      rw [← hy51] at F37_codePoint
      obtain ⟨y52, hy52⟩ : ∃ z, z = (fld5_lacking cp (0 : Int32)) := ⟨_, rfl⟩
      rw [← hy52] at F37_lacking
      obtain ⟨y53, hy53⟩ : ∃ z, z = (fld5_given cp (0 : Int32) (0 : Int32)) := ⟨_, rfl⟩
      rw [← hy53] at F37_given
      obtain ⟨y54, hy54⟩ : ∃ z, z = (fld5_malformed cp (0 : Int32) (0 : Int32) (0 : Int32) (0 : Int32)) := ⟨_, rfl⟩
      rw [← hy54] at F37_malformed
      have hI37 : oInv y52 y53 y54 := by rw [hy52, hy53, hy54]; exact own_inv_next (0 : Int32) cp own_inv0
      have X37 := o_flat X37 rfl rfl
      have hS0 := st_one (vl := v20) hc0 (by omega) hval
      rw [← hy38, ← hy52, ← hy53, ← hy54] at hS0
      obtain ⟨q1, q2, q3, hzz⟩ := hS0
      subst q1 q2 q3
      refine o_istore (pc' := 308) (l' := #[.val (.int x0), .val (.int x1), .val (.int x2), .val (.int x3), .val (.int (1 : Int32)), .val (.int cp), .val (.ref b1), .val (.int (0 : Int32)), .val (.int v20), .val (.int (1 : Int32)), .val (.ref b23), .val (.int (1 : Int32)), .unset, .unset, .unset]) X37 hx (hb hby at_306) rfl rfl ?_
      refine o_iload (pc' := 310) X37 hx (hb hby at_308) rfl rfl ?_
      refine o_iconst (pc' := 311) (v := (1 : Int32)) X37 hx (hb hby at_310) rfl rfl ?_
      refine o_icmpT (pc' := 335) X37 hx (hb hby at_311) (XT.ii_le_t (by decide)) (by decide) (by decide) ?_
      refine o_iload (pc' := 337) X37 hx (hb hby at_335) rfl rfl ?_
      refine o_iconst (pc' := 338) (v := (2 : Int32)) X37 hx (hb hby at_337) rfl rfl ?_
      refine o_icmpT (pc' := 362) X37 hx (hb hby at_338) (XT.ii_le_t (by decide)) (by decide) (by decide) ?_
      refine o_iload (pc' := 364) X37 hx (hb hby at_362) rfl rfl ?_
      refine o_iconst (pc' := 365) (v := (3 : Int32)) X37 hx (hb hby at_364) rfl rfl ?_
      refine o_icmpT (pc' := 389) X37 hx (hb hby at_365) (XT.ii_le_t (by decide)) (by decide) (by decide) ?_
      refine o_iload (pc' := 391) X37 hx (hb hby at_389) rfl rfl ?_
      refine o_iload (pc' := 393) X37 hx (hb hby at_391) rfl rfl ?_
      refine o_icmpF (pc' := 396) X37 hx (hb hby at_393) (XT.ii_ne_f (by decide)) rfl ?_
      refine o_iconst (pc' := 397) (v := (1 : Int32)) X37 hx (hb hby at_396) rfl rfl ?_
      refine o_goto (pc' := 401) X37 hx (hb hby at_397) (by decide) (by decide) ?_
      refine o_istore (pc' := 403) (l' := #[.val (.int x0), .val (.int x1), .val (.int x2), .val (.int x3), .val (.int (1 : Int32)), .val (.int cp), .val (.ref b1), .val (.int (0 : Int32)), .val (.int v20), .val (.int (1 : Int32)), .val (.ref b23), .val (.int (1 : Int32)), .val (.int (1 : Int32)), .unset, .unset]) X37 hx (hb hby at_401) rfl rfl ?_
      refine o_iload (pc' := 405) X37 hx (hb hby at_403) rfl rfl ?_
      refine o_aload (pc' := 407) X37 hx (hb hby at_405) rfl rfl rfl ?_
      obtain ⟨r55, T55, L55, X55, hq55, st55⟩ := o_callV X37 hx hZ hown (hw _ (List.mem_of_getElem? (i := 33) rfl)) (hw _ (List.mem_of_getElem? (i := 34) rfl)) (hw _ (List.mem_of_getElem? (i := 36) rfl)) (hw _ (List.mem_of_getElem? (i := 35) rfl)) (hw _ (List.mem_of_getElem? (i := 9) rfl)) (hw _ (List.mem_of_getElem? (i := 37) rfl)) (by decide) E37_ (rm6 l Z a0 hw b23 (0 : Int32) T37.heap n0 Z50 E37_ F37_given) (rfl : T37.heap = _) (pc' := 410) (Ls := #[.val (.int x0), .val (.int x1), .val (.int x2), .val (.int x3), .val (.int (1 : Int32)), .val (.int cp), .val (.ref b1), .val (.int (0 : Int32)), .val (.int v20), .val (.int (1 : Int32)), .val (.ref b23), .val (.int (1 : Int32)), .val (.int (1 : Int32)), .unset, .unset]) (by rw [hml]; rfl) [] [(.int (1 : Int32))] rfl pd4 rfl rfl 1 (Nat.le_of_eq rfl) (hb hby at_407) rfl (by decide) (by decide) (by decide) (by decide)
      obtain ⟨rfl, rfl, Kc55⟩ := hq55
      refine oGo.step (f' := (mkF m 410 #[.val (.int x0), .val (.int x1), .val (.int x2), .val (.int x3), .val (.int (1 : Int32)), .val (.int cp), .val (.ref b1), .val (.int (0 : Int32)), .val (.int v20), .val (.int (1 : Int32)), .val (.ref b23), .val (.int (1 : Int32)), .val (.int (1 : Int32)), .unset, .unset] [(.int (0 : Int32)), (.int (1 : Int32))])) st55 ?_
      have e55 : T55.heap = T37.heap := Kc55
      have X55 := o_same X55 rfl rfl
      refine o_iload (pc' := 412) X55 hx (hb hby at_410) rfl rfl ?_
      refine o_ifF (pc' := 415) X55 hx (hb hby at_412) (XT.i0_eq_f (by decide)) rfl ?_
      refine o_iconst (pc' := 416) (v := (0 : Int32)) X55 hx (hb hby at_415) rfl rfl ?_
      refine o_goto (pc' := 421) X55 hx (hb hby at_416) (by decide) (by decide) ?_
      refine o_icmpF (pc' := 424) X55 hx (hb hby at_421) (XT.ii_ne_f (by decide)) rfl ?_
      refine o_iconst (pc' := 425) (v := (1 : Int32)) X55 hx (hb hby at_424) rfl rfl ?_
      refine o_goto (pc' := 429) X55 hx (hb hby at_425) (by decide) (by decide) ?_
      refine o_iand (pc' := 430) X55 hx (hb hby at_429)  rfl ?_
      rw [show ((1 : Int32) &&& (1 : Int32)) = (1 : Int32) from by decide]
      refine o_istore (pc' := 432) (l' := #[.val (.int x0), .val (.int x1), .val (.int x2), .val (.int x3), .val (.int (1 : Int32)), .val (.int cp), .val (.ref b1), .val (.int (0 : Int32)), .val (.int v20), .val (.int (1 : Int32)), .val (.ref b23), .val (.int (1 : Int32)), .val (.int (1 : Int32)), .unset, .unset]) X55 hx (hb hby at_430) rfl rfl ?_
      refine o_iloadN (pc' := 433) X55 hx (hb hby at_432) rfl rfl ?_
      refine o_bipush (pc' := 435) (v := (8 : Int32)) X55 hx (hb hby at_433) rfl rfl ?_
      refine o_iushr (pc' := 436) X55 hx (hb hby at_435)  rfl ?_
      refine o_iconst (pc' := 437) (v := (1 : Int32)) X55 hx (hb hby at_436) rfl rfl ?_
      refine o_iand (pc' := 438) X55 hx (hb hby at_437)  rfl ?_
      by_cases c56 : ((XT.ushr x3 (8 : Int32)) &&& (1 : Int32)) = 0
      · refine o_ifT (pc' := 573) X55 hx (hb hby at_438) (XT.i0_eq_t c56) (by decide) (by decide) ?_
        refine o_iload (pc' := 575) X55 hx (hb hby at_573) rfl rfl ?_
        refine o_ifF (pc' := 578) X55 hx (hb hby at_575) (XT.i0_eq_f (by decide)) rfl ?_
        refine o_iload (pc' := 580) X55 hx (hb hby at_578) rfl rfl ?_
        have J58 : ∀ (v59 : Int32), v59 = (if v20 = 0 then (0 : Int32) else (1 : Int32)) → oGo p e below (oG s (fun v h L => v = some (.int 1) ∧ Fr n0 L) room_1.cells room_1.slots) T55 (mkF m 588 #[.val (.int x0), .val (.int x1), .val (.int x2), .val (.int x3), .val (.int (1 : Int32)), .val (.int cp), .val (.ref b1), .val (.int (0 : Int32)), .val (.int v20), .val (.int (1 : Int32)), .val (.ref b23), .val (.int (1 : Int32)), .val (.int (1 : Int32)), .unset, .unset] [(.int v59)]) := by
          intro v59 hv59
          refine o_istore (pc' := 590) (l' := #[.val (.int x0), .val (.int x1), .val (.int x2), .val (.int x3), .val (.int (1 : Int32)), .val (.int cp), .val (.ref b1), .val (.int (0 : Int32)), .val (.int v20), .val (.int (1 : Int32)), .val (.ref b23), .val (.int (1 : Int32)), .val (.int (1 : Int32)), .val (.int v59), .unset]) X55 hx (hb hby at_588) rfl rfl ?_
          refine o_iload (pc' := 592) X55 hx (hb hby at_590) rfl rfl ?_
          refine o_aload (pc' := 594) X55 hx (hb hby at_592) rfl rfl rfl ?_
          obtain ⟨r60, T60, L60, X60, hq60, st60⟩ := o_callV X55 hx hZ hown (hw _ (List.mem_of_getElem? (i := 38) rfl)) (hw _ (List.mem_of_getElem? (i := 39) rfl)) (hw _ (List.mem_of_getElem? (i := 41) rfl)) (hw _ (List.mem_of_getElem? (i := 40) rfl)) (hw _ (List.mem_of_getElem? (i := 9) rfl)) (hw _ (List.mem_of_getElem? (i := 42) rfl)) (by decide) E37_ (rm7 l Z a0 hw b23 y51 (0 : Int32) (0 : Int32) y54 T37.heap n0 Z50 E37_ F37_codePoint F37_lacking F37_given F37_malformed ge25) e55 (pc' := 597) (Ls := #[.val (.int x0), .val (.int x1), .val (.int x2), .val (.int x3), .val (.int (1 : Int32)), .val (.int cp), .val (.ref b1), .val (.int (0 : Int32)), .val (.int v20), .val (.int (1 : Int32)), .val (.ref b23), .val (.int (1 : Int32)), .val (.int (1 : Int32)), .val (.int v59), .unset]) (by rw [hml]; rfl) [] [(.int (1 : Int32))] rfl pd5 rfl rfl 1 (Nat.le_of_eq rfl) (hb hby at_594) rfl (by decide) (by decide) (by decide) (by decide)
          obtain ⟨rfl, N60, Kc60, E60_, F60_codePoint, F60_lacking, F60_given, F60_malformed⟩ := hq60
          obtain ⟨y61, hy61⟩ : ∃ z, z = (spec7 (0 : Int32) y54) := ⟨_, rfl⟩
          rw [← hy61] at st60
          refine oGo.step (f' := (mkF m 597 #[.val (.int x0), .val (.int x1), .val (.int x2), .val (.int x3), .val (.int (1 : Int32)), .val (.int cp), .val (.ref b1), .val (.int (0 : Int32)), .val (.int v20), .val (.int (1 : Int32)), .val (.ref b23), .val (.int (1 : Int32)), .val (.int (1 : Int32)), .val (.int v59), .unset] [(.int y61), (.int (1 : Int32))])) st60 ?_
          have N60_ := Fr.app N37_ N60
          have K62 := Kc60
          have F63 := F40.keep K62 (allS ge25 all0)
          have F66 := F43.keep K62 (ninS ne24 nin0)
          have F67 := E37_.keep K62
          have Z73 := Nat.le_trans Z50 K62.1
          have X60 := o_flat X60 rfl rfl
          have hE : y61 = v59 := by rw [hy61, hv59, hzz, hval]; split <;> rfl
          refine o_iload (pc' := 599) X60 hx (hb hby at_597) rfl rfl ?_
          refine o_icmpF (pc' := 602) X60 hx (hb hby at_599) (XT.ii_ne_f hE) rfl ?_
          refine o_iconst (pc' := 603) (v := (1 : Int32)) X60 hx (hb hby at_602) rfl rfl ?_
          refine o_goto (pc' := 607) X60 hx (hb hby at_603) (by decide) (by decide) ?_
          refine o_iand (pc' := 608) X60 hx (hb hby at_607)  rfl ?_
          rw [show ((1 : Int32) &&& (1 : Int32)) = (1 : Int32) from by decide]
          refine o_istore (pc' := 610) (l' := #[.val (.int x0), .val (.int x1), .val (.int x2), .val (.int x3), .val (.int (1 : Int32)), .val (.int cp), .val (.ref b1), .val (.int (0 : Int32)), .val (.int v20), .val (.int (1 : Int32)), .val (.ref b23), .val (.int (1 : Int32)), .val (.int (1 : Int32)), .val (.int v59), .unset]) X60 hx (hb hby at_608) rfl rfl ?_
          refine o_iload (pc' := 612) X60 hx (hb hby at_610) rfl rfl ?_
          refine o_retZ X60 hx hret hlk (hb hby at_612) (by decide) (by decide) (by decide) ?_
          exact ⟨rfl, N60_⟩
        by_cases c57 : v20 = 0
        · refine o_ifT (pc' := 587) X55 hx (hb hby at_580) (XT.i0_eq_t c57) (by decide) (by decide) ?_
          refine o_iconst (pc' := 588) (v := (0 : Int32)) X55 hx (hb hby at_587) rfl rfl ?_
          exact J58 _ (if_pos c57).symm
        · refine o_ifF (pc' := 583) X55 hx (hb hby at_580) (XT.i0_eq_f c57) rfl ?_
          refine o_iconst (pc' := 584) (v := (1 : Int32)) X55 hx (hb hby at_583) rfl rfl ?_
          refine o_goto (pc' := 588) X55 hx (hb hby at_584) (by decide) (by decide) ?_
          exact J58 _ (if_neg c57).symm
      · refine o_ifF (pc' := 441) X55 hx (hb hby at_438) (XT.i0_eq_f c56) rfl ?_
        refine o_iloadN (pc' := 442) X55 hx (hb hby at_441) rfl rfl ?_
        refine o_sipush (pc' := 445) (v := (255 : Int32)) X55 hx (hb hby at_442) rfl rfl ?_
        refine o_iand (pc' := 446) X55 hx (hb hby at_445)  rfl ?_
        refine o_istore (pc' := 448) (l' := #[.val (.int x0), .val (.int x1), .val (.int x2), .val (.int x3), .val (.int (1 : Int32)), .val (.int cp), .val (.ref b1), .val (.int (0 : Int32)), .val (.int v20), .val (.int (1 : Int32)), .val (.ref b23), .val (.int (1 : Int32)), .val (.int (1 : Int32)), .unset, .val (.int (x3 &&& (255 : Int32)))]) X55 hx (hb hby at_446) rfl rfl ?_
        refine o_iload (pc' := 450) X55 hx (hb hby at_448) rfl rfl ?_
        refine o_ifT (pc' := 472) X55 hx (hb hby at_450) (XT.i0_ne_t (by decide)) (by decide) (by decide) ?_
        refine o_iload (pc' := 474) X55 hx (hb hby at_472) rfl rfl ?_
        refine o_aload (pc' := 476) X55 hx (hb hby at_474) rfl rfl rfl ?_
        refine o_iload (pc' := 478) X55 hx (hb hby at_476) rfl rfl ?_
        have htB := own_m255 x3
        obtain ⟨r74, T74, L74, X74, hq74, st74⟩ := o_callV X55 hx hZ hown (hw _ (List.mem_of_getElem? (i := 20) rfl)) (hw _ (List.mem_of_getElem? (i := 21) rfl)) (hw _ (List.mem_of_getElem? (i := 23) rfl)) (hw _ (List.mem_of_getElem? (i := 22) rfl)) (hw _ (List.mem_of_getElem? (i := 9) rfl)) (hw _ (List.mem_of_getElem? (i := 24) rfl)) (by decide) E37_ (rm5 l Z a0 hw b23 (x3 &&& (255 : Int32)) y51 (0 : Int32) (0 : Int32) y54 r_LEAST T37.heap n0 Z50 E37_ F37_codePoint F37_lacking F37_given F37_malformed ge25 hI37 F40 S_LEAST A_LEAST) e55 (pc' := 481) (Ls := #[.val (.int x0), .val (.int x1), .val (.int x2), .val (.int x3), .val (.int (1 : Int32)), .val (.int cp), .val (.ref b1), .val (.int (0 : Int32)), .val (.int v20), .val (.int (1 : Int32)), .val (.ref b23), .val (.int (1 : Int32)), .val (.int (1 : Int32)), .unset, .val (.int (x3 &&& (255 : Int32)))]) (by rw [hml]; rfl) [(.int (x3 &&& (255 : Int32)))] [(.int (1 : Int32))] rfl pd0 rfl rfl 1 (Nat.le_of_eq rfl) (hb hby at_478) rfl (by decide) (by decide) (by decide) (by decide)
        obtain ⟨rfl, N74, Kc74, E74_, F74_codePoint, F74_lacking, F74_given, F74_malformed⟩ := hq74
        obtain ⟨y75, hy75⟩ : ∃ z, z = (spec5 (x3 &&& (255 : Int32)) y51 (0 : Int32) (0 : Int32)) := ⟨_, rfl⟩
        rw [← hy75] at st74
        refine oGo.step (f' := (mkF m 481 #[.val (.int x0), .val (.int x1), .val (.int x2), .val (.int x3), .val (.int (1 : Int32)), .val (.int cp), .val (.ref b1), .val (.int (0 : Int32)), .val (.int v20), .val (.int (1 : Int32)), .val (.ref b23), .val (.int (1 : Int32)), .val (.int (1 : Int32)), .unset, .val (.int (x3 &&& (255 : Int32)))] [(.int y75), (.int (1 : Int32))])) st74 ?_
        have N74_ := Fr.app N37_ N74
        have K76 := Kc74
        have F77 := F40.keep K76 (allS ge25 all0)
        have F80 := F43.keep K76 (ninS ne24 nin0)
        have F81 := E37_.keep K76
        have Z87 := Nat.le_trans Z50 K76.1
        obtain ⟨y88, hy88⟩ : ∃ z, z = (fld5_codePoint (x3 &&& (255 : Int32)) y51 (0 : Int32)) := ⟨_, rfl⟩
        rw [← hy88] at F74_codePoint
        obtain ⟨y89, hy89⟩ : ∃ z, z = (fld5_lacking (x3 &&& (255 : Int32)) (0 : Int32)) := ⟨_, rfl⟩
        rw [← hy89] at F74_lacking
        obtain ⟨y90, hy90⟩ : ∃ z, z = (fld5_given (x3 &&& (255 : Int32)) (0 : Int32) (0 : Int32)) := ⟨_, rfl⟩
        rw [← hy90] at F74_given
        obtain ⟨y91, hy91⟩ : ∃ z, z = (fld5_malformed (x3 &&& (255 : Int32)) y51 (0 : Int32) (0 : Int32) y54) := ⟨_, rfl⟩
        rw [← hy91] at F74_malformed
        have hI74 : oInv y89 y90 y91 := by rw [hy89, hy90, hy91]; exact own_inv_next y51 (x3 &&& (255 : Int32)) hI37
        have X74 := o_flat X74 rfl rfl
        have hA := nx_any (t := (x3 &&& (255 : Int32))) (cp := y51) (k := (0 : Int32)) (g := (0 : Int32)) (z := y54) (by rw [hzz]; split; exact Or.inl rfl; exact Or.inr rfl) (Or.inl rfl)
        rw [← hy75, ← hy90] at hA
        refine o_iload (pc' := 483) X74 hx (hb hby at_481) rfl rfl ?_
        refine o_sipush (pc' := 486) (v := (128 : Int32)) X74 hx (hb hby at_483) rfl rfl ?_
        have J93 : ∀ (v94 : Int32), v94 = (if (x3 &&& (255 : Int32)) < (128 : Int32) then (x3 &&& (255 : Int32)) else (-1 : Int32)) → oGo p e below (oG s (fun v h L => v = some (.int 1) ∧ Fr n0 L) room_1.cells room_1.slots) T74 (mkF m 495 #[.val (.int x0), .val (.int x1), .val (.int x2), .val (.int x3), .val (.int (1 : Int32)), .val (.int cp), .val (.ref b1), .val (.int (0 : Int32)), .val (.int v20), .val (.int (1 : Int32)), .val (.ref b23), .val (.int (1 : Int32)), .val (.int (1 : Int32)), .unset, .val (.int (x3 &&& (255 : Int32)))] [(.int v94), (.int y75), (.int (1 : Int32))]) := by
          intro v94 hv94
          refine o_icmpF (pc' := 498) X74 hx (hb hby at_495) (XT.ii_ne_f (hA.1.trans hv94.symm)) rfl ?_
          refine o_iconst (pc' := 499) (v := (1 : Int32)) X74 hx (hb hby at_498) rfl rfl ?_
          refine o_goto (pc' := 503) X74 hx (hb hby at_499) (by decide) (by decide) ?_
          refine o_iand (pc' := 504) X74 hx (hb hby at_503)  rfl ?_
          rw [show ((1 : Int32) &&& (1 : Int32)) = (1 : Int32) from by decide]
          refine o_istore (pc' := 506) (l' := #[.val (.int x0), .val (.int x1), .val (.int x2), .val (.int x3), .val (.int (1 : Int32)), .val (.int cp), .val (.ref b1), .val (.int (0 : Int32)), .val (.int v20), .val (.int (1 : Int32)), .val (.ref b23), .val (.int (1 : Int32)), .val (.int (1 : Int32)), .unset, .val (.int (x3 &&& (255 : Int32)))]) X74 hx (hb hby at_504) rfl rfl ?_
          refine o_iload (pc' := 508) X74 hx (hb hby at_506) rfl rfl ?_
          refine o_aload (pc' := 510) X74 hx (hb hby at_508) rfl rfl rfl ?_
          obtain ⟨r95, T95, L95, X95, hq95, st95⟩ := o_callV X74 hx hZ hown (hw _ (List.mem_of_getElem? (i := 33) rfl)) (hw _ (List.mem_of_getElem? (i := 34) rfl)) (hw _ (List.mem_of_getElem? (i := 36) rfl)) (hw _ (List.mem_of_getElem? (i := 35) rfl)) (hw _ (List.mem_of_getElem? (i := 9) rfl)) (hw _ (List.mem_of_getElem? (i := 37) rfl)) (by decide) E74_ (rm6 l Z a0 hw b23 y90 T74.heap n0 Z87 E74_ F74_given) (rfl : T74.heap = _) (pc' := 513) (Ls := #[.val (.int x0), .val (.int x1), .val (.int x2), .val (.int x3), .val (.int (1 : Int32)), .val (.int cp), .val (.ref b1), .val (.int (0 : Int32)), .val (.int v20), .val (.int (1 : Int32)), .val (.ref b23), .val (.int (1 : Int32)), .val (.int (1 : Int32)), .unset, .val (.int (x3 &&& (255 : Int32)))]) (by rw [hml]; rfl) [] [(.int (1 : Int32))] rfl pd4 rfl rfl 1 (Nat.le_of_eq rfl) (hb hby at_510) rfl (by decide) (by decide) (by decide) (by decide)
          obtain ⟨rfl, rfl, Kc95⟩ := hq95
          refine oGo.step (f' := (mkF m 513 #[.val (.int x0), .val (.int x1), .val (.int x2), .val (.int x3), .val (.int (1 : Int32)), .val (.int cp), .val (.ref b1), .val (.int (0 : Int32)), .val (.int v20), .val (.int (1 : Int32)), .val (.ref b23), .val (.int (1 : Int32)), .val (.int (1 : Int32)), .unset, .val (.int (x3 &&& (255 : Int32)))] [(.int y90), (.int (1 : Int32))])) st95 ?_
          have e95 : T95.heap = T74.heap := Kc95
          have X95 := o_same X95 rfl rfl
          refine o_iload (pc' := 515) X95 hx (hb hby at_513) rfl rfl ?_
          refine o_sipush (pc' := 518) (v := (192 : Int32)) X95 hx (hb hby at_515) rfl rfl ?_
          have J97 : ∀ (v99 : Int32), v99 = (if (x3 &&& (255 : Int32)) < (192 : Int32) then (0 : Int32) else (if (247 : Int32) < (x3 &&& (255 : Int32)) then (0 : Int32) else (1 : Int32))) → oGo p e below (oG s (fun v h L => v = some (.int 1) ∧ Fr n0 L) room_1.cells room_1.slots) T95 (mkF m 534 #[.val (.int x0), .val (.int x1), .val (.int x2), .val (.int x3), .val (.int (1 : Int32)), .val (.int cp), .val (.ref b1), .val (.int (0 : Int32)), .val (.int v20), .val (.int (1 : Int32)), .val (.ref b23), .val (.int (1 : Int32)), .val (.int (1 : Int32)), .unset, .val (.int (x3 &&& (255 : Int32)))] [(.int v99), (.int y90), (.int (1 : Int32))]) := by
            intro v99 hv99
            refine o_icmpF (pc' := 537) X95 hx (hb hby at_534) (XT.ii_ne_f (hA.2.trans hv99.symm)) rfl ?_
            refine o_iconst (pc' := 538) (v := (1 : Int32)) X95 hx (hb hby at_537) rfl rfl ?_
            refine o_goto (pc' := 542) X95 hx (hb hby at_538) (by decide) (by decide) ?_
            refine o_iand (pc' := 543) X95 hx (hb hby at_542)  rfl ?_
            rw [show ((1 : Int32) &&& (1 : Int32)) = (1 : Int32) from by decide]
            refine o_istore (pc' := 545) (l' := #[.val (.int x0), .val (.int x1), .val (.int x2), .val (.int x3), .val (.int (1 : Int32)), .val (.int cp), .val (.ref b1), .val (.int (0 : Int32)), .val (.int v20), .val (.int (1 : Int32)), .val (.ref b23), .val (.int (1 : Int32)), .val (.int (1 : Int32)), .unset, .val (.int (x3 &&& (255 : Int32)))]) X95 hx (hb hby at_543) rfl rfl ?_
            refine o_iload (pc' := 547) X95 hx (hb hby at_545) rfl rfl ?_
            refine o_ifF (pc' := 550) X95 hx (hb hby at_547) (XT.i0_eq_f (by decide)) rfl ?_
            refine o_iload (pc' := 552) X95 hx (hb hby at_550) rfl rfl ?_
            have J101 : ∀ (v103 : Int32), v103 = (if v20 = 0 then (0 : Int32) else (if (x3 &&& (255 : Int32)) < (128 : Int32) then (1 : Int32) else (0 : Int32))) → oGo p e below (oG s (fun v h L => v = some (.int 1) ∧ Fr n0 L) room_1.cells room_1.slots) T95 (mkF m 568 #[.val (.int x0), .val (.int x1), .val (.int x2), .val (.int x3), .val (.int (1 : Int32)), .val (.int cp), .val (.ref b1), .val (.int (0 : Int32)), .val (.int v20), .val (.int (1 : Int32)), .val (.ref b23), .val (.int (1 : Int32)), .val (.int (1 : Int32)), .unset, .val (.int (x3 &&& (255 : Int32)))] [(.int v103)]) := by
              intro v103 hv103
              refine o_istore (pc' := 570) (l' := #[.val (.int x0), .val (.int x1), .val (.int x2), .val (.int x3), .val (.int (1 : Int32)), .val (.int cp), .val (.ref b1), .val (.int (0 : Int32)), .val (.int v20), .val (.int (1 : Int32)), .val (.ref b23), .val (.int (1 : Int32)), .val (.int (1 : Int32)), .val (.int v103), .val (.int (x3 &&& (255 : Int32)))]) X95 hx (hb hby at_568) rfl rfl ?_
              refine o_goto (pc' := 590) X95 hx (hb hby at_570) (by decide) (by decide) ?_
              refine o_iload (pc' := 592) X95 hx (hb hby at_590) rfl rfl ?_
              refine o_aload (pc' := 594) X95 hx (hb hby at_592) rfl rfl rfl ?_
              obtain ⟨r104, T104, L104, X104, hq104, st104⟩ := o_callV X95 hx hZ hown (hw _ (List.mem_of_getElem? (i := 38) rfl)) (hw _ (List.mem_of_getElem? (i := 39) rfl)) (hw _ (List.mem_of_getElem? (i := 41) rfl)) (hw _ (List.mem_of_getElem? (i := 40) rfl)) (hw _ (List.mem_of_getElem? (i := 9) rfl)) (hw _ (List.mem_of_getElem? (i := 42) rfl)) (by decide) E74_ (rm7 l Z a0 hw b23 y88 y89 y90 y91 T74.heap n0 Z87 E74_ F74_codePoint F74_lacking F74_given F74_malformed ge25) e95 (pc' := 597) (Ls := #[.val (.int x0), .val (.int x1), .val (.int x2), .val (.int x3), .val (.int (1 : Int32)), .val (.int cp), .val (.ref b1), .val (.int (0 : Int32)), .val (.int v20), .val (.int (1 : Int32)), .val (.ref b23), .val (.int (1 : Int32)), .val (.int (1 : Int32)), .val (.int v103), .val (.int (x3 &&& (255 : Int32)))]) (by rw [hml]; rfl) [] [(.int (1 : Int32))] rfl pd5 rfl rfl 1 (Nat.le_of_eq rfl) (hb hby at_594) rfl (by decide) (by decide) (by decide) (by decide)
              obtain ⟨rfl, N104, Kc104, E104_, F104_codePoint, F104_lacking, F104_given, F104_malformed⟩ := hq104
              obtain ⟨y105, hy105⟩ : ∃ z, z = (spec7 y89 y91) := ⟨_, rfl⟩
              rw [← hy105] at st104
              refine oGo.step (f' := (mkF m 597 #[.val (.int x0), .val (.int x1), .val (.int x2), .val (.int x3), .val (.int (1 : Int32)), .val (.int cp), .val (.ref b1), .val (.int (0 : Int32)), .val (.int v20), .val (.int (1 : Int32)), .val (.ref b23), .val (.int (1 : Int32)), .val (.int (1 : Int32)), .val (.int v103), .val (.int (x3 &&& (255 : Int32)))] [(.int y105), (.int (1 : Int32))])) st104 ?_
              have N104_ := Fr.app N74_ N104
              have K106 := Kc104
              have F107 := F77.keep K106 (allS ge25 all0)
              have F110 := F80.keep K106 (ninS ne24 nin0)
              have F111 := E74_.keep K106
              have Z117 := Nat.le_trans Z87 K106.1
              have X104 := o_flat X104 rfl rfl
              have hE : y105 = v103 := by rw [hy105, hy89, hy91]; rw [hv103]; exact end_whole hzz hval
              refine o_iload (pc' := 599) X104 hx (hb hby at_597) rfl rfl ?_
              refine o_icmpF (pc' := 602) X104 hx (hb hby at_599) (XT.ii_ne_f hE) rfl ?_
              refine o_iconst (pc' := 603) (v := (1 : Int32)) X104 hx (hb hby at_602) rfl rfl ?_
              refine o_goto (pc' := 607) X104 hx (hb hby at_603) (by decide) (by decide) ?_
              refine o_iand (pc' := 608) X104 hx (hb hby at_607)  rfl ?_
              rw [show ((1 : Int32) &&& (1 : Int32)) = (1 : Int32) from by decide]
              refine o_istore (pc' := 610) (l' := #[.val (.int x0), .val (.int x1), .val (.int x2), .val (.int x3), .val (.int (1 : Int32)), .val (.int cp), .val (.ref b1), .val (.int (0 : Int32)), .val (.int v20), .val (.int (1 : Int32)), .val (.ref b23), .val (.int (1 : Int32)), .val (.int (1 : Int32)), .val (.int v103), .val (.int (x3 &&& (255 : Int32)))]) X104 hx (hb hby at_608) rfl rfl ?_
              refine o_iload (pc' := 612) X104 hx (hb hby at_610) rfl rfl ?_
              refine o_retZ X104 hx hret hlk (hb hby at_612) (by decide) (by decide) (by decide) ?_
              exact ⟨rfl, N104_⟩
            by_cases c100 : v20 = 0
            · refine o_ifT (pc' := 567) X95 hx (hb hby at_552) (XT.i0_eq_t c100) (by decide) (by decide) ?_
              refine o_iconst (pc' := 568) (v := (0 : Int32)) X95 hx (hb hby at_567) rfl rfl ?_
              exact J101 _ (if_pos c100).symm
            · refine o_ifF (pc' := 555) X95 hx (hb hby at_552) (XT.i0_eq_f c100) rfl ?_
              refine o_iload (pc' := 557) X95 hx (hb hby at_555) rfl rfl ?_
              refine o_sipush (pc' := 560) (v := (128 : Int32)) X95 hx (hb hby at_557) rfl rfl ?_
              by_cases c102 : (x3 &&& (255 : Int32)) < (128 : Int32)
              · refine o_icmpF (pc' := 563) X95 hx (hb hby at_560) (XT.ii_ge_f c102) rfl ?_
                refine o_iconst (pc' := 564) (v := (1 : Int32)) X95 hx (hb hby at_563) rfl rfl ?_
                refine o_goto (pc' := 568) X95 hx (hb hby at_564) (by decide) (by decide) ?_
                exact J101 _ ((if_neg c100).trans (if_pos c102)).symm
              · refine o_icmpT (pc' := 567) X95 hx (hb hby at_560) (XT.ii_ge_t c102) (by decide) (by decide) ?_
                refine o_iconst (pc' := 568) (v := (0 : Int32)) X95 hx (hb hby at_567) rfl rfl ?_
                exact J101 _ ((if_neg c100).trans (if_neg c102)).symm
          by_cases c96 : (x3 &&& (255 : Int32)) < (192 : Int32)
          · refine o_icmpT (pc' := 533) X95 hx (hb hby at_518) (XT.ii_lt_t c96) (by decide) (by decide) ?_
            refine o_iconst (pc' := 534) (v := (0 : Int32)) X95 hx (hb hby at_533) rfl rfl ?_
            exact J97 _ (if_pos c96).symm
          · refine o_icmpF (pc' := 521) X95 hx (hb hby at_518) (XT.ii_lt_f c96) rfl ?_
            refine o_iload (pc' := 523) X95 hx (hb hby at_521) rfl rfl ?_
            refine o_sipush (pc' := 526) (v := (247 : Int32)) X95 hx (hb hby at_523) rfl rfl ?_
            by_cases c98 : (247 : Int32) < (x3 &&& (255 : Int32))
            · refine o_icmpT (pc' := 533) X95 hx (hb hby at_526) (XT.ii_gt_t c98) (by decide) (by decide) ?_
              refine o_iconst (pc' := 534) (v := (0 : Int32)) X95 hx (hb hby at_533) rfl rfl ?_
              exact J97 _ ((if_neg c96).trans (if_pos c98)).symm
            · refine o_icmpF (pc' := 529) X95 hx (hb hby at_526) (XT.ii_gt_f c98) rfl ?_
              refine o_iconst (pc' := 530) (v := (1 : Int32)) X95 hx (hb hby at_529) rfl rfl ?_
              refine o_goto (pc' := 534) X95 hx (hb hby at_530) (by decide) (by decide) ?_
              exact J97 _ ((if_neg c96).trans (if_neg c98)).symm
        by_cases c92 : (x3 &&& (255 : Int32)) < (128 : Int32)
        · refine o_icmpF (pc' := 489) X74 hx (hb hby at_486) (XT.ii_ge_f c92) rfl ?_
          refine o_iload (pc' := 491) X74 hx (hb hby at_489) rfl rfl ?_
          refine o_goto (pc' := 495) X74 hx (hb hby at_491) (by decide) (by decide) ?_
          exact J93 _ (if_pos c92).symm
        · refine o_icmpT (pc' := 494) X74 hx (hb hby at_486) (XT.ii_ge_t c92) (by decide) (by decide) ?_
          refine o_iconst (pc' := 495) (v := (-1 : Int32)) X74 hx (hb hby at_494) rfl rfl ?_
          exact J93 _ (if_neg c92).symm
    by_cases c15 : cp < (0 : Int32)
    · refine o_icmpT (pc' := 266) X8 hx (hb hby at_238) (XT.ii_lt_t c15) (by decide) (by decide) ?_
      refine o_iconst (pc' := 267) (v := (0 : Int32)) X8 hx (hb hby at_266) rfl rfl ?_
      exact J16 _ (if_pos c15).symm
    · refine o_icmpF (pc' := 241) X8 hx (hb hby at_238) (XT.ii_lt_f c15) rfl ?_
      refine o_iload (pc' := 243) X8 hx (hb hby at_241) rfl rfl ?_
      refine o_ldc (pc' := 245) (v := (1114111 : Int32)) X8 hx hZ hown (hw _ (List.mem_of_getElem? (i := 44) rfl)) (hb hby at_243) rfl ?_
      by_cases c17 : (1114111 : Int32) < cp
      · refine o_icmpT (pc' := 266) X8 hx (hb hby at_245) (XT.ii_gt_t c17) (by decide) (by decide) ?_
        refine o_iconst (pc' := 267) (v := (0 : Int32)) X8 hx (hb hby at_266) rfl rfl ?_
        exact J16 _ ((if_neg c15).trans (if_pos c17)).symm
      · refine o_icmpF (pc' := 248) X8 hx (hb hby at_245) (XT.ii_gt_f c17) rfl ?_
        refine o_iload (pc' := 250) X8 hx (hb hby at_248) rfl rfl ?_
        refine o_ldc (pc' := 252) (v := (55296 : Int32)) X8 hx hZ hown (hw _ (List.mem_of_getElem? (i := 45) rfl)) (hb hby at_250) rfl ?_
        by_cases c18 : cp < (55296 : Int32)
        · refine o_icmpT (pc' := 262) X8 hx (hb hby at_252) (XT.ii_lt_t c18) (by decide) (by decide) ?_
          refine o_iconst (pc' := 263) (v := (1 : Int32)) X8 hx (hb hby at_262) rfl rfl ?_
          refine o_goto (pc' := 267) X8 hx (hb hby at_263) (by decide) (by decide) ?_
          exact J16 _ ((if_neg c15).trans ((if_neg c17).trans (if_pos c18))).symm
        · refine o_icmpF (pc' := 255) X8 hx (hb hby at_252) (XT.ii_lt_f c18) rfl ?_
          refine o_iload (pc' := 257) X8 hx (hb hby at_255) rfl rfl ?_
          refine o_ldc (pc' := 259) (v := (57343 : Int32)) X8 hx hZ hown (hw _ (List.mem_of_getElem? (i := 46) rfl)) (hb hby at_257) rfl ?_
          by_cases c19 : (57343 : Int32) < cp
          · refine o_icmpF (pc' := 262) X8 hx (hb hby at_259) (XT.ii_le_f c19) rfl ?_
            refine o_iconst (pc' := 263) (v := (1 : Int32)) X8 hx (hb hby at_262) rfl rfl ?_
            refine o_goto (pc' := 267) X8 hx (hb hby at_263) (by decide) (by decide) ?_
            exact J16 _ ((if_neg c15).trans ((if_neg c17).trans ((if_neg c18).trans (if_pos c19)))).symm
          · refine o_icmpT (pc' := 266) X8 hx (hb hby at_259) (XT.ii_le_t c19) (by decide) (by decide) ?_
            refine o_iconst (pc' := 267) (v := (0 : Int32)) X8 hx (hb hby at_266) rfl rfl ?_
            exact J16 _ ((if_neg c15).trans ((if_neg c17).trans ((if_neg c18).trans (if_neg c19)))).symm
  · rw [hl]
    refine o_iconst (pc' := 8) (v := (4 : Int32)) X0 hx (hb hby at_7) rfl rfl ?_
    obtain ⟨T118, h118_, X118, e118, E118, A118, st118⟩ := o_newI (Ls := #[.val (.int x0), .val (.int x1), .val (.int x2), .val (.int x3), .val (.int (2 : Int32)), .unset, .unset, .unset, .unset, .unset, .unset, .unset, .unset, .unset, .unset]) (st := []) (n := (4 : Int32)) X0 hx hZ (hw _ (List.mem_of_getElem? (i := 0) rfl)) e0 (hb hby at_8) (by decide) 4 (by decide) (by decide) (by decide) (by decide) rfl
    obtain ⟨b118, g118⟩ : ∃ z, z = h0.size := ⟨_, rfl⟩
    rw [← g118] at A118 st118
    replace A118 : oInts Z h118_ b118 [(0 : Int32), (0 : Int32), (0 : Int32), (0 : Int32)] := A118
    have ge119 : n0 ≤ b118 := by rw [g118]; exact Z0
    have K120 := (Keep.refl h0 []).ext E118
    have F121 := O0.keep K120 all0
    have Z124 := Nat.le_trans Z0 K120.1
    refine oGo.step (f' := (mkF m 10 #[.val (.int x0), .val (.int x1), .val (.int x2), .val (.int x3), .val (.int (2 : Int32)), .unset, .unset, .unset, .unset, .unset, .unset, .unset, .unset, .unset, .unset] [(.ref b118)])) st118 ?_
    refine o_astore (pc' := 12) (l' := #[.val (.int x0), .val (.int x1), .val (.int x2), .val (.int x3), .val (.int (2 : Int32)), .unset, .val (.ref b118), .unset, .unset, .unset, .unset, .unset, .unset, .unset, .unset]) X118 hx (hb hby at_10) rfl rfl rfl ?_
    refine o_iload (pc' := 14) X118 hx (hb hby at_12) rfl rfl ?_
    refine o_iconst (pc' := 15) (v := (1 : Int32)) X118 hx (hb hby at_14) rfl rfl ?_
    refine o_icmpT (pc' := 33) X118 hx (hb hby at_15) (XT.ii_ne_t (by decide)) (by decide) (by decide) ?_
    refine o_iload (pc' := 35) X118 hx (hb hby at_33) rfl rfl ?_
    refine o_iconst (pc' := 36) (v := (2 : Int32)) X118 hx (hb hby at_35) rfl rfl ?_
    refine o_icmpF (pc' := 39) X118 hx (hb hby at_36) (XT.ii_ne_f (by decide)) rfl ?_
    refine o_iloadN (pc' := 40) X118 hx (hb hby at_39) rfl rfl ?_
    refine o_sipush (pc' := 43) (v := (2047 : Int32)) X118 hx (hb hby at_40) rfl rfl ?_
    refine o_iand (pc' := 44) X118 hx (hb hby at_43)  rfl ?_
    refine o_istore (pc' := 46) (l' := #[.val (.int x0), .val (.int x1), .val (.int x2), .val (.int x3), .val (.int (2 : Int32)), .val (.int (x0 &&& (2047 : Int32))), .val (.ref b118), .unset, .unset, .unset, .unset, .unset, .unset, .unset, .unset]) X118 hx (hb hby at_44) rfl rfl ?_
    have hcm := c_mask x0 2047 11 (by decide) (by decide)
    generalize hcp : (x0 &&& (2047 : Int32)) = cp at hcm ⊢
    have hc0 : 0 ≤ cp.toInt := by omega
    have hc1 : cp.toInt < 2048 := by omega
    have hcn : ¬ cp = -1 := fun q => by rw [q] at hc0; exact absurd hc0 (by decide)
    refine o_aload (pc' := 48) X118 hx (hb hby at_46) rfl rfl rfl ?_
    refine o_iconst (pc' := 49) (v := (0 : Int32)) X118 hx (hb hby at_48) rfl rfl ?_
    refine o_sipush (pc' := 52) (v := (192 : Int32)) X118 hx (hb hby at_49) rfl rfl ?_
    refine o_iload (pc' := 54) X118 hx (hb hby at_52) rfl rfl ?_
    refine o_bipush (pc' := 56) (v := (6 : Int32)) X118 hx (hb hby at_54) rfl rfl ?_
    refine o_ishr (pc' := 57) X118 hx (hb hby at_56)  rfl ?_
    refine o_ior (pc' := 58) X118 hx (hb hby at_57)  rfl ?_
    obtain ⟨T125, h125_, X125, e125, W125, st125⟩ := o_iastore (x := ((192 : Int32) ||| (cp >>> ((6 : Int32) &&& 31)))) (j := (0 : Int32)) (Ls := #[.val (.int x0), .val (.int x1), .val (.int x2), .val (.int x3), .val (.int (2 : Int32)), .val (.int cp), .val (.ref b118), .unset, .unset, .unset, .unset, .unset, .unset, .unset, .unset]) (st := []) X118 hx hZ e118 A118 (hb hby at_58) (by decide) (show _ < 4 by decide) rfl
    refine oGo.step (f' := (mkF m 59 #[.val (.int x0), .val (.int x1), .val (.int x2), .val (.int x3), .val (.int (2 : Int32)), .val (.int cp), .val (.ref b118), .unset, .unset, .unset, .unset, .unset, .unset, .unset, .unset] [])) st125 ?_
    have N125 := Fr.snoc X125 N0 ge119
    have F126 := A118.set W125
    replace F126 : oInts Z h125_ b118 [((192 : Int32) ||| (cp >>> ((6 : Int32) &&& 31))), (0 : Int32), (0 : Int32), (0 : Int32)] := F126
    have K127 := Keep.of_wr W125
    have F128 := F121.keep K127 (allS ge119 all0)
    have Z131 := Nat.le_trans Z124 K127.1
    refine o_aload (pc' := 61) X125 hx (hb hby at_59) rfl rfl rfl ?_
    refine o_iconst (pc' := 62) (v := (1 : Int32)) X125 hx (hb hby at_61) rfl rfl ?_
    refine o_sipush (pc' := 65) (v := (128 : Int32)) X125 hx (hb hby at_62) rfl rfl ?_
    refine o_iload (pc' := 67) X125 hx (hb hby at_65) rfl rfl ?_
    refine o_bipush (pc' := 69) (v := (63 : Int32)) X125 hx (hb hby at_67) rfl rfl ?_
    refine o_iand (pc' := 70) X125 hx (hb hby at_69)  rfl ?_
    refine o_ior (pc' := 71) X125 hx (hb hby at_70)  rfl ?_
    obtain ⟨T132, h132_, X132, e132, W132, st132⟩ := o_iastore (x := ((128 : Int32) ||| (cp &&& (63 : Int32)))) (j := (1 : Int32)) (Ls := #[.val (.int x0), .val (.int x1), .val (.int x2), .val (.int x3), .val (.int (2 : Int32)), .val (.int cp), .val (.ref b118), .unset, .unset, .unset, .unset, .unset, .unset, .unset, .unset]) (st := []) X125 hx hZ e125 F126 (hb hby at_71) (by decide) (show _ < 4 by decide) rfl
    refine oGo.step (f' := (mkF m 72 #[.val (.int x0), .val (.int x1), .val (.int x2), .val (.int x3), .val (.int (2 : Int32)), .val (.int cp), .val (.ref b118), .unset, .unset, .unset, .unset, .unset, .unset, .unset, .unset] [])) st132 ?_
    have N132 := Fr.snoc X132 N125 ge119
    have F133 := F126.set W132
    replace F133 : oInts Z h132_ b118 [((192 : Int32) ||| (cp >>> ((6 : Int32) &&& 31))), ((128 : Int32) ||| (cp &&& (63 : Int32))), (0 : Int32), (0 : Int32)] := F133
    have K134 := Keep.of_wr W132
    have F135 := F128.keep K134 (allS ge119 all0)
    have Z138 := Nat.le_trans Z131 K134.1
    refine o_goto (pc' := 196) X132 hx (hb hby at_72) (by decide) (by decide) ?_
    refine o_iload (pc' := 198) X132 hx (hb hby at_196) rfl rfl ?_
    refine o_iconst (pc' := 199) (v := (1 : Int32)) X132 hx (hb hby at_198) rfl rfl ?_
    refine o_icmpT (pc' := 206) X132 hx (hb hby at_199) (XT.ii_ne_t (by decide)) (by decide) (by decide) ?_
    refine o_iload (pc' := 208) X132 hx (hb hby at_206) rfl rfl ?_
    refine o_iconst (pc' := 209) (v := (2 : Int32)) X132 hx (hb hby at_208) rfl rfl ?_
    refine o_icmpF (pc' := 212) X132 hx (hb hby at_209) (XT.ii_ne_f (by decide)) rfl ?_
    refine o_sipush (pc' := 215) (v := (128 : Int32)) X132 hx (hb hby at_212) rfl rfl ?_
    refine o_goto (pc' := 232) X132 hx (hb hby at_215) (by decide) (by decide) ?_
    refine o_istore (pc' := 234) (l' := #[.val (.int x0), .val (.int x1), .val (.int x2), .val (.int x3), .val (.int (2 : Int32)), .val (.int cp), .val (.ref b118), .val (.int (128 : Int32)), .unset, .unset, .unset, .unset, .unset, .unset, .unset]) X132 hx (hb hby at_232) rfl rfl ?_
    refine o_iload (pc' := 236) X132 hx (hb hby at_234) rfl rfl ?_
    refine o_iload (pc' := 238) X132 hx (hb hby at_236) rfl rfl ?_
    have J140 : ∀ (v144 : Int32), v144 = (if cp < (128 : Int32) then (0 : Int32) else (if (1114111 : Int32) < cp then (0 : Int32) else (if cp < (55296 : Int32) then (1 : Int32) else (if (57343 : Int32) < cp then (1 : Int32) else (0 : Int32))))) → oGo p e below (oG s (fun v h L => v = some (.int 1) ∧ Fr n0 L) room_1.cells room_1.slots) T132 (mkF m 267 #[.val (.int x0), .val (.int x1), .val (.int x2), .val (.int x3), .val (.int (2 : Int32)), .val (.int cp), .val (.ref b118), .val (.int (128 : Int32)), .unset, .unset, .unset, .unset, .unset, .unset, .unset] [(.int v144)]) := by
      intro v144 hv144
      refine o_istore (pc' := 269) (l' := #[.val (.int x0), .val (.int x1), .val (.int x2), .val (.int x3), .val (.int (2 : Int32)), .val (.int cp), .val (.ref b118), .val (.int (128 : Int32)), .val (.int v144), .unset, .unset, .unset, .unset, .unset, .unset]) X132 hx (hb hby at_267) rfl rfl ?_
      have hval := own_valid (g := 1) rfl hv144
      refine o_iload (pc' := 271) X132 hx (hb hby at_269) rfl rfl ?_
      refine o_iconst (pc' := 272) (v := (1 : Int32)) X132 hx (hb hby at_271) rfl rfl ?_
      refine o_iloadN (pc' := 273) X132 hx (hb hby at_272) rfl rfl ?_
      refine o_iconst (pc' := 274) (v := (3 : Int32)) X132 hx (hb hby at_273) rfl rfl ?_
      refine o_iand (pc' := 275) X132 hx (hb hby at_274)  rfl ?_
      refine o_iadd (pc' := 276) X132 hx (hb hby at_275)  rfl ?_
      obtain ⟨r145, T145, L145, X145, hq145, st145⟩ := o_callS X132 hx hZ hown (hw _ (List.mem_of_getElem? (i := 3) rfl)) (hw _ (List.mem_of_getElem? (i := 4) rfl)) (hw _ (List.mem_of_getElem? (i := 5) rfl)) (hw _ (List.mem_of_getElem? (i := 6) rfl)) (by decide) (rm1 l Z a0 hw (2 : Int32) ((1 : Int32) + (x2 &&& (3 : Int32)))  h132_ n0 Z138 ) e132 (pc' := 279) (Ls := #[.val (.int x0), .val (.int x1), .val (.int x2), .val (.int x3), .val (.int (2 : Int32)), .val (.int cp), .val (.ref b118), .val (.int (128 : Int32)), .val (.int v144), .unset, .unset, .unset, .unset, .unset, .unset]) (by rw [hml]; rfl) [(.int (2 : Int32)), (.int ((1 : Int32) + (x2 &&& (3 : Int32))))] [] rfl pd1 rfl rfl 0 (Nat.le_of_eq rfl) (hb hby at_276) rfl (by decide) (by decide) (by decide) (by decide)
      obtain ⟨rfl, rfl, Kc145⟩ := hq145
      obtain ⟨y146, hy146⟩ : ∃ z, z = (spec1 (2 : Int32) ((1 : Int32) + (x2 &&& (3 : Int32)))) := ⟨_, rfl⟩
      rw [← hy146] at st145
      refine oGo.step (f' := (mkF m 279 #[.val (.int x0), .val (.int x1), .val (.int x2), .val (.int x3), .val (.int (2 : Int32)), .val (.int cp), .val (.ref b118), .val (.int (128 : Int32)), .val (.int v144), .unset, .unset, .unset, .unset, .unset, .unset] [(.int y146)])) st145 ?_
      have e145 : T145.heap = h132_ := Kc145
      have X145 := o_same X145 rfl rfl
      refine o_istore (pc' := 281) (l' := #[.val (.int x0), .val (.int x1), .val (.int x2), .val (.int x3), .val (.int (2 : Int32)), .val (.int cp), .val (.ref b118), .val (.int (128 : Int32)), .val (.int v144), .val (.int y146), .unset, .unset, .unset, .unset, .unset]) X145 hx (hb hby at_279) rfl rfl ?_
      rcases (show y146 = (1 : Int32) ∨ y146 = (2 : Int32) by rw [hy146]; exact own_k2 x2) with rfl | rfl
      · obtain ⟨T147, h147_, X147, e147, E147, A147, D147, -, st147⟩ := newO X145 hx hZ hown (hw _ (List.mem_of_getElem? (i := 7) rfl)) (hw _ (List.mem_of_getElem? (i := 8) rfl)) (hw _ (List.mem_of_getElem? (i := 9) rfl)) e145 (g := (mkF m 281 #[.val (.int x0), .val (.int x1), .val (.int x2), .val (.int x3), .val (.int (2 : Int32)), .val (.int cp), .val (.ref b118), .val (.int (128 : Int32)), .val (.int v144), .val (.int (1 : Int32)), .unset, .unset, .unset, .unset, .unset] [])) rfl (hb hby at_281) (by decide) (by decide)
        obtain ⟨b147, g147⟩ : ∃ z, z = h132_.size := ⟨_, rfl⟩
        rw [← g147] at A147 D147 st147
        have ne148 : b118 ≠ b147 := by rw [g147]; exact Nat.ne_of_lt F133.lt
        have ge149 : n0 ≤ b147 := by rw [g147]; exact Z138
        have K150 := (Keep.refl h132_ []).ext E147
        have F151 := F135.keep K150 all0
        have F154 := F133.keep K150 nin0
        have Z155 := Nat.le_trans Z138 K150.1
        have F156 : Fld Z h147_ b147 "com/example/harborlog/harborlog/Utf8Decoder" "lacking" "I" (.int (0 : Int32)) := D147 (Or.inl (hw _ (List.mem_of_getElem? (i := 26) rfl))) (ty := .int) (by decide)
        have F157 : Fld Z h147_ b147 "com/example/harborlog/harborlog/Utf8Decoder" "malformed" "Z" (.int (0 : Int32)) := D147 (Or.inl (hw _ (List.mem_of_getElem? (i := 28) rfl))) (ty := .boolean) (by decide)
        have F158 : Fld Z h147_ b147 "com/example/harborlog/harborlog/Utf8Decoder" "given" "I" (.int (0 : Int32)) := D147 (Or.inl (hw _ (List.mem_of_getElem? (i := 30) rfl))) (ty := .int) (by decide)
        have F159 : Fld Z h147_ b147 "com/example/harborlog/harborlog/Utf8Decoder" "codePoint" "I" (.int (0 : Int32)) := D147 (Or.inl (hw _ (List.mem_of_getElem? (i := 32) rfl))) (ty := .int) (by decide)
        refine oGo.step (f' := (mkF m 284 #[.val (.int x0), .val (.int x1), .val (.int x2), .val (.int x3), .val (.int (2 : Int32)), .val (.int cp), .val (.ref b118), .val (.int (128 : Int32)), .val (.int v144), .val (.int (1 : Int32)), .unset, .unset, .unset, .unset, .unset] [(.ref b147)])) st147 ?_
        refine o_dup (pc' := 285) X147 hx (hb hby at_284) rfl rfl ?_
        obtain ⟨r160, T160, L160, X160, hq160, st160⟩ := o_callN X147 hx hZ hown rfl (hw _ (List.mem_of_getElem? (i := 10) rfl)) (hw _ (List.mem_of_getElem? (i := 11) rfl)) (hw _ (List.mem_of_getElem? (i := 9) rfl)) (hw _ (List.mem_of_getElem? (i := 12) rfl)) (by decide) (rm2 l Z a0 hw b147 h147_ n0 Z155 ) e147 (pc' := 288) (Ls := #[.val (.int x0), .val (.int x1), .val (.int x2), .val (.int x3), .val (.int (2 : Int32)), .val (.int cp), .val (.ref b118), .val (.int (128 : Int32)), .val (.int v144), .val (.int (1 : Int32)), .unset, .unset, .unset, .unset, .unset]) (by rw [hml]; rfl) [] [(.ref b147)] rfl pd2 rfl rfl 1 (Nat.le_of_eq rfl) (hb hby at_285) rfl (by decide) (by decide) (by decide) (by decide)
        obtain ⟨rfl, rfl, Kc160⟩ := hq160
        refine oGo.step (f' := (mkF m 288 #[.val (.int x0), .val (.int x1), .val (.int x2), .val (.int x3), .val (.int (2 : Int32)), .val (.int cp), .val (.ref b118), .val (.int (128 : Int32)), .val (.int v144), .val (.int (1 : Int32)), .unset, .unset, .unset, .unset, .unset] [(.ref b147)])) st160 ?_
        have e160 : T160.heap = h147_ := Kc160
        have X160 := o_same X160 rfl rfl
        refine o_astore (pc' := 290) (l' := #[.val (.int x0), .val (.int x1), .val (.int x2), .val (.int x3), .val (.int (2 : Int32)), .val (.int cp), .val (.ref b118), .val (.int (128 : Int32)), .val (.int v144), .val (.int (1 : Int32)), .val (.ref b147), .unset, .unset, .unset, .unset]) X160 hx (hb hby at_288) rfl rfl rfl ?_
        have eb0 : (((192 : Int32) ||| (cp >>> ((6 : Int32) &&& 31)))).toInt = 192 + cp.toInt / 64 := own_hd (K := 192) 6 6 (by decide) hc0 (j := 5) (by decide) 32 (by decide) (by decide) (by decide) (by decide) (by omega) (by decide)
        have eb1 : (((128 : Int32) ||| (cp &&& (63 : Int32)))).toInt = 128 + cp.toInt % 64 := own_tl hc0
        refine o_aload (pc' := 292) X160 hx (hb hby at_290) rfl rfl rfl ?_
        refine o_aload (pc' := 294) X160 hx (hb hby at_292) rfl rfl rfl ?_
        refine o_iconst (pc' := 295) (v := (0 : Int32)) X160 hx (hb hby at_294) rfl rfl ?_
        refine o_iaload (pc' := 296) (v := ((192 : Int32) ||| (cp >>> ((6 : Int32) &&& 31)))) X160 hx hZ e160 F154 (hb hby at_295) (by decide) rfl rfl ?_
        refine o_iconst (pc' := 297) (v := (0 : Int32)) X160 hx (hb hby at_296) rfl rfl ?_
        refine o_iload (pc' := 299) X160 hx (hb hby at_297) rfl rfl ?_
        refine o_iload (pc' := 301) X160 hx (hb hby at_299) rfl rfl ?_
        refine o_iload (pc' := 303) X160 hx (hb hby at_301) rfl rfl ?_
        obtain ⟨r161, T161, L161, X161, hq161, st161⟩ := o_callS X160 hx hZ hown (hw _ (List.mem_of_getElem? (i := 16) rfl)) (hw _ (List.mem_of_getElem? (i := 17) rfl)) (hw _ (List.mem_of_getElem? (i := 18) rfl)) (hw _ (List.mem_of_getElem? (i := 19) rfl)) (by decide) (rm4 l Z a0 hw b147 ((192 : Int32) ||| (cp >>> ((6 : Int32) &&& 31))) (0 : Int32) (2 : Int32) cp v144 (0 : Int32) (0 : Int32) (0 : Int32) (0 : Int32) r_LEAST h147_ n0 Z155 A147 F159 F156 F158 F157 ge149 own_inv0 F151 S_LEAST A_LEAST) e160 (pc' := 306) (Ls := #[.val (.int x0), .val (.int x1), .val (.int x2), .val (.int x3), .val (.int (2 : Int32)), .val (.int cp), .val (.ref b118), .val (.int (128 : Int32)), .val (.int v144), .val (.int (1 : Int32)), .val (.ref b147), .unset, .unset, .unset, .unset]) (by rw [hml]; rfl) [(.ref b147), (.int ((192 : Int32) ||| (cp >>> ((6 : Int32) &&& 31)))), (.int (0 : Int32)), (.int (2 : Int32)), (.int cp), (.int v144)] [] rfl pd3 rfl rfl 0 (Nat.le_of_eq rfl) (hb hby at_303) rfl (by decide) (by decide) (by decide) (by decide)
        obtain ⟨rfl, N161, Kc161, E161_, F161_codePoint, F161_lacking, F161_given, F161_malformed⟩ := hq161
        obtain ⟨y162, hy162⟩ : ∃ z, z = (spec4 ((192 : Int32) ||| (cp >>> ((6 : Int32) &&& 31))) (0 : Int32) (2 : Int32) cp v144 (0 : Int32) (0 : Int32) (0 : Int32)) := ⟨_, rfl⟩
        rw [← hy162] at st161
        refine oGo.step (f' := (mkF m 306 #[.val (.int x0), .val (.int x1), .val (.int x2), .val (.int x3), .val (.int (2 : Int32)), .val (.int cp), .val (.ref b118), .val (.int (128 : Int32)), .val (.int v144), .val (.int (1 : Int32)), .val (.ref b147), .unset, .unset, .unset, .unset] [(.int y162)])) st161 ?_
        have N161_ := Fr.app N132 N161
        have K163 := Kc161
        have F164 := F151.keep K163 (allS ge149 all0)
        have F167 := F154.keep K163 (ninS ne148 nin0)
        have F168 := A147.keep K163
        have Z174 := Nat.le_trans Z155 K163.1
        obtain ⟨y175, hy175⟩ : ∃ z, z = (fld5_codePoint ((192 : Int32) ||| (cp >>> ((6 : Int32) &&& 31))) (0 : Int32) (0 : Int32)) := ⟨_, rfl⟩
        rw [← hy175] at F161_codePoint
        obtain ⟨y176, hy176⟩ : ∃ z, z = (fld5_lacking ((192 : Int32) ||| (cp >>> ((6 : Int32) &&& 31))) (0 : Int32)) := ⟨_, rfl⟩
        rw [← hy176] at F161_lacking
        obtain ⟨y177, hy177⟩ : ∃ z, z = (fld5_given ((192 : Int32) ||| (cp >>> ((6 : Int32) &&& 31))) (0 : Int32) (0 : Int32)) := ⟨_, rfl⟩
        rw [← hy177] at F161_given
        obtain ⟨y178, hy178⟩ : ∃ z, z = (fld5_malformed ((192 : Int32) ||| (cp >>> ((6 : Int32) &&& 31))) (0 : Int32) (0 : Int32) (0 : Int32) (0 : Int32)) := ⟨_, rfl⟩
        rw [← hy178] at F161_malformed
        have hI161 : oInv y176 y177 y178 := by rw [hy176, hy177, hy178]; exact own_inv_next (0 : Int32) ((192 : Int32) ||| (cp >>> ((6 : Int32) &&& 31))) own_inv0
        have X161 := o_flat X161 rfl rfl
        have hS0 := st_lead (b := ((192 : Int32) ||| (cp >>> ((6 : Int32) &&& 31)))) (i := 0) (len := 2) (cp := cp) (vl := v144) (k := 1) (by omega) (by omega) (own_top1 (by omega)) (by decide)
        rw [← hy162, ← hy176, ← hy177, ← hy178, ← hy175] at hS0
        obtain ⟨q1, q2, q3, q4, hcc0⟩ := hS0
        subst q1 q2 q3 q4
        have hcn0 : y175.toInt = cp.toInt / 64 := by rw [hcc0]; have m := (own_byte (x := ((192 : Int32) ||| (cp >>> ((6 : Int32) &&& 31)))) ⟨by omega, by omega⟩).2.2.1; rw [show ((63 : Int32) >>> ((1 : Int32) &&& 31)) = 31 from by decide]; omega
        refine o_istore (pc' := 308) (l' := #[.val (.int x0), .val (.int x1), .val (.int x2), .val (.int x3), .val (.int (2 : Int32)), .val (.int cp), .val (.ref b118), .val (.int (128 : Int32)), .val (.int v144), .val (.int (1 : Int32)), .val (.ref b147), .val (.int (1 : Int32)), .unset, .unset, .unset]) X161 hx (hb hby at_306) rfl rfl ?_
        refine o_iload (pc' := 310) X161 hx (hb hby at_308) rfl rfl ?_
        refine o_iconst (pc' := 311) (v := (1 : Int32)) X161 hx (hb hby at_310) rfl rfl ?_
        refine o_icmpT (pc' := 335) X161 hx (hb hby at_311) (XT.ii_le_t (by decide)) (by decide) (by decide) ?_
        refine o_iload (pc' := 337) X161 hx (hb hby at_335) rfl rfl ?_
        refine o_iconst (pc' := 338) (v := (2 : Int32)) X161 hx (hb hby at_337) rfl rfl ?_
        refine o_icmpT (pc' := 362) X161 hx (hb hby at_338) (XT.ii_le_t (by decide)) (by decide) (by decide) ?_
        refine o_iload (pc' := 364) X161 hx (hb hby at_362) rfl rfl ?_
        refine o_iconst (pc' := 365) (v := (3 : Int32)) X161 hx (hb hby at_364) rfl rfl ?_
        refine o_icmpT (pc' := 389) X161 hx (hb hby at_365) (XT.ii_le_t (by decide)) (by decide) (by decide) ?_
        refine o_iload (pc' := 391) X161 hx (hb hby at_389) rfl rfl ?_
        refine o_iload (pc' := 393) X161 hx (hb hby at_391) rfl rfl ?_
        refine o_icmpT (pc' := 400) X161 hx (hb hby at_393) (XT.ii_ne_t (by decide)) (by decide) (by decide) ?_
        refine o_iconst (pc' := 401) (v := (0 : Int32)) X161 hx (hb hby at_400) rfl rfl ?_
        refine o_istore (pc' := 403) (l' := #[.val (.int x0), .val (.int x1), .val (.int x2), .val (.int x3), .val (.int (2 : Int32)), .val (.int cp), .val (.ref b118), .val (.int (128 : Int32)), .val (.int v144), .val (.int (1 : Int32)), .val (.ref b147), .val (.int (1 : Int32)), .val (.int (0 : Int32)), .unset, .unset]) X161 hx (hb hby at_401) rfl rfl ?_
        refine o_iload (pc' := 405) X161 hx (hb hby at_403) rfl rfl ?_
        refine o_aload (pc' := 407) X161 hx (hb hby at_405) rfl rfl rfl ?_
        obtain ⟨r179, T179, L179, X179, hq179, st179⟩ := o_callV X161 hx hZ hown (hw _ (List.mem_of_getElem? (i := 33) rfl)) (hw _ (List.mem_of_getElem? (i := 34) rfl)) (hw _ (List.mem_of_getElem? (i := 36) rfl)) (hw _ (List.mem_of_getElem? (i := 35) rfl)) (hw _ (List.mem_of_getElem? (i := 9) rfl)) (hw _ (List.mem_of_getElem? (i := 37) rfl)) (by decide) E161_ (rm6 l Z a0 hw b147 (1 : Int32) T161.heap n0 Z174 E161_ F161_given) (rfl : T161.heap = _) (pc' := 410) (Ls := #[.val (.int x0), .val (.int x1), .val (.int x2), .val (.int x3), .val (.int (2 : Int32)), .val (.int cp), .val (.ref b118), .val (.int (128 : Int32)), .val (.int v144), .val (.int (1 : Int32)), .val (.ref b147), .val (.int (1 : Int32)), .val (.int (0 : Int32)), .unset, .unset]) (by rw [hml]; rfl) [] [(.int (1 : Int32))] rfl pd4 rfl rfl 1 (Nat.le_of_eq rfl) (hb hby at_407) rfl (by decide) (by decide) (by decide) (by decide)
        obtain ⟨rfl, rfl, Kc179⟩ := hq179
        refine oGo.step (f' := (mkF m 410 #[.val (.int x0), .val (.int x1), .val (.int x2), .val (.int x3), .val (.int (2 : Int32)), .val (.int cp), .val (.ref b118), .val (.int (128 : Int32)), .val (.int v144), .val (.int (1 : Int32)), .val (.ref b147), .val (.int (1 : Int32)), .val (.int (0 : Int32)), .unset, .unset] [(.int (1 : Int32)), (.int (1 : Int32))])) st179 ?_
        have e179 : T179.heap = T161.heap := Kc179
        have X179 := o_same X179 rfl rfl
        refine o_iload (pc' := 412) X179 hx (hb hby at_410) rfl rfl ?_
        refine o_ifT (pc' := 419) X179 hx (hb hby at_412) (XT.i0_eq_t (by decide)) (by decide) (by decide) ?_
        refine o_iload (pc' := 421) X179 hx (hb hby at_419) rfl rfl ?_
        refine o_icmpF (pc' := 424) X179 hx (hb hby at_421) (XT.ii_ne_f (by decide)) rfl ?_
        refine o_iconst (pc' := 425) (v := (1 : Int32)) X179 hx (hb hby at_424) rfl rfl ?_
        refine o_goto (pc' := 429) X179 hx (hb hby at_425) (by decide) (by decide) ?_
        refine o_iand (pc' := 430) X179 hx (hb hby at_429)  rfl ?_
        rw [show ((1 : Int32) &&& (1 : Int32)) = (1 : Int32) from by decide]
        refine o_istore (pc' := 432) (l' := #[.val (.int x0), .val (.int x1), .val (.int x2), .val (.int x3), .val (.int (2 : Int32)), .val (.int cp), .val (.ref b118), .val (.int (128 : Int32)), .val (.int v144), .val (.int (1 : Int32)), .val (.ref b147), .val (.int (1 : Int32)), .val (.int (0 : Int32)), .unset, .unset]) X179 hx (hb hby at_430) rfl rfl ?_
        refine o_iloadN (pc' := 433) X179 hx (hb hby at_432) rfl rfl ?_
        refine o_bipush (pc' := 435) (v := (8 : Int32)) X179 hx (hb hby at_433) rfl rfl ?_
        refine o_iushr (pc' := 436) X179 hx (hb hby at_435)  rfl ?_
        refine o_iconst (pc' := 437) (v := (1 : Int32)) X179 hx (hb hby at_436) rfl rfl ?_
        refine o_iand (pc' := 438) X179 hx (hb hby at_437)  rfl ?_
        by_cases c180 : ((XT.ushr x3 (8 : Int32)) &&& (1 : Int32)) = 0
        · refine o_ifT (pc' := 573) X179 hx (hb hby at_438) (XT.i0_eq_t c180) (by decide) (by decide) ?_
          refine o_iload (pc' := 575) X179 hx (hb hby at_573) rfl rfl ?_
          refine o_ifT (pc' := 587) X179 hx (hb hby at_575) (XT.i0_eq_t (by decide)) (by decide) (by decide) ?_
          refine o_iconst (pc' := 588) (v := (0 : Int32)) X179 hx (hb hby at_587) rfl rfl ?_
          refine o_istore (pc' := 590) (l' := #[.val (.int x0), .val (.int x1), .val (.int x2), .val (.int x3), .val (.int (2 : Int32)), .val (.int cp), .val (.ref b118), .val (.int (128 : Int32)), .val (.int v144), .val (.int (1 : Int32)), .val (.ref b147), .val (.int (1 : Int32)), .val (.int (0 : Int32)), .val (.int (0 : Int32)), .unset]) X179 hx (hb hby at_588) rfl rfl ?_
          refine o_iload (pc' := 592) X179 hx (hb hby at_590) rfl rfl ?_
          refine o_aload (pc' := 594) X179 hx (hb hby at_592) rfl rfl rfl ?_
          obtain ⟨r181, T181, L181, X181, hq181, st181⟩ := o_callV X179 hx hZ hown (hw _ (List.mem_of_getElem? (i := 38) rfl)) (hw _ (List.mem_of_getElem? (i := 39) rfl)) (hw _ (List.mem_of_getElem? (i := 41) rfl)) (hw _ (List.mem_of_getElem? (i := 40) rfl)) (hw _ (List.mem_of_getElem? (i := 9) rfl)) (hw _ (List.mem_of_getElem? (i := 42) rfl)) (by decide) E161_ (rm7 l Z a0 hw b147 y175 (1 : Int32) (1 : Int32) (0 : Int32) T161.heap n0 Z174 E161_ F161_codePoint F161_lacking F161_given F161_malformed ge149) e179 (pc' := 597) (Ls := #[.val (.int x0), .val (.int x1), .val (.int x2), .val (.int x3), .val (.int (2 : Int32)), .val (.int cp), .val (.ref b118), .val (.int (128 : Int32)), .val (.int v144), .val (.int (1 : Int32)), .val (.ref b147), .val (.int (1 : Int32)), .val (.int (0 : Int32)), .val (.int (0 : Int32)), .unset]) (by rw [hml]; rfl) [] [(.int (1 : Int32))] rfl pd5 rfl rfl 1 (Nat.le_of_eq rfl) (hb hby at_594) rfl (by decide) (by decide) (by decide) (by decide)
          obtain ⟨rfl, N181, Kc181, E181_, F181_codePoint, F181_lacking, F181_given, F181_malformed⟩ := hq181
          obtain ⟨y182, hy182⟩ : ∃ z, z = (spec7 (1 : Int32) (0 : Int32)) := ⟨_, rfl⟩
          rw [← hy182] at st181
          refine oGo.step (f' := (mkF m 597 #[.val (.int x0), .val (.int x1), .val (.int x2), .val (.int x3), .val (.int (2 : Int32)), .val (.int cp), .val (.ref b118), .val (.int (128 : Int32)), .val (.int v144), .val (.int (1 : Int32)), .val (.ref b147), .val (.int (1 : Int32)), .val (.int (0 : Int32)), .val (.int (0 : Int32)), .unset] [(.int y182), (.int (1 : Int32))])) st181 ?_
          have N181_ := Fr.app N161_ N181
          have K183 := Kc181
          have F184 := F164.keep K183 (allS ge149 all0)
          have F187 := F167.keep K183 (ninS ne148 nin0)
          have F188 := E161_.keep K183
          have Z194 := Nat.le_trans Z174 K183.1
          have X181 := o_flat X181 rfl rfl
          have hE : y182 = (0 : Int32) := by rw [hy182]; rfl
          refine o_iload (pc' := 599) X181 hx (hb hby at_597) rfl rfl ?_
          refine o_icmpF (pc' := 602) X181 hx (hb hby at_599) (XT.ii_ne_f hE) rfl ?_
          refine o_iconst (pc' := 603) (v := (1 : Int32)) X181 hx (hb hby at_602) rfl rfl ?_
          refine o_goto (pc' := 607) X181 hx (hb hby at_603) (by decide) (by decide) ?_
          refine o_iand (pc' := 608) X181 hx (hb hby at_607)  rfl ?_
          rw [show ((1 : Int32) &&& (1 : Int32)) = (1 : Int32) from by decide]
          refine o_istore (pc' := 610) (l' := #[.val (.int x0), .val (.int x1), .val (.int x2), .val (.int x3), .val (.int (2 : Int32)), .val (.int cp), .val (.ref b118), .val (.int (128 : Int32)), .val (.int v144), .val (.int (1 : Int32)), .val (.ref b147), .val (.int (1 : Int32)), .val (.int (0 : Int32)), .val (.int (0 : Int32)), .unset]) X181 hx (hb hby at_608) rfl rfl ?_
          refine o_iload (pc' := 612) X181 hx (hb hby at_610) rfl rfl ?_
          refine o_retZ X181 hx hret hlk (hb hby at_612) (by decide) (by decide) (by decide) ?_
          exact ⟨rfl, N181_⟩
        · refine o_ifF (pc' := 441) X179 hx (hb hby at_438) (XT.i0_eq_f c180) rfl ?_
          refine o_iloadN (pc' := 442) X179 hx (hb hby at_441) rfl rfl ?_
          refine o_sipush (pc' := 445) (v := (255 : Int32)) X179 hx (hb hby at_442) rfl rfl ?_
          refine o_iand (pc' := 446) X179 hx (hb hby at_445)  rfl ?_
          refine o_istore (pc' := 448) (l' := #[.val (.int x0), .val (.int x1), .val (.int x2), .val (.int x3), .val (.int (2 : Int32)), .val (.int cp), .val (.ref b118), .val (.int (128 : Int32)), .val (.int v144), .val (.int (1 : Int32)), .val (.ref b147), .val (.int (1 : Int32)), .val (.int (0 : Int32)), .unset, .val (.int (x3 &&& (255 : Int32)))]) X179 hx (hb hby at_446) rfl rfl ?_
          refine o_iload (pc' := 450) X179 hx (hb hby at_448) rfl rfl ?_
          refine o_ifF (pc' := 453) X179 hx (hb hby at_450) (XT.i0_ne_f (by decide)) rfl ?_
          refine o_iload (pc' := 455) X179 hx (hb hby at_453) rfl rfl ?_
          refine o_sipush (pc' := 458) (v := (192 : Int32)) X179 hx (hb hby at_455) rfl rfl ?_
          refine o_iand (pc' := 459) X179 hx (hb hby at_458)  rfl ?_
          refine o_sipush (pc' := 462) (v := (128 : Int32)) X179 hx (hb hby at_459) rfl rfl ?_
          have J196 : ∀ (v197 : Int32), v197 = (if ((x3 &&& (255 : Int32)) &&& (192 : Int32)) = (128 : Int32) then ((x3 &&& (255 : Int32)) ^^^ (64 : Int32)) else (x3 &&& (255 : Int32))) → oGo p e below (oG s (fun v h L => v = some (.int 1) ∧ Fr n0 L) room_1.cells room_1.slots) T179 (mkF m 472 #[.val (.int x0), .val (.int x1), .val (.int x2), .val (.int x3), .val (.int (2 : Int32)), .val (.int cp), .val (.ref b118), .val (.int (128 : Int32)), .val (.int v144), .val (.int (1 : Int32)), .val (.ref b147), .val (.int (1 : Int32)), .val (.int (0 : Int32)), .unset, .val (.int v197)] []) := by
            intro v197 hv197
            refine o_iload (pc' := 474) X179 hx (hb hby at_472) rfl rfl ?_
            refine o_aload (pc' := 476) X179 hx (hb hby at_474) rfl rfl rfl ?_
            refine o_iload (pc' := 478) X179 hx (hb hby at_476) rfl rfl ?_
            have htB := own_tx (own_m255 x3) hv197
            obtain ⟨r198, T198, L198, X198, hq198, st198⟩ := o_callV X179 hx hZ hown (hw _ (List.mem_of_getElem? (i := 20) rfl)) (hw _ (List.mem_of_getElem? (i := 21) rfl)) (hw _ (List.mem_of_getElem? (i := 23) rfl)) (hw _ (List.mem_of_getElem? (i := 22) rfl)) (hw _ (List.mem_of_getElem? (i := 9) rfl)) (hw _ (List.mem_of_getElem? (i := 24) rfl)) (by decide) E161_ (rm5 l Z a0 hw b147 v197 y175 (1 : Int32) (1 : Int32) (0 : Int32) r_LEAST T161.heap n0 Z174 E161_ F161_codePoint F161_lacking F161_given F161_malformed ge149 hI161 F164 S_LEAST A_LEAST) e179 (pc' := 481) (Ls := #[.val (.int x0), .val (.int x1), .val (.int x2), .val (.int x3), .val (.int (2 : Int32)), .val (.int cp), .val (.ref b118), .val (.int (128 : Int32)), .val (.int v144), .val (.int (1 : Int32)), .val (.ref b147), .val (.int (1 : Int32)), .val (.int (0 : Int32)), .unset, .val (.int v197)]) (by rw [hml]; rfl) [(.int v197)] [(.int (1 : Int32))] rfl pd0 rfl rfl 1 (Nat.le_of_eq rfl) (hb hby at_478) rfl (by decide) (by decide) (by decide) (by decide)
            obtain ⟨rfl, N198, Kc198, E198_, F198_codePoint, F198_lacking, F198_given, F198_malformed⟩ := hq198
            obtain ⟨y199, hy199⟩ : ∃ z, z = (spec5 v197 y175 (1 : Int32) (1 : Int32)) := ⟨_, rfl⟩
            rw [← hy199] at st198
            refine oGo.step (f' := (mkF m 481 #[.val (.int x0), .val (.int x1), .val (.int x2), .val (.int x3), .val (.int (2 : Int32)), .val (.int cp), .val (.ref b118), .val (.int (128 : Int32)), .val (.int v144), .val (.int (1 : Int32)), .val (.ref b147), .val (.int (1 : Int32)), .val (.int (0 : Int32)), .unset, .val (.int v197)] [(.int y199), (.int (1 : Int32))])) st198 ?_
            have N198_ := Fr.app N161_ N198
            have K200 := Kc198
            have F201 := F164.keep K200 (allS ge149 all0)
            have F204 := F167.keep K200 (ninS ne148 nin0)
            have F205 := E161_.keep K200
            have Z211 := Nat.le_trans Z174 K200.1
            obtain ⟨y212, hy212⟩ : ∃ z, z = (fld5_codePoint v197 y175 (1 : Int32)) := ⟨_, rfl⟩
            rw [← hy212] at F198_codePoint
            obtain ⟨y213, hy213⟩ : ∃ z, z = (fld5_lacking v197 (1 : Int32)) := ⟨_, rfl⟩
            rw [← hy213] at F198_lacking
            obtain ⟨y214, hy214⟩ : ∃ z, z = (fld5_given v197 (1 : Int32) (1 : Int32)) := ⟨_, rfl⟩
            rw [← hy214] at F198_given
            obtain ⟨y215, hy215⟩ : ∃ z, z = (fld5_malformed v197 y175 (1 : Int32) (1 : Int32) (0 : Int32)) := ⟨_, rfl⟩
            rw [← hy215] at F198_malformed
            have hI198 : oInv y213 y214 y215 := by rw [hy213, hy214, hy215]; exact own_inv_next y175 v197 hI161
            have X198 := o_flat X198 rfl rfl
            have hA := nx_any (t := v197) (cp := y175) (k := (1 : Int32)) (g := (1 : Int32)) (z := (0 : Int32)) nz01 (Or.inr ⟨by decide, htB.2⟩)
            rw [← hy199, ← hy214] at hA
            refine o_iload (pc' := 483) X198 hx (hb hby at_481) rfl rfl ?_
            refine o_sipush (pc' := 486) (v := (128 : Int32)) X198 hx (hb hby at_483) rfl rfl ?_
            have J217 : ∀ (v218 : Int32), v218 = (if v197 < (128 : Int32) then v197 else (-1 : Int32)) → oGo p e below (oG s (fun v h L => v = some (.int 1) ∧ Fr n0 L) room_1.cells room_1.slots) T198 (mkF m 495 #[.val (.int x0), .val (.int x1), .val (.int x2), .val (.int x3), .val (.int (2 : Int32)), .val (.int cp), .val (.ref b118), .val (.int (128 : Int32)), .val (.int v144), .val (.int (1 : Int32)), .val (.ref b147), .val (.int (1 : Int32)), .val (.int (0 : Int32)), .unset, .val (.int v197)] [(.int v218), (.int y199), (.int (1 : Int32))]) := by
              intro v218 hv218
              refine o_icmpF (pc' := 498) X198 hx (hb hby at_495) (XT.ii_ne_f (hA.1.trans hv218.symm)) rfl ?_
              refine o_iconst (pc' := 499) (v := (1 : Int32)) X198 hx (hb hby at_498) rfl rfl ?_
              refine o_goto (pc' := 503) X198 hx (hb hby at_499) (by decide) (by decide) ?_
              refine o_iand (pc' := 504) X198 hx (hb hby at_503)  rfl ?_
              rw [show ((1 : Int32) &&& (1 : Int32)) = (1 : Int32) from by decide]
              refine o_istore (pc' := 506) (l' := #[.val (.int x0), .val (.int x1), .val (.int x2), .val (.int x3), .val (.int (2 : Int32)), .val (.int cp), .val (.ref b118), .val (.int (128 : Int32)), .val (.int v144), .val (.int (1 : Int32)), .val (.ref b147), .val (.int (1 : Int32)), .val (.int (0 : Int32)), .unset, .val (.int v197)]) X198 hx (hb hby at_504) rfl rfl ?_
              refine o_iload (pc' := 508) X198 hx (hb hby at_506) rfl rfl ?_
              refine o_aload (pc' := 510) X198 hx (hb hby at_508) rfl rfl rfl ?_
              obtain ⟨r219, T219, L219, X219, hq219, st219⟩ := o_callV X198 hx hZ hown (hw _ (List.mem_of_getElem? (i := 33) rfl)) (hw _ (List.mem_of_getElem? (i := 34) rfl)) (hw _ (List.mem_of_getElem? (i := 36) rfl)) (hw _ (List.mem_of_getElem? (i := 35) rfl)) (hw _ (List.mem_of_getElem? (i := 9) rfl)) (hw _ (List.mem_of_getElem? (i := 37) rfl)) (by decide) E198_ (rm6 l Z a0 hw b147 y214 T198.heap n0 Z211 E198_ F198_given) (rfl : T198.heap = _) (pc' := 513) (Ls := #[.val (.int x0), .val (.int x1), .val (.int x2), .val (.int x3), .val (.int (2 : Int32)), .val (.int cp), .val (.ref b118), .val (.int (128 : Int32)), .val (.int v144), .val (.int (1 : Int32)), .val (.ref b147), .val (.int (1 : Int32)), .val (.int (0 : Int32)), .unset, .val (.int v197)]) (by rw [hml]; rfl) [] [(.int (1 : Int32))] rfl pd4 rfl rfl 1 (Nat.le_of_eq rfl) (hb hby at_510) rfl (by decide) (by decide) (by decide) (by decide)
              obtain ⟨rfl, rfl, Kc219⟩ := hq219
              refine oGo.step (f' := (mkF m 513 #[.val (.int x0), .val (.int x1), .val (.int x2), .val (.int x3), .val (.int (2 : Int32)), .val (.int cp), .val (.ref b118), .val (.int (128 : Int32)), .val (.int v144), .val (.int (1 : Int32)), .val (.ref b147), .val (.int (1 : Int32)), .val (.int (0 : Int32)), .unset, .val (.int v197)] [(.int y214), (.int (1 : Int32))])) st219 ?_
              have e219 : T219.heap = T198.heap := Kc219
              have X219 := o_same X219 rfl rfl
              refine o_iload (pc' := 515) X219 hx (hb hby at_513) rfl rfl ?_
              refine o_sipush (pc' := 518) (v := (192 : Int32)) X219 hx (hb hby at_515) rfl rfl ?_
              have J221 : ∀ (v223 : Int32), v223 = (if v197 < (192 : Int32) then (0 : Int32) else (if (247 : Int32) < v197 then (0 : Int32) else (1 : Int32))) → oGo p e below (oG s (fun v h L => v = some (.int 1) ∧ Fr n0 L) room_1.cells room_1.slots) T219 (mkF m 534 #[.val (.int x0), .val (.int x1), .val (.int x2), .val (.int x3), .val (.int (2 : Int32)), .val (.int cp), .val (.ref b118), .val (.int (128 : Int32)), .val (.int v144), .val (.int (1 : Int32)), .val (.ref b147), .val (.int (1 : Int32)), .val (.int (0 : Int32)), .unset, .val (.int v197)] [(.int v223), (.int y214), (.int (1 : Int32))]) := by
                intro v223 hv223
                refine o_icmpF (pc' := 537) X219 hx (hb hby at_534) (XT.ii_ne_f (hA.2.trans hv223.symm)) rfl ?_
                refine o_iconst (pc' := 538) (v := (1 : Int32)) X219 hx (hb hby at_537) rfl rfl ?_
                refine o_goto (pc' := 542) X219 hx (hb hby at_538) (by decide) (by decide) ?_
                refine o_iand (pc' := 543) X219 hx (hb hby at_542)  rfl ?_
                rw [show ((1 : Int32) &&& (1 : Int32)) = (1 : Int32) from by decide]
                refine o_istore (pc' := 545) (l' := #[.val (.int x0), .val (.int x1), .val (.int x2), .val (.int x3), .val (.int (2 : Int32)), .val (.int cp), .val (.ref b118), .val (.int (128 : Int32)), .val (.int v144), .val (.int (1 : Int32)), .val (.ref b147), .val (.int (1 : Int32)), .val (.int (0 : Int32)), .unset, .val (.int v197)]) X219 hx (hb hby at_543) rfl rfl ?_
                refine o_iload (pc' := 547) X219 hx (hb hby at_545) rfl rfl ?_
                refine o_ifT (pc' := 567) X219 hx (hb hby at_547) (XT.i0_eq_t (by decide)) (by decide) (by decide) ?_
                refine o_iconst (pc' := 568) (v := (0 : Int32)) X219 hx (hb hby at_567) rfl rfl ?_
                refine o_istore (pc' := 570) (l' := #[.val (.int x0), .val (.int x1), .val (.int x2), .val (.int x3), .val (.int (2 : Int32)), .val (.int cp), .val (.ref b118), .val (.int (128 : Int32)), .val (.int v144), .val (.int (1 : Int32)), .val (.ref b147), .val (.int (1 : Int32)), .val (.int (0 : Int32)), .val (.int (0 : Int32)), .val (.int v197)]) X219 hx (hb hby at_568) rfl rfl ?_
                refine o_goto (pc' := 590) X219 hx (hb hby at_570) (by decide) (by decide) ?_
                refine o_iload (pc' := 592) X219 hx (hb hby at_590) rfl rfl ?_
                refine o_aload (pc' := 594) X219 hx (hb hby at_592) rfl rfl rfl ?_
                obtain ⟨r224, T224, L224, X224, hq224, st224⟩ := o_callV X219 hx hZ hown (hw _ (List.mem_of_getElem? (i := 38) rfl)) (hw _ (List.mem_of_getElem? (i := 39) rfl)) (hw _ (List.mem_of_getElem? (i := 41) rfl)) (hw _ (List.mem_of_getElem? (i := 40) rfl)) (hw _ (List.mem_of_getElem? (i := 9) rfl)) (hw _ (List.mem_of_getElem? (i := 42) rfl)) (by decide) E198_ (rm7 l Z a0 hw b147 y212 y213 y214 y215 T198.heap n0 Z211 E198_ F198_codePoint F198_lacking F198_given F198_malformed ge149) e219 (pc' := 597) (Ls := #[.val (.int x0), .val (.int x1), .val (.int x2), .val (.int x3), .val (.int (2 : Int32)), .val (.int cp), .val (.ref b118), .val (.int (128 : Int32)), .val (.int v144), .val (.int (1 : Int32)), .val (.ref b147), .val (.int (1 : Int32)), .val (.int (0 : Int32)), .val (.int (0 : Int32)), .val (.int v197)]) (by rw [hml]; rfl) [] [(.int (1 : Int32))] rfl pd5 rfl rfl 1 (Nat.le_of_eq rfl) (hb hby at_594) rfl (by decide) (by decide) (by decide) (by decide)
                obtain ⟨rfl, N224, Kc224, E224_, F224_codePoint, F224_lacking, F224_given, F224_malformed⟩ := hq224
                obtain ⟨y225, hy225⟩ : ∃ z, z = (spec7 y213 y215) := ⟨_, rfl⟩
                rw [← hy225] at st224
                refine oGo.step (f' := (mkF m 597 #[.val (.int x0), .val (.int x1), .val (.int x2), .val (.int x3), .val (.int (2 : Int32)), .val (.int cp), .val (.ref b118), .val (.int (128 : Int32)), .val (.int v144), .val (.int (1 : Int32)), .val (.ref b147), .val (.int (1 : Int32)), .val (.int (0 : Int32)), .val (.int (0 : Int32)), .val (.int v197)] [(.int y225), (.int (1 : Int32))])) st224 ?_
                have N224_ := Fr.app N198_ N224
                have K226 := Kc224
                have F227 := F201.keep K226 (allS ge149 all0)
                have F230 := F204.keep K226 (ninS ne148 nin0)
                have F231 := E198_.keep K226
                have Z237 := Nat.le_trans Z211 K226.1
                have X224 := o_flat X224 rfl rfl
                have hE : y225 = (0 : Int32) := by rw [hy225, hy213, hy215]; exact end_cut (by decide) htB.2
                refine o_iload (pc' := 599) X224 hx (hb hby at_597) rfl rfl ?_
                refine o_icmpF (pc' := 602) X224 hx (hb hby at_599) (XT.ii_ne_f hE) rfl ?_
                refine o_iconst (pc' := 603) (v := (1 : Int32)) X224 hx (hb hby at_602) rfl rfl ?_
                refine o_goto (pc' := 607) X224 hx (hb hby at_603) (by decide) (by decide) ?_
                refine o_iand (pc' := 608) X224 hx (hb hby at_607)  rfl ?_
                rw [show ((1 : Int32) &&& (1 : Int32)) = (1 : Int32) from by decide]
                refine o_istore (pc' := 610) (l' := #[.val (.int x0), .val (.int x1), .val (.int x2), .val (.int x3), .val (.int (2 : Int32)), .val (.int cp), .val (.ref b118), .val (.int (128 : Int32)), .val (.int v144), .val (.int (1 : Int32)), .val (.ref b147), .val (.int (1 : Int32)), .val (.int (0 : Int32)), .val (.int (0 : Int32)), .val (.int v197)]) X224 hx (hb hby at_608) rfl rfl ?_
                refine o_iload (pc' := 612) X224 hx (hb hby at_610) rfl rfl ?_
                refine o_retZ X224 hx hret hlk (hb hby at_612) (by decide) (by decide) (by decide) ?_
                exact ⟨rfl, N224_⟩
              by_cases c220 : v197 < (192 : Int32)
              · refine o_icmpT (pc' := 533) X219 hx (hb hby at_518) (XT.ii_lt_t c220) (by decide) (by decide) ?_
                refine o_iconst (pc' := 534) (v := (0 : Int32)) X219 hx (hb hby at_533) rfl rfl ?_
                exact J221 _ (if_pos c220).symm
              · refine o_icmpF (pc' := 521) X219 hx (hb hby at_518) (XT.ii_lt_f c220) rfl ?_
                refine o_iload (pc' := 523) X219 hx (hb hby at_521) rfl rfl ?_
                refine o_sipush (pc' := 526) (v := (247 : Int32)) X219 hx (hb hby at_523) rfl rfl ?_
                by_cases c222 : (247 : Int32) < v197
                · refine o_icmpT (pc' := 533) X219 hx (hb hby at_526) (XT.ii_gt_t c222) (by decide) (by decide) ?_
                  refine o_iconst (pc' := 534) (v := (0 : Int32)) X219 hx (hb hby at_533) rfl rfl ?_
                  exact J221 _ ((if_neg c220).trans (if_pos c222)).symm
                · refine o_icmpF (pc' := 529) X219 hx (hb hby at_526) (XT.ii_gt_f c222) rfl ?_
                  refine o_iconst (pc' := 530) (v := (1 : Int32)) X219 hx (hb hby at_529) rfl rfl ?_
                  refine o_goto (pc' := 534) X219 hx (hb hby at_530) (by decide) (by decide) ?_
                  exact J221 _ ((if_neg c220).trans (if_neg c222)).symm
            by_cases c216 : v197 < (128 : Int32)
            · refine o_icmpF (pc' := 489) X198 hx (hb hby at_486) (XT.ii_ge_f c216) rfl ?_
              refine o_iload (pc' := 491) X198 hx (hb hby at_489) rfl rfl ?_
              refine o_goto (pc' := 495) X198 hx (hb hby at_491) (by decide) (by decide) ?_
              exact J217 _ (if_pos c216).symm
            · refine o_icmpT (pc' := 494) X198 hx (hb hby at_486) (XT.ii_ge_t c216) (by decide) (by decide) ?_
              refine o_iconst (pc' := 495) (v := (-1 : Int32)) X198 hx (hb hby at_494) rfl rfl ?_
              exact J217 _ (if_neg c216).symm
          by_cases c195 : ((x3 &&& (255 : Int32)) &&& (192 : Int32)) = (128 : Int32)
          · refine o_icmpF (pc' := 465) X179 hx (hb hby at_462) (XT.ii_ne_f c195) rfl ?_
            refine o_iload (pc' := 467) X179 hx (hb hby at_465) rfl rfl ?_
            refine o_bipush (pc' := 469) (v := (64 : Int32)) X179 hx (hb hby at_467) rfl rfl ?_
            refine o_ixor (pc' := 470) X179 hx (hb hby at_469)  rfl ?_
            refine o_istore (pc' := 472) (l' := #[.val (.int x0), .val (.int x1), .val (.int x2), .val (.int x3), .val (.int (2 : Int32)), .val (.int cp), .val (.ref b118), .val (.int (128 : Int32)), .val (.int v144), .val (.int (1 : Int32)), .val (.ref b147), .val (.int (1 : Int32)), .val (.int (0 : Int32)), .unset, .val (.int ((x3 &&& (255 : Int32)) ^^^ (64 : Int32)))]) X179 hx (hb hby at_470) rfl rfl ?_
            exact J196 _ (if_pos c195).symm
          · refine o_icmpT (pc' := 472) X179 hx (hb hby at_462) (XT.ii_ne_t c195) (by decide) (by decide) ?_
            exact J196 _ (if_neg c195).symm
      · obtain ⟨T238, h238_, X238, e238, E238, A238, D238, -, st238⟩ := newO X145 hx hZ hown (hw _ (List.mem_of_getElem? (i := 7) rfl)) (hw _ (List.mem_of_getElem? (i := 8) rfl)) (hw _ (List.mem_of_getElem? (i := 9) rfl)) e145 (g := (mkF m 281 #[.val (.int x0), .val (.int x1), .val (.int x2), .val (.int x3), .val (.int (2 : Int32)), .val (.int cp), .val (.ref b118), .val (.int (128 : Int32)), .val (.int v144), .val (.int (2 : Int32)), .unset, .unset, .unset, .unset, .unset] [])) rfl (hb hby at_281) (by decide) (by decide)
        obtain ⟨b238, g238⟩ : ∃ z, z = h132_.size := ⟨_, rfl⟩
        rw [← g238] at A238 D238 st238
        have ne239 : b118 ≠ b238 := by rw [g238]; exact Nat.ne_of_lt F133.lt
        have ge240 : n0 ≤ b238 := by rw [g238]; exact Z138
        have K241 := (Keep.refl h132_ []).ext E238
        have F242 := F135.keep K241 all0
        have F245 := F133.keep K241 nin0
        have Z246 := Nat.le_trans Z138 K241.1
        have F247 : Fld Z h238_ b238 "com/example/harborlog/harborlog/Utf8Decoder" "lacking" "I" (.int (0 : Int32)) := D238 (Or.inl (hw _ (List.mem_of_getElem? (i := 26) rfl))) (ty := .int) (by decide)
        have F248 : Fld Z h238_ b238 "com/example/harborlog/harborlog/Utf8Decoder" "malformed" "Z" (.int (0 : Int32)) := D238 (Or.inl (hw _ (List.mem_of_getElem? (i := 28) rfl))) (ty := .boolean) (by decide)
        have F249 : Fld Z h238_ b238 "com/example/harborlog/harborlog/Utf8Decoder" "given" "I" (.int (0 : Int32)) := D238 (Or.inl (hw _ (List.mem_of_getElem? (i := 30) rfl))) (ty := .int) (by decide)
        have F250 : Fld Z h238_ b238 "com/example/harborlog/harborlog/Utf8Decoder" "codePoint" "I" (.int (0 : Int32)) := D238 (Or.inl (hw _ (List.mem_of_getElem? (i := 32) rfl))) (ty := .int) (by decide)
        refine oGo.step (f' := (mkF m 284 #[.val (.int x0), .val (.int x1), .val (.int x2), .val (.int x3), .val (.int (2 : Int32)), .val (.int cp), .val (.ref b118), .val (.int (128 : Int32)), .val (.int v144), .val (.int (2 : Int32)), .unset, .unset, .unset, .unset, .unset] [(.ref b238)])) st238 ?_
        refine o_dup (pc' := 285) X238 hx (hb hby at_284) rfl rfl ?_
        obtain ⟨r251, T251, L251, X251, hq251, st251⟩ := o_callN X238 hx hZ hown rfl (hw _ (List.mem_of_getElem? (i := 10) rfl)) (hw _ (List.mem_of_getElem? (i := 11) rfl)) (hw _ (List.mem_of_getElem? (i := 9) rfl)) (hw _ (List.mem_of_getElem? (i := 12) rfl)) (by decide) (rm2 l Z a0 hw b238 h238_ n0 Z246 ) e238 (pc' := 288) (Ls := #[.val (.int x0), .val (.int x1), .val (.int x2), .val (.int x3), .val (.int (2 : Int32)), .val (.int cp), .val (.ref b118), .val (.int (128 : Int32)), .val (.int v144), .val (.int (2 : Int32)), .unset, .unset, .unset, .unset, .unset]) (by rw [hml]; rfl) [] [(.ref b238)] rfl pd2 rfl rfl 1 (Nat.le_of_eq rfl) (hb hby at_285) rfl (by decide) (by decide) (by decide) (by decide)
        obtain ⟨rfl, rfl, Kc251⟩ := hq251
        refine oGo.step (f' := (mkF m 288 #[.val (.int x0), .val (.int x1), .val (.int x2), .val (.int x3), .val (.int (2 : Int32)), .val (.int cp), .val (.ref b118), .val (.int (128 : Int32)), .val (.int v144), .val (.int (2 : Int32)), .unset, .unset, .unset, .unset, .unset] [(.ref b238)])) st251 ?_
        have e251 : T251.heap = h238_ := Kc251
        have X251 := o_same X251 rfl rfl
        refine o_astore (pc' := 290) (l' := #[.val (.int x0), .val (.int x1), .val (.int x2), .val (.int x3), .val (.int (2 : Int32)), .val (.int cp), .val (.ref b118), .val (.int (128 : Int32)), .val (.int v144), .val (.int (2 : Int32)), .val (.ref b238), .unset, .unset, .unset, .unset]) X251 hx (hb hby at_288) rfl rfl rfl ?_
        have eb0 : (((192 : Int32) ||| (cp >>> ((6 : Int32) &&& 31)))).toInt = 192 + cp.toInt / 64 := own_hd (K := 192) 6 6 (by decide) hc0 (j := 5) (by decide) 32 (by decide) (by decide) (by decide) (by decide) (by omega) (by decide)
        have eb1 : (((128 : Int32) ||| (cp &&& (63 : Int32)))).toInt = 128 + cp.toInt % 64 := own_tl hc0
        refine o_aload (pc' := 292) X251 hx (hb hby at_290) rfl rfl rfl ?_
        refine o_aload (pc' := 294) X251 hx (hb hby at_292) rfl rfl rfl ?_
        refine o_iconst (pc' := 295) (v := (0 : Int32)) X251 hx (hb hby at_294) rfl rfl ?_
        refine o_iaload (pc' := 296) (v := ((192 : Int32) ||| (cp >>> ((6 : Int32) &&& 31)))) X251 hx hZ e251 F245 (hb hby at_295) (by decide) rfl rfl ?_
        refine o_iconst (pc' := 297) (v := (0 : Int32)) X251 hx (hb hby at_296) rfl rfl ?_
        refine o_iload (pc' := 299) X251 hx (hb hby at_297) rfl rfl ?_
        refine o_iload (pc' := 301) X251 hx (hb hby at_299) rfl rfl ?_
        refine o_iload (pc' := 303) X251 hx (hb hby at_301) rfl rfl ?_
        obtain ⟨r252, T252, L252, X252, hq252, st252⟩ := o_callS X251 hx hZ hown (hw _ (List.mem_of_getElem? (i := 16) rfl)) (hw _ (List.mem_of_getElem? (i := 17) rfl)) (hw _ (List.mem_of_getElem? (i := 18) rfl)) (hw _ (List.mem_of_getElem? (i := 19) rfl)) (by decide) (rm4 l Z a0 hw b238 ((192 : Int32) ||| (cp >>> ((6 : Int32) &&& 31))) (0 : Int32) (2 : Int32) cp v144 (0 : Int32) (0 : Int32) (0 : Int32) (0 : Int32) r_LEAST h238_ n0 Z246 A238 F250 F247 F249 F248 ge240 own_inv0 F242 S_LEAST A_LEAST) e251 (pc' := 306) (Ls := #[.val (.int x0), .val (.int x1), .val (.int x2), .val (.int x3), .val (.int (2 : Int32)), .val (.int cp), .val (.ref b118), .val (.int (128 : Int32)), .val (.int v144), .val (.int (2 : Int32)), .val (.ref b238), .unset, .unset, .unset, .unset]) (by rw [hml]; rfl) [(.ref b238), (.int ((192 : Int32) ||| (cp >>> ((6 : Int32) &&& 31)))), (.int (0 : Int32)), (.int (2 : Int32)), (.int cp), (.int v144)] [] rfl pd3 rfl rfl 0 (Nat.le_of_eq rfl) (hb hby at_303) rfl (by decide) (by decide) (by decide) (by decide)
        obtain ⟨rfl, N252, Kc252, E252_, F252_codePoint, F252_lacking, F252_given, F252_malformed⟩ := hq252
        obtain ⟨y253, hy253⟩ : ∃ z, z = (spec4 ((192 : Int32) ||| (cp >>> ((6 : Int32) &&& 31))) (0 : Int32) (2 : Int32) cp v144 (0 : Int32) (0 : Int32) (0 : Int32)) := ⟨_, rfl⟩
        rw [← hy253] at st252
        refine oGo.step (f' := (mkF m 306 #[.val (.int x0), .val (.int x1), .val (.int x2), .val (.int x3), .val (.int (2 : Int32)), .val (.int cp), .val (.ref b118), .val (.int (128 : Int32)), .val (.int v144), .val (.int (2 : Int32)), .val (.ref b238), .unset, .unset, .unset, .unset] [(.int y253)])) st252 ?_
        have N252_ := Fr.app N132 N252
        have K254 := Kc252
        have F255 := F242.keep K254 (allS ge240 all0)
        have F258 := F245.keep K254 (ninS ne239 nin0)
        have F259 := A238.keep K254
        have Z265 := Nat.le_trans Z246 K254.1
        obtain ⟨y266, hy266⟩ : ∃ z, z = (fld5_codePoint ((192 : Int32) ||| (cp >>> ((6 : Int32) &&& 31))) (0 : Int32) (0 : Int32)) := ⟨_, rfl⟩
        rw [← hy266] at F252_codePoint
        obtain ⟨y267, hy267⟩ : ∃ z, z = (fld5_lacking ((192 : Int32) ||| (cp >>> ((6 : Int32) &&& 31))) (0 : Int32)) := ⟨_, rfl⟩
        rw [← hy267] at F252_lacking
        obtain ⟨y268, hy268⟩ : ∃ z, z = (fld5_given ((192 : Int32) ||| (cp >>> ((6 : Int32) &&& 31))) (0 : Int32) (0 : Int32)) := ⟨_, rfl⟩
        rw [← hy268] at F252_given
        obtain ⟨y269, hy269⟩ : ∃ z, z = (fld5_malformed ((192 : Int32) ||| (cp >>> ((6 : Int32) &&& 31))) (0 : Int32) (0 : Int32) (0 : Int32) (0 : Int32)) := ⟨_, rfl⟩
        rw [← hy269] at F252_malformed
        have hI252 : oInv y267 y268 y269 := by rw [hy267, hy268, hy269]; exact own_inv_next (0 : Int32) ((192 : Int32) ||| (cp >>> ((6 : Int32) &&& 31))) own_inv0
        have X252 := o_flat X252 rfl rfl
        have hS0 := st_lead (b := ((192 : Int32) ||| (cp >>> ((6 : Int32) &&& 31)))) (i := 0) (len := 2) (cp := cp) (vl := v144) (k := 1) (by omega) (by omega) (own_top1 (by omega)) (by decide)
        rw [← hy253, ← hy267, ← hy268, ← hy269, ← hy266] at hS0
        obtain ⟨q1, q2, q3, q4, hcc0⟩ := hS0
        subst q1 q2 q3 q4
        have hcn0 : y266.toInt = cp.toInt / 64 := by rw [hcc0]; have m := (own_byte (x := ((192 : Int32) ||| (cp >>> ((6 : Int32) &&& 31)))) ⟨by omega, by omega⟩).2.2.1; rw [show ((63 : Int32) >>> ((1 : Int32) &&& 31)) = 31 from by decide]; omega
        refine o_istore (pc' := 308) (l' := #[.val (.int x0), .val (.int x1), .val (.int x2), .val (.int x3), .val (.int (2 : Int32)), .val (.int cp), .val (.ref b118), .val (.int (128 : Int32)), .val (.int v144), .val (.int (2 : Int32)), .val (.ref b238), .val (.int (1 : Int32)), .unset, .unset, .unset]) X252 hx (hb hby at_306) rfl rfl ?_
        refine o_iload (pc' := 310) X252 hx (hb hby at_308) rfl rfl ?_
        refine o_iconst (pc' := 311) (v := (1 : Int32)) X252 hx (hb hby at_310) rfl rfl ?_
        refine o_icmpF (pc' := 314) X252 hx (hb hby at_311) (XT.ii_le_f (by decide)) rfl ?_
        refine o_iload (pc' := 316) X252 hx (hb hby at_314) rfl rfl ?_
        refine o_aload (pc' := 318) X252 hx (hb hby at_316) rfl rfl rfl ?_
        refine o_aload (pc' := 320) X252 hx (hb hby at_318) rfl rfl rfl ?_
        refine o_iconst (pc' := 321) (v := (1 : Int32)) X252 hx (hb hby at_320) rfl rfl ?_
        refine o_iaload (pc' := 322) (v := ((128 : Int32) ||| (cp &&& (63 : Int32)))) X252 hx hZ (rfl : T252.heap = _) F258 (hb hby at_321) (by decide) rfl rfl ?_
        refine o_iconst (pc' := 323) (v := (1 : Int32)) X252 hx (hb hby at_322) rfl rfl ?_
        refine o_iload (pc' := 325) X252 hx (hb hby at_323) rfl rfl ?_
        refine o_iload (pc' := 327) X252 hx (hb hby at_325) rfl rfl ?_
        refine o_iload (pc' := 329) X252 hx (hb hby at_327) rfl rfl ?_
        obtain ⟨r270, T270, L270, X270, hq270, st270⟩ := o_callS X252 hx hZ hown (hw _ (List.mem_of_getElem? (i := 16) rfl)) (hw _ (List.mem_of_getElem? (i := 17) rfl)) (hw _ (List.mem_of_getElem? (i := 18) rfl)) (hw _ (List.mem_of_getElem? (i := 19) rfl)) (by decide) (rm4 l Z a0 hw b238 ((128 : Int32) ||| (cp &&& (63 : Int32))) (1 : Int32) (2 : Int32) cp v144 y266 (1 : Int32) (1 : Int32) (0 : Int32) r_LEAST T252.heap n0 Z265 E252_ F252_codePoint F252_lacking F252_given F252_malformed ge240 hI252 F255 S_LEAST A_LEAST) (rfl : T252.heap = _) (pc' := 332) (Ls := #[.val (.int x0), .val (.int x1), .val (.int x2), .val (.int x3), .val (.int (2 : Int32)), .val (.int cp), .val (.ref b118), .val (.int (128 : Int32)), .val (.int v144), .val (.int (2 : Int32)), .val (.ref b238), .val (.int (1 : Int32)), .unset, .unset, .unset]) (by rw [hml]; rfl) [(.ref b238), (.int ((128 : Int32) ||| (cp &&& (63 : Int32)))), (.int (1 : Int32)), (.int (2 : Int32)), (.int cp), (.int v144)] [(.int (1 : Int32))] rfl pd3 rfl rfl 1 (Nat.le_of_eq rfl) (hb hby at_329) rfl (by decide) (by decide) (by decide) (by decide)
        obtain ⟨rfl, N270, Kc270, E270_, F270_codePoint, F270_lacking, F270_given, F270_malformed⟩ := hq270
        obtain ⟨y271, hy271⟩ : ∃ z, z = (spec4 ((128 : Int32) ||| (cp &&& (63 : Int32))) (1 : Int32) (2 : Int32) cp v144 y266 (1 : Int32) (1 : Int32)) := ⟨_, rfl⟩
        rw [← hy271] at st270
        refine oGo.step (f' := (mkF m 332 #[.val (.int x0), .val (.int x1), .val (.int x2), .val (.int x3), .val (.int (2 : Int32)), .val (.int cp), .val (.ref b118), .val (.int (128 : Int32)), .val (.int v144), .val (.int (2 : Int32)), .val (.ref b238), .val (.int (1 : Int32)), .unset, .unset, .unset] [(.int y271), (.int (1 : Int32))])) st270 ?_
        have N270_ := Fr.app N252_ N270
        have K272 := Kc270
        have F273 := F255.keep K272 (allS ge240 all0)
        have F276 := F258.keep K272 (ninS ne239 nin0)
        have F277 := E252_.keep K272
        have Z283 := Nat.le_trans Z265 K272.1
        obtain ⟨y284, hy284⟩ : ∃ z, z = (fld5_codePoint ((128 : Int32) ||| (cp &&& (63 : Int32))) y266 (1 : Int32)) := ⟨_, rfl⟩
        rw [← hy284] at F270_codePoint
        obtain ⟨y285, hy285⟩ : ∃ z, z = (fld5_lacking ((128 : Int32) ||| (cp &&& (63 : Int32))) (1 : Int32)) := ⟨_, rfl⟩
        rw [← hy285] at F270_lacking
        obtain ⟨y286, hy286⟩ : ∃ z, z = (fld5_given ((128 : Int32) ||| (cp &&& (63 : Int32))) (1 : Int32) (1 : Int32)) := ⟨_, rfl⟩
        rw [← hy286] at F270_given
        obtain ⟨y287, hy287⟩ : ∃ z, z = (fld5_malformed ((128 : Int32) ||| (cp &&& (63 : Int32))) y266 (1 : Int32) (1 : Int32) (0 : Int32)) := ⟨_, rfl⟩
        rw [← hy287] at F270_malformed
        have hI270 : oInv y285 y286 y287 := by rw [hy285, hy286, hy287]; exact own_inv_next y266 ((128 : Int32) ||| (cp &&& (63 : Int32))) hI252
        have X270 := o_flat X270 rfl rfl
        have hS1 := st_last (b := ((128 : Int32) ||| (cp &&& (63 : Int32)))) (i := 1) (len := 2) (cp := cp) (vl := v144) (c := y266) (k := (1 : Int32)) (g := (1 : Int32)) ⟨by omega, by omega⟩ (by omega) (by omega) (by decide) rfl rfl (by omega) (by omega) (by omega) hcn hval
        rw [← hy271, ← hy285, ← hy286, ← hy287] at hS1
        obtain ⟨q1, q2, q3, hzz⟩ := hS1
        subst q1 q2 q3
        refine o_iand (pc' := 333) X270 hx (hb hby at_332)  rfl ?_
        rw [show ((1 : Int32) &&& (1 : Int32)) = (1 : Int32) from by decide]
        refine o_istore (pc' := 335) (l' := #[.val (.int x0), .val (.int x1), .val (.int x2), .val (.int x3), .val (.int (2 : Int32)), .val (.int cp), .val (.ref b118), .val (.int (128 : Int32)), .val (.int v144), .val (.int (2 : Int32)), .val (.ref b238), .val (.int (1 : Int32)), .unset, .unset, .unset]) X270 hx (hb hby at_333) rfl rfl ?_
        refine o_iload (pc' := 337) X270 hx (hb hby at_335) rfl rfl ?_
        refine o_iconst (pc' := 338) (v := (2 : Int32)) X270 hx (hb hby at_337) rfl rfl ?_
        refine o_icmpT (pc' := 362) X270 hx (hb hby at_338) (XT.ii_le_t (by decide)) (by decide) (by decide) ?_
        refine o_iload (pc' := 364) X270 hx (hb hby at_362) rfl rfl ?_
        refine o_iconst (pc' := 365) (v := (3 : Int32)) X270 hx (hb hby at_364) rfl rfl ?_
        refine o_icmpT (pc' := 389) X270 hx (hb hby at_365) (XT.ii_le_t (by decide)) (by decide) (by decide) ?_
        refine o_iload (pc' := 391) X270 hx (hb hby at_389) rfl rfl ?_
        refine o_iload (pc' := 393) X270 hx (hb hby at_391) rfl rfl ?_
        refine o_icmpF (pc' := 396) X270 hx (hb hby at_393) (XT.ii_ne_f (by decide)) rfl ?_
        refine o_iconst (pc' := 397) (v := (1 : Int32)) X270 hx (hb hby at_396) rfl rfl ?_
        refine o_goto (pc' := 401) X270 hx (hb hby at_397) (by decide) (by decide) ?_
        refine o_istore (pc' := 403) (l' := #[.val (.int x0), .val (.int x1), .val (.int x2), .val (.int x3), .val (.int (2 : Int32)), .val (.int cp), .val (.ref b118), .val (.int (128 : Int32)), .val (.int v144), .val (.int (2 : Int32)), .val (.ref b238), .val (.int (1 : Int32)), .val (.int (1 : Int32)), .unset, .unset]) X270 hx (hb hby at_401) rfl rfl ?_
        refine o_iload (pc' := 405) X270 hx (hb hby at_403) rfl rfl ?_
        refine o_aload (pc' := 407) X270 hx (hb hby at_405) rfl rfl rfl ?_
        obtain ⟨r288, T288, L288, X288, hq288, st288⟩ := o_callV X270 hx hZ hown (hw _ (List.mem_of_getElem? (i := 33) rfl)) (hw _ (List.mem_of_getElem? (i := 34) rfl)) (hw _ (List.mem_of_getElem? (i := 36) rfl)) (hw _ (List.mem_of_getElem? (i := 35) rfl)) (hw _ (List.mem_of_getElem? (i := 9) rfl)) (hw _ (List.mem_of_getElem? (i := 37) rfl)) (by decide) E270_ (rm6 l Z a0 hw b238 (0 : Int32) T270.heap n0 Z283 E270_ F270_given) (rfl : T270.heap = _) (pc' := 410) (Ls := #[.val (.int x0), .val (.int x1), .val (.int x2), .val (.int x3), .val (.int (2 : Int32)), .val (.int cp), .val (.ref b118), .val (.int (128 : Int32)), .val (.int v144), .val (.int (2 : Int32)), .val (.ref b238), .val (.int (1 : Int32)), .val (.int (1 : Int32)), .unset, .unset]) (by rw [hml]; rfl) [] [(.int (1 : Int32))] rfl pd4 rfl rfl 1 (Nat.le_of_eq rfl) (hb hby at_407) rfl (by decide) (by decide) (by decide) (by decide)
        obtain ⟨rfl, rfl, Kc288⟩ := hq288
        refine oGo.step (f' := (mkF m 410 #[.val (.int x0), .val (.int x1), .val (.int x2), .val (.int x3), .val (.int (2 : Int32)), .val (.int cp), .val (.ref b118), .val (.int (128 : Int32)), .val (.int v144), .val (.int (2 : Int32)), .val (.ref b238), .val (.int (1 : Int32)), .val (.int (1 : Int32)), .unset, .unset] [(.int (0 : Int32)), (.int (1 : Int32))])) st288 ?_
        have e288 : T288.heap = T270.heap := Kc288
        have X288 := o_same X288 rfl rfl
        refine o_iload (pc' := 412) X288 hx (hb hby at_410) rfl rfl ?_
        refine o_ifF (pc' := 415) X288 hx (hb hby at_412) (XT.i0_eq_f (by decide)) rfl ?_
        refine o_iconst (pc' := 416) (v := (0 : Int32)) X288 hx (hb hby at_415) rfl rfl ?_
        refine o_goto (pc' := 421) X288 hx (hb hby at_416) (by decide) (by decide) ?_
        refine o_icmpF (pc' := 424) X288 hx (hb hby at_421) (XT.ii_ne_f (by decide)) rfl ?_
        refine o_iconst (pc' := 425) (v := (1 : Int32)) X288 hx (hb hby at_424) rfl rfl ?_
        refine o_goto (pc' := 429) X288 hx (hb hby at_425) (by decide) (by decide) ?_
        refine o_iand (pc' := 430) X288 hx (hb hby at_429)  rfl ?_
        rw [show ((1 : Int32) &&& (1 : Int32)) = (1 : Int32) from by decide]
        refine o_istore (pc' := 432) (l' := #[.val (.int x0), .val (.int x1), .val (.int x2), .val (.int x3), .val (.int (2 : Int32)), .val (.int cp), .val (.ref b118), .val (.int (128 : Int32)), .val (.int v144), .val (.int (2 : Int32)), .val (.ref b238), .val (.int (1 : Int32)), .val (.int (1 : Int32)), .unset, .unset]) X288 hx (hb hby at_430) rfl rfl ?_
        refine o_iloadN (pc' := 433) X288 hx (hb hby at_432) rfl rfl ?_
        refine o_bipush (pc' := 435) (v := (8 : Int32)) X288 hx (hb hby at_433) rfl rfl ?_
        refine o_iushr (pc' := 436) X288 hx (hb hby at_435)  rfl ?_
        refine o_iconst (pc' := 437) (v := (1 : Int32)) X288 hx (hb hby at_436) rfl rfl ?_
        refine o_iand (pc' := 438) X288 hx (hb hby at_437)  rfl ?_
        by_cases c289 : ((XT.ushr x3 (8 : Int32)) &&& (1 : Int32)) = 0
        · refine o_ifT (pc' := 573) X288 hx (hb hby at_438) (XT.i0_eq_t c289) (by decide) (by decide) ?_
          refine o_iload (pc' := 575) X288 hx (hb hby at_573) rfl rfl ?_
          refine o_ifF (pc' := 578) X288 hx (hb hby at_575) (XT.i0_eq_f (by decide)) rfl ?_
          refine o_iload (pc' := 580) X288 hx (hb hby at_578) rfl rfl ?_
          have J291 : ∀ (v292 : Int32), v292 = (if v144 = 0 then (0 : Int32) else (1 : Int32)) → oGo p e below (oG s (fun v h L => v = some (.int 1) ∧ Fr n0 L) room_1.cells room_1.slots) T288 (mkF m 588 #[.val (.int x0), .val (.int x1), .val (.int x2), .val (.int x3), .val (.int (2 : Int32)), .val (.int cp), .val (.ref b118), .val (.int (128 : Int32)), .val (.int v144), .val (.int (2 : Int32)), .val (.ref b238), .val (.int (1 : Int32)), .val (.int (1 : Int32)), .unset, .unset] [(.int v292)]) := by
            intro v292 hv292
            refine o_istore (pc' := 590) (l' := #[.val (.int x0), .val (.int x1), .val (.int x2), .val (.int x3), .val (.int (2 : Int32)), .val (.int cp), .val (.ref b118), .val (.int (128 : Int32)), .val (.int v144), .val (.int (2 : Int32)), .val (.ref b238), .val (.int (1 : Int32)), .val (.int (1 : Int32)), .val (.int v292), .unset]) X288 hx (hb hby at_588) rfl rfl ?_
            refine o_iload (pc' := 592) X288 hx (hb hby at_590) rfl rfl ?_
            refine o_aload (pc' := 594) X288 hx (hb hby at_592) rfl rfl rfl ?_
            obtain ⟨r293, T293, L293, X293, hq293, st293⟩ := o_callV X288 hx hZ hown (hw _ (List.mem_of_getElem? (i := 38) rfl)) (hw _ (List.mem_of_getElem? (i := 39) rfl)) (hw _ (List.mem_of_getElem? (i := 41) rfl)) (hw _ (List.mem_of_getElem? (i := 40) rfl)) (hw _ (List.mem_of_getElem? (i := 9) rfl)) (hw _ (List.mem_of_getElem? (i := 42) rfl)) (by decide) E270_ (rm7 l Z a0 hw b238 y284 (0 : Int32) (0 : Int32) y287 T270.heap n0 Z283 E270_ F270_codePoint F270_lacking F270_given F270_malformed ge240) e288 (pc' := 597) (Ls := #[.val (.int x0), .val (.int x1), .val (.int x2), .val (.int x3), .val (.int (2 : Int32)), .val (.int cp), .val (.ref b118), .val (.int (128 : Int32)), .val (.int v144), .val (.int (2 : Int32)), .val (.ref b238), .val (.int (1 : Int32)), .val (.int (1 : Int32)), .val (.int v292), .unset]) (by rw [hml]; rfl) [] [(.int (1 : Int32))] rfl pd5 rfl rfl 1 (Nat.le_of_eq rfl) (hb hby at_594) rfl (by decide) (by decide) (by decide) (by decide)
            obtain ⟨rfl, N293, Kc293, E293_, F293_codePoint, F293_lacking, F293_given, F293_malformed⟩ := hq293
            obtain ⟨y294, hy294⟩ : ∃ z, z = (spec7 (0 : Int32) y287) := ⟨_, rfl⟩
            rw [← hy294] at st293
            refine oGo.step (f' := (mkF m 597 #[.val (.int x0), .val (.int x1), .val (.int x2), .val (.int x3), .val (.int (2 : Int32)), .val (.int cp), .val (.ref b118), .val (.int (128 : Int32)), .val (.int v144), .val (.int (2 : Int32)), .val (.ref b238), .val (.int (1 : Int32)), .val (.int (1 : Int32)), .val (.int v292), .unset] [(.int y294), (.int (1 : Int32))])) st293 ?_
            have N293_ := Fr.app N270_ N293
            have K295 := Kc293
            have F296 := F273.keep K295 (allS ge240 all0)
            have F299 := F276.keep K295 (ninS ne239 nin0)
            have F300 := E270_.keep K295
            have Z306 := Nat.le_trans Z283 K295.1
            have X293 := o_flat X293 rfl rfl
            have hE : y294 = v292 := by rw [hy294, hv292, hzz, hval]; split <;> rfl
            refine o_iload (pc' := 599) X293 hx (hb hby at_597) rfl rfl ?_
            refine o_icmpF (pc' := 602) X293 hx (hb hby at_599) (XT.ii_ne_f hE) rfl ?_
            refine o_iconst (pc' := 603) (v := (1 : Int32)) X293 hx (hb hby at_602) rfl rfl ?_
            refine o_goto (pc' := 607) X293 hx (hb hby at_603) (by decide) (by decide) ?_
            refine o_iand (pc' := 608) X293 hx (hb hby at_607)  rfl ?_
            rw [show ((1 : Int32) &&& (1 : Int32)) = (1 : Int32) from by decide]
            refine o_istore (pc' := 610) (l' := #[.val (.int x0), .val (.int x1), .val (.int x2), .val (.int x3), .val (.int (2 : Int32)), .val (.int cp), .val (.ref b118), .val (.int (128 : Int32)), .val (.int v144), .val (.int (2 : Int32)), .val (.ref b238), .val (.int (1 : Int32)), .val (.int (1 : Int32)), .val (.int v292), .unset]) X293 hx (hb hby at_608) rfl rfl ?_
            refine o_iload (pc' := 612) X293 hx (hb hby at_610) rfl rfl ?_
            refine o_retZ X293 hx hret hlk (hb hby at_612) (by decide) (by decide) (by decide) ?_
            exact ⟨rfl, N293_⟩
          by_cases c290 : v144 = 0
          · refine o_ifT (pc' := 587) X288 hx (hb hby at_580) (XT.i0_eq_t c290) (by decide) (by decide) ?_
            refine o_iconst (pc' := 588) (v := (0 : Int32)) X288 hx (hb hby at_587) rfl rfl ?_
            exact J291 _ (if_pos c290).symm
          · refine o_ifF (pc' := 583) X288 hx (hb hby at_580) (XT.i0_eq_f c290) rfl ?_
            refine o_iconst (pc' := 584) (v := (1 : Int32)) X288 hx (hb hby at_583) rfl rfl ?_
            refine o_goto (pc' := 588) X288 hx (hb hby at_584) (by decide) (by decide) ?_
            exact J291 _ (if_neg c290).symm
        · refine o_ifF (pc' := 441) X288 hx (hb hby at_438) (XT.i0_eq_f c289) rfl ?_
          refine o_iloadN (pc' := 442) X288 hx (hb hby at_441) rfl rfl ?_
          refine o_sipush (pc' := 445) (v := (255 : Int32)) X288 hx (hb hby at_442) rfl rfl ?_
          refine o_iand (pc' := 446) X288 hx (hb hby at_445)  rfl ?_
          refine o_istore (pc' := 448) (l' := #[.val (.int x0), .val (.int x1), .val (.int x2), .val (.int x3), .val (.int (2 : Int32)), .val (.int cp), .val (.ref b118), .val (.int (128 : Int32)), .val (.int v144), .val (.int (2 : Int32)), .val (.ref b238), .val (.int (1 : Int32)), .val (.int (1 : Int32)), .unset, .val (.int (x3 &&& (255 : Int32)))]) X288 hx (hb hby at_446) rfl rfl ?_
          refine o_iload (pc' := 450) X288 hx (hb hby at_448) rfl rfl ?_
          refine o_ifT (pc' := 472) X288 hx (hb hby at_450) (XT.i0_ne_t (by decide)) (by decide) (by decide) ?_
          refine o_iload (pc' := 474) X288 hx (hb hby at_472) rfl rfl ?_
          refine o_aload (pc' := 476) X288 hx (hb hby at_474) rfl rfl rfl ?_
          refine o_iload (pc' := 478) X288 hx (hb hby at_476) rfl rfl ?_
          have htB := own_m255 x3
          obtain ⟨r307, T307, L307, X307, hq307, st307⟩ := o_callV X288 hx hZ hown (hw _ (List.mem_of_getElem? (i := 20) rfl)) (hw _ (List.mem_of_getElem? (i := 21) rfl)) (hw _ (List.mem_of_getElem? (i := 23) rfl)) (hw _ (List.mem_of_getElem? (i := 22) rfl)) (hw _ (List.mem_of_getElem? (i := 9) rfl)) (hw _ (List.mem_of_getElem? (i := 24) rfl)) (by decide) E270_ (rm5 l Z a0 hw b238 (x3 &&& (255 : Int32)) y284 (0 : Int32) (0 : Int32) y287 r_LEAST T270.heap n0 Z283 E270_ F270_codePoint F270_lacking F270_given F270_malformed ge240 hI270 F273 S_LEAST A_LEAST) e288 (pc' := 481) (Ls := #[.val (.int x0), .val (.int x1), .val (.int x2), .val (.int x3), .val (.int (2 : Int32)), .val (.int cp), .val (.ref b118), .val (.int (128 : Int32)), .val (.int v144), .val (.int (2 : Int32)), .val (.ref b238), .val (.int (1 : Int32)), .val (.int (1 : Int32)), .unset, .val (.int (x3 &&& (255 : Int32)))]) (by rw [hml]; rfl) [(.int (x3 &&& (255 : Int32)))] [(.int (1 : Int32))] rfl pd0 rfl rfl 1 (Nat.le_of_eq rfl) (hb hby at_478) rfl (by decide) (by decide) (by decide) (by decide)
          obtain ⟨rfl, N307, Kc307, E307_, F307_codePoint, F307_lacking, F307_given, F307_malformed⟩ := hq307
          obtain ⟨y308, hy308⟩ : ∃ z, z = (spec5 (x3 &&& (255 : Int32)) y284 (0 : Int32) (0 : Int32)) := ⟨_, rfl⟩
          rw [← hy308] at st307
          refine oGo.step (f' := (mkF m 481 #[.val (.int x0), .val (.int x1), .val (.int x2), .val (.int x3), .val (.int (2 : Int32)), .val (.int cp), .val (.ref b118), .val (.int (128 : Int32)), .val (.int v144), .val (.int (2 : Int32)), .val (.ref b238), .val (.int (1 : Int32)), .val (.int (1 : Int32)), .unset, .val (.int (x3 &&& (255 : Int32)))] [(.int y308), (.int (1 : Int32))])) st307 ?_
          have N307_ := Fr.app N270_ N307
          have K309 := Kc307
          have F310 := F273.keep K309 (allS ge240 all0)
          have F313 := F276.keep K309 (ninS ne239 nin0)
          have F314 := E270_.keep K309
          have Z320 := Nat.le_trans Z283 K309.1
          obtain ⟨y321, hy321⟩ : ∃ z, z = (fld5_codePoint (x3 &&& (255 : Int32)) y284 (0 : Int32)) := ⟨_, rfl⟩
          rw [← hy321] at F307_codePoint
          obtain ⟨y322, hy322⟩ : ∃ z, z = (fld5_lacking (x3 &&& (255 : Int32)) (0 : Int32)) := ⟨_, rfl⟩
          rw [← hy322] at F307_lacking
          obtain ⟨y323, hy323⟩ : ∃ z, z = (fld5_given (x3 &&& (255 : Int32)) (0 : Int32) (0 : Int32)) := ⟨_, rfl⟩
          rw [← hy323] at F307_given
          obtain ⟨y324, hy324⟩ : ∃ z, z = (fld5_malformed (x3 &&& (255 : Int32)) y284 (0 : Int32) (0 : Int32) y287) := ⟨_, rfl⟩
          rw [← hy324] at F307_malformed
          have hI307 : oInv y322 y323 y324 := by rw [hy322, hy323, hy324]; exact own_inv_next y284 (x3 &&& (255 : Int32)) hI270
          have X307 := o_flat X307 rfl rfl
          have hA := nx_any (t := (x3 &&& (255 : Int32))) (cp := y284) (k := (0 : Int32)) (g := (0 : Int32)) (z := y287) (by rw [hzz]; split; exact Or.inl rfl; exact Or.inr rfl) (Or.inl rfl)
          rw [← hy308, ← hy323] at hA
          refine o_iload (pc' := 483) X307 hx (hb hby at_481) rfl rfl ?_
          refine o_sipush (pc' := 486) (v := (128 : Int32)) X307 hx (hb hby at_483) rfl rfl ?_
          have J326 : ∀ (v327 : Int32), v327 = (if (x3 &&& (255 : Int32)) < (128 : Int32) then (x3 &&& (255 : Int32)) else (-1 : Int32)) → oGo p e below (oG s (fun v h L => v = some (.int 1) ∧ Fr n0 L) room_1.cells room_1.slots) T307 (mkF m 495 #[.val (.int x0), .val (.int x1), .val (.int x2), .val (.int x3), .val (.int (2 : Int32)), .val (.int cp), .val (.ref b118), .val (.int (128 : Int32)), .val (.int v144), .val (.int (2 : Int32)), .val (.ref b238), .val (.int (1 : Int32)), .val (.int (1 : Int32)), .unset, .val (.int (x3 &&& (255 : Int32)))] [(.int v327), (.int y308), (.int (1 : Int32))]) := by
            intro v327 hv327
            refine o_icmpF (pc' := 498) X307 hx (hb hby at_495) (XT.ii_ne_f (hA.1.trans hv327.symm)) rfl ?_
            refine o_iconst (pc' := 499) (v := (1 : Int32)) X307 hx (hb hby at_498) rfl rfl ?_
            refine o_goto (pc' := 503) X307 hx (hb hby at_499) (by decide) (by decide) ?_
            refine o_iand (pc' := 504) X307 hx (hb hby at_503)  rfl ?_
            rw [show ((1 : Int32) &&& (1 : Int32)) = (1 : Int32) from by decide]
            refine o_istore (pc' := 506) (l' := #[.val (.int x0), .val (.int x1), .val (.int x2), .val (.int x3), .val (.int (2 : Int32)), .val (.int cp), .val (.ref b118), .val (.int (128 : Int32)), .val (.int v144), .val (.int (2 : Int32)), .val (.ref b238), .val (.int (1 : Int32)), .val (.int (1 : Int32)), .unset, .val (.int (x3 &&& (255 : Int32)))]) X307 hx (hb hby at_504) rfl rfl ?_
            refine o_iload (pc' := 508) X307 hx (hb hby at_506) rfl rfl ?_
            refine o_aload (pc' := 510) X307 hx (hb hby at_508) rfl rfl rfl ?_
            obtain ⟨r328, T328, L328, X328, hq328, st328⟩ := o_callV X307 hx hZ hown (hw _ (List.mem_of_getElem? (i := 33) rfl)) (hw _ (List.mem_of_getElem? (i := 34) rfl)) (hw _ (List.mem_of_getElem? (i := 36) rfl)) (hw _ (List.mem_of_getElem? (i := 35) rfl)) (hw _ (List.mem_of_getElem? (i := 9) rfl)) (hw _ (List.mem_of_getElem? (i := 37) rfl)) (by decide) E307_ (rm6 l Z a0 hw b238 y323 T307.heap n0 Z320 E307_ F307_given) (rfl : T307.heap = _) (pc' := 513) (Ls := #[.val (.int x0), .val (.int x1), .val (.int x2), .val (.int x3), .val (.int (2 : Int32)), .val (.int cp), .val (.ref b118), .val (.int (128 : Int32)), .val (.int v144), .val (.int (2 : Int32)), .val (.ref b238), .val (.int (1 : Int32)), .val (.int (1 : Int32)), .unset, .val (.int (x3 &&& (255 : Int32)))]) (by rw [hml]; rfl) [] [(.int (1 : Int32))] rfl pd4 rfl rfl 1 (Nat.le_of_eq rfl) (hb hby at_510) rfl (by decide) (by decide) (by decide) (by decide)
            obtain ⟨rfl, rfl, Kc328⟩ := hq328
            refine oGo.step (f' := (mkF m 513 #[.val (.int x0), .val (.int x1), .val (.int x2), .val (.int x3), .val (.int (2 : Int32)), .val (.int cp), .val (.ref b118), .val (.int (128 : Int32)), .val (.int v144), .val (.int (2 : Int32)), .val (.ref b238), .val (.int (1 : Int32)), .val (.int (1 : Int32)), .unset, .val (.int (x3 &&& (255 : Int32)))] [(.int y323), (.int (1 : Int32))])) st328 ?_
            have e328 : T328.heap = T307.heap := Kc328
            have X328 := o_same X328 rfl rfl
            refine o_iload (pc' := 515) X328 hx (hb hby at_513) rfl rfl ?_
            refine o_sipush (pc' := 518) (v := (192 : Int32)) X328 hx (hb hby at_515) rfl rfl ?_
            have J330 : ∀ (v332 : Int32), v332 = (if (x3 &&& (255 : Int32)) < (192 : Int32) then (0 : Int32) else (if (247 : Int32) < (x3 &&& (255 : Int32)) then (0 : Int32) else (1 : Int32))) → oGo p e below (oG s (fun v h L => v = some (.int 1) ∧ Fr n0 L) room_1.cells room_1.slots) T328 (mkF m 534 #[.val (.int x0), .val (.int x1), .val (.int x2), .val (.int x3), .val (.int (2 : Int32)), .val (.int cp), .val (.ref b118), .val (.int (128 : Int32)), .val (.int v144), .val (.int (2 : Int32)), .val (.ref b238), .val (.int (1 : Int32)), .val (.int (1 : Int32)), .unset, .val (.int (x3 &&& (255 : Int32)))] [(.int v332), (.int y323), (.int (1 : Int32))]) := by
              intro v332 hv332
              refine o_icmpF (pc' := 537) X328 hx (hb hby at_534) (XT.ii_ne_f (hA.2.trans hv332.symm)) rfl ?_
              refine o_iconst (pc' := 538) (v := (1 : Int32)) X328 hx (hb hby at_537) rfl rfl ?_
              refine o_goto (pc' := 542) X328 hx (hb hby at_538) (by decide) (by decide) ?_
              refine o_iand (pc' := 543) X328 hx (hb hby at_542)  rfl ?_
              rw [show ((1 : Int32) &&& (1 : Int32)) = (1 : Int32) from by decide]
              refine o_istore (pc' := 545) (l' := #[.val (.int x0), .val (.int x1), .val (.int x2), .val (.int x3), .val (.int (2 : Int32)), .val (.int cp), .val (.ref b118), .val (.int (128 : Int32)), .val (.int v144), .val (.int (2 : Int32)), .val (.ref b238), .val (.int (1 : Int32)), .val (.int (1 : Int32)), .unset, .val (.int (x3 &&& (255 : Int32)))]) X328 hx (hb hby at_543) rfl rfl ?_
              refine o_iload (pc' := 547) X328 hx (hb hby at_545) rfl rfl ?_
              refine o_ifF (pc' := 550) X328 hx (hb hby at_547) (XT.i0_eq_f (by decide)) rfl ?_
              refine o_iload (pc' := 552) X328 hx (hb hby at_550) rfl rfl ?_
              have J334 : ∀ (v336 : Int32), v336 = (if v144 = 0 then (0 : Int32) else (if (x3 &&& (255 : Int32)) < (128 : Int32) then (1 : Int32) else (0 : Int32))) → oGo p e below (oG s (fun v h L => v = some (.int 1) ∧ Fr n0 L) room_1.cells room_1.slots) T328 (mkF m 568 #[.val (.int x0), .val (.int x1), .val (.int x2), .val (.int x3), .val (.int (2 : Int32)), .val (.int cp), .val (.ref b118), .val (.int (128 : Int32)), .val (.int v144), .val (.int (2 : Int32)), .val (.ref b238), .val (.int (1 : Int32)), .val (.int (1 : Int32)), .unset, .val (.int (x3 &&& (255 : Int32)))] [(.int v336)]) := by
                intro v336 hv336
                refine o_istore (pc' := 570) (l' := #[.val (.int x0), .val (.int x1), .val (.int x2), .val (.int x3), .val (.int (2 : Int32)), .val (.int cp), .val (.ref b118), .val (.int (128 : Int32)), .val (.int v144), .val (.int (2 : Int32)), .val (.ref b238), .val (.int (1 : Int32)), .val (.int (1 : Int32)), .val (.int v336), .val (.int (x3 &&& (255 : Int32)))]) X328 hx (hb hby at_568) rfl rfl ?_
                refine o_goto (pc' := 590) X328 hx (hb hby at_570) (by decide) (by decide) ?_
                refine o_iload (pc' := 592) X328 hx (hb hby at_590) rfl rfl ?_
                refine o_aload (pc' := 594) X328 hx (hb hby at_592) rfl rfl rfl ?_
                obtain ⟨r337, T337, L337, X337, hq337, st337⟩ := o_callV X328 hx hZ hown (hw _ (List.mem_of_getElem? (i := 38) rfl)) (hw _ (List.mem_of_getElem? (i := 39) rfl)) (hw _ (List.mem_of_getElem? (i := 41) rfl)) (hw _ (List.mem_of_getElem? (i := 40) rfl)) (hw _ (List.mem_of_getElem? (i := 9) rfl)) (hw _ (List.mem_of_getElem? (i := 42) rfl)) (by decide) E307_ (rm7 l Z a0 hw b238 y321 y322 y323 y324 T307.heap n0 Z320 E307_ F307_codePoint F307_lacking F307_given F307_malformed ge240) e328 (pc' := 597) (Ls := #[.val (.int x0), .val (.int x1), .val (.int x2), .val (.int x3), .val (.int (2 : Int32)), .val (.int cp), .val (.ref b118), .val (.int (128 : Int32)), .val (.int v144), .val (.int (2 : Int32)), .val (.ref b238), .val (.int (1 : Int32)), .val (.int (1 : Int32)), .val (.int v336), .val (.int (x3 &&& (255 : Int32)))]) (by rw [hml]; rfl) [] [(.int (1 : Int32))] rfl pd5 rfl rfl 1 (Nat.le_of_eq rfl) (hb hby at_594) rfl (by decide) (by decide) (by decide) (by decide)
                obtain ⟨rfl, N337, Kc337, E337_, F337_codePoint, F337_lacking, F337_given, F337_malformed⟩ := hq337
                obtain ⟨y338, hy338⟩ : ∃ z, z = (spec7 y322 y324) := ⟨_, rfl⟩
                rw [← hy338] at st337
                refine oGo.step (f' := (mkF m 597 #[.val (.int x0), .val (.int x1), .val (.int x2), .val (.int x3), .val (.int (2 : Int32)), .val (.int cp), .val (.ref b118), .val (.int (128 : Int32)), .val (.int v144), .val (.int (2 : Int32)), .val (.ref b238), .val (.int (1 : Int32)), .val (.int (1 : Int32)), .val (.int v336), .val (.int (x3 &&& (255 : Int32)))] [(.int y338), (.int (1 : Int32))])) st337 ?_
                have N337_ := Fr.app N307_ N337
                have K339 := Kc337
                have F340 := F310.keep K339 (allS ge240 all0)
                have F343 := F313.keep K339 (ninS ne239 nin0)
                have F344 := E307_.keep K339
                have Z350 := Nat.le_trans Z320 K339.1
                have X337 := o_flat X337 rfl rfl
                have hE : y338 = v336 := by rw [hy338, hy322, hy324]; rw [hv336]; exact end_whole hzz hval
                refine o_iload (pc' := 599) X337 hx (hb hby at_597) rfl rfl ?_
                refine o_icmpF (pc' := 602) X337 hx (hb hby at_599) (XT.ii_ne_f hE) rfl ?_
                refine o_iconst (pc' := 603) (v := (1 : Int32)) X337 hx (hb hby at_602) rfl rfl ?_
                refine o_goto (pc' := 607) X337 hx (hb hby at_603) (by decide) (by decide) ?_
                refine o_iand (pc' := 608) X337 hx (hb hby at_607)  rfl ?_
                rw [show ((1 : Int32) &&& (1 : Int32)) = (1 : Int32) from by decide]
                refine o_istore (pc' := 610) (l' := #[.val (.int x0), .val (.int x1), .val (.int x2), .val (.int x3), .val (.int (2 : Int32)), .val (.int cp), .val (.ref b118), .val (.int (128 : Int32)), .val (.int v144), .val (.int (2 : Int32)), .val (.ref b238), .val (.int (1 : Int32)), .val (.int (1 : Int32)), .val (.int v336), .val (.int (x3 &&& (255 : Int32)))]) X337 hx (hb hby at_608) rfl rfl ?_
                refine o_iload (pc' := 612) X337 hx (hb hby at_610) rfl rfl ?_
                refine o_retZ X337 hx hret hlk (hb hby at_612) (by decide) (by decide) (by decide) ?_
                exact ⟨rfl, N337_⟩
              by_cases c333 : v144 = 0
              · refine o_ifT (pc' := 567) X328 hx (hb hby at_552) (XT.i0_eq_t c333) (by decide) (by decide) ?_
                refine o_iconst (pc' := 568) (v := (0 : Int32)) X328 hx (hb hby at_567) rfl rfl ?_
                exact J334 _ (if_pos c333).symm
              · refine o_ifF (pc' := 555) X328 hx (hb hby at_552) (XT.i0_eq_f c333) rfl ?_
                refine o_iload (pc' := 557) X328 hx (hb hby at_555) rfl rfl ?_
                refine o_sipush (pc' := 560) (v := (128 : Int32)) X328 hx (hb hby at_557) rfl rfl ?_
                by_cases c335 : (x3 &&& (255 : Int32)) < (128 : Int32)
                · refine o_icmpF (pc' := 563) X328 hx (hb hby at_560) (XT.ii_ge_f c335) rfl ?_
                  refine o_iconst (pc' := 564) (v := (1 : Int32)) X328 hx (hb hby at_563) rfl rfl ?_
                  refine o_goto (pc' := 568) X328 hx (hb hby at_564) (by decide) (by decide) ?_
                  exact J334 _ ((if_neg c333).trans (if_pos c335)).symm
                · refine o_icmpT (pc' := 567) X328 hx (hb hby at_560) (XT.ii_ge_t c335) (by decide) (by decide) ?_
                  refine o_iconst (pc' := 568) (v := (0 : Int32)) X328 hx (hb hby at_567) rfl rfl ?_
                  exact J334 _ ((if_neg c333).trans (if_neg c335)).symm
            by_cases c329 : (x3 &&& (255 : Int32)) < (192 : Int32)
            · refine o_icmpT (pc' := 533) X328 hx (hb hby at_518) (XT.ii_lt_t c329) (by decide) (by decide) ?_
              refine o_iconst (pc' := 534) (v := (0 : Int32)) X328 hx (hb hby at_533) rfl rfl ?_
              exact J330 _ (if_pos c329).symm
            · refine o_icmpF (pc' := 521) X328 hx (hb hby at_518) (XT.ii_lt_f c329) rfl ?_
              refine o_iload (pc' := 523) X328 hx (hb hby at_521) rfl rfl ?_
              refine o_sipush (pc' := 526) (v := (247 : Int32)) X328 hx (hb hby at_523) rfl rfl ?_
              by_cases c331 : (247 : Int32) < (x3 &&& (255 : Int32))
              · refine o_icmpT (pc' := 533) X328 hx (hb hby at_526) (XT.ii_gt_t c331) (by decide) (by decide) ?_
                refine o_iconst (pc' := 534) (v := (0 : Int32)) X328 hx (hb hby at_533) rfl rfl ?_
                exact J330 _ ((if_neg c329).trans (if_pos c331)).symm
              · refine o_icmpF (pc' := 529) X328 hx (hb hby at_526) (XT.ii_gt_f c331) rfl ?_
                refine o_iconst (pc' := 530) (v := (1 : Int32)) X328 hx (hb hby at_529) rfl rfl ?_
                refine o_goto (pc' := 534) X328 hx (hb hby at_530) (by decide) (by decide) ?_
                exact J330 _ ((if_neg c329).trans (if_neg c331)).symm
          by_cases c325 : (x3 &&& (255 : Int32)) < (128 : Int32)
          · refine o_icmpF (pc' := 489) X307 hx (hb hby at_486) (XT.ii_ge_f c325) rfl ?_
            refine o_iload (pc' := 491) X307 hx (hb hby at_489) rfl rfl ?_
            refine o_goto (pc' := 495) X307 hx (hb hby at_491) (by decide) (by decide) ?_
            exact J326 _ (if_pos c325).symm
          · refine o_icmpT (pc' := 494) X307 hx (hb hby at_486) (XT.ii_ge_t c325) (by decide) (by decide) ?_
            refine o_iconst (pc' := 495) (v := (-1 : Int32)) X307 hx (hb hby at_494) rfl rfl ?_
            exact J326 _ (if_neg c325).symm
    by_cases c139 : cp < (128 : Int32)
    · refine o_icmpT (pc' := 266) X132 hx (hb hby at_238) (XT.ii_lt_t c139) (by decide) (by decide) ?_
      refine o_iconst (pc' := 267) (v := (0 : Int32)) X132 hx (hb hby at_266) rfl rfl ?_
      exact J140 _ (if_pos c139).symm
    · refine o_icmpF (pc' := 241) X132 hx (hb hby at_238) (XT.ii_lt_f c139) rfl ?_
      refine o_iload (pc' := 243) X132 hx (hb hby at_241) rfl rfl ?_
      refine o_ldc (pc' := 245) (v := (1114111 : Int32)) X132 hx hZ hown (hw _ (List.mem_of_getElem? (i := 44) rfl)) (hb hby at_243) rfl ?_
      by_cases c141 : (1114111 : Int32) < cp
      · refine o_icmpT (pc' := 266) X132 hx (hb hby at_245) (XT.ii_gt_t c141) (by decide) (by decide) ?_
        refine o_iconst (pc' := 267) (v := (0 : Int32)) X132 hx (hb hby at_266) rfl rfl ?_
        exact J140 _ ((if_neg c139).trans (if_pos c141)).symm
      · refine o_icmpF (pc' := 248) X132 hx (hb hby at_245) (XT.ii_gt_f c141) rfl ?_
        refine o_iload (pc' := 250) X132 hx (hb hby at_248) rfl rfl ?_
        refine o_ldc (pc' := 252) (v := (55296 : Int32)) X132 hx hZ hown (hw _ (List.mem_of_getElem? (i := 45) rfl)) (hb hby at_250) rfl ?_
        by_cases c142 : cp < (55296 : Int32)
        · refine o_icmpT (pc' := 262) X132 hx (hb hby at_252) (XT.ii_lt_t c142) (by decide) (by decide) ?_
          refine o_iconst (pc' := 263) (v := (1 : Int32)) X132 hx (hb hby at_262) rfl rfl ?_
          refine o_goto (pc' := 267) X132 hx (hb hby at_263) (by decide) (by decide) ?_
          exact J140 _ ((if_neg c139).trans ((if_neg c141).trans (if_pos c142))).symm
        · refine o_icmpF (pc' := 255) X132 hx (hb hby at_252) (XT.ii_lt_f c142) rfl ?_
          refine o_iload (pc' := 257) X132 hx (hb hby at_255) rfl rfl ?_
          refine o_ldc (pc' := 259) (v := (57343 : Int32)) X132 hx hZ hown (hw _ (List.mem_of_getElem? (i := 46) rfl)) (hb hby at_257) rfl ?_
          by_cases c143 : (57343 : Int32) < cp
          · refine o_icmpF (pc' := 262) X132 hx (hb hby at_259) (XT.ii_le_f c143) rfl ?_
            refine o_iconst (pc' := 263) (v := (1 : Int32)) X132 hx (hb hby at_262) rfl rfl ?_
            refine o_goto (pc' := 267) X132 hx (hb hby at_263) (by decide) (by decide) ?_
            exact J140 _ ((if_neg c139).trans ((if_neg c141).trans ((if_neg c142).trans (if_pos c143)))).symm
          · refine o_icmpT (pc' := 266) X132 hx (hb hby at_259) (XT.ii_le_t c143) (by decide) (by decide) ?_
            refine o_iconst (pc' := 267) (v := (0 : Int32)) X132 hx (hb hby at_266) rfl rfl ?_
            exact J140 _ ((if_neg c139).trans ((if_neg c141).trans ((if_neg c142).trans (if_neg c143)))).symm
  · rw [hl]
    refine o_iconst (pc' := 8) (v := (4 : Int32)) X0 hx (hb hby at_7) rfl rfl ?_
    obtain ⟨T351, h351_, X351, e351, E351, A351, st351⟩ := o_newI (Ls := #[.val (.int x0), .val (.int x1), .val (.int x2), .val (.int x3), .val (.int (3 : Int32)), .unset, .unset, .unset, .unset, .unset, .unset, .unset, .unset, .unset, .unset]) (st := []) (n := (4 : Int32)) X0 hx hZ (hw _ (List.mem_of_getElem? (i := 0) rfl)) e0 (hb hby at_8) (by decide) 4 (by decide) (by decide) (by decide) (by decide) rfl
    obtain ⟨b351, g351⟩ : ∃ z, z = h0.size := ⟨_, rfl⟩
    rw [← g351] at A351 st351
    replace A351 : oInts Z h351_ b351 [(0 : Int32), (0 : Int32), (0 : Int32), (0 : Int32)] := A351
    have ge352 : n0 ≤ b351 := by rw [g351]; exact Z0
    have K353 := (Keep.refl h0 []).ext E351
    have F354 := O0.keep K353 all0
    have Z357 := Nat.le_trans Z0 K353.1
    refine oGo.step (f' := (mkF m 10 #[.val (.int x0), .val (.int x1), .val (.int x2), .val (.int x3), .val (.int (3 : Int32)), .unset, .unset, .unset, .unset, .unset, .unset, .unset, .unset, .unset, .unset] [(.ref b351)])) st351 ?_
    refine o_astore (pc' := 12) (l' := #[.val (.int x0), .val (.int x1), .val (.int x2), .val (.int x3), .val (.int (3 : Int32)), .unset, .val (.ref b351), .unset, .unset, .unset, .unset, .unset, .unset, .unset, .unset]) X351 hx (hb hby at_10) rfl rfl rfl ?_
    refine o_iload (pc' := 14) X351 hx (hb hby at_12) rfl rfl ?_
    refine o_iconst (pc' := 15) (v := (1 : Int32)) X351 hx (hb hby at_14) rfl rfl ?_
    refine o_icmpT (pc' := 33) X351 hx (hb hby at_15) (XT.ii_ne_t (by decide)) (by decide) (by decide) ?_
    refine o_iload (pc' := 35) X351 hx (hb hby at_33) rfl rfl ?_
    refine o_iconst (pc' := 36) (v := (2 : Int32)) X351 hx (hb hby at_35) rfl rfl ?_
    refine o_icmpT (pc' := 75) X351 hx (hb hby at_36) (XT.ii_ne_t (by decide)) (by decide) (by decide) ?_
    refine o_iload (pc' := 77) X351 hx (hb hby at_75) rfl rfl ?_
    refine o_iconst (pc' := 78) (v := (3 : Int32)) X351 hx (hb hby at_77) rfl rfl ?_
    refine o_icmpF (pc' := 81) X351 hx (hb hby at_78) (XT.ii_ne_f (by decide)) rfl ?_
    refine o_iloadN (pc' := 82) X351 hx (hb hby at_81) rfl rfl ?_
    refine o_ldc (pc' := 84) (v := (65535 : Int32)) X351 hx hZ hown (hw _ (List.mem_of_getElem? (i := 43) rfl)) (hb hby at_82) rfl ?_
    refine o_iand (pc' := 85) X351 hx (hb hby at_84)  rfl ?_
    refine o_istore (pc' := 87) (l' := #[.val (.int x0), .val (.int x1), .val (.int x2), .val (.int x3), .val (.int (3 : Int32)), .val (.int (x0 &&& (65535 : Int32))), .val (.ref b351), .unset, .unset, .unset, .unset, .unset, .unset, .unset, .unset]) X351 hx (hb hby at_85) rfl rfl ?_
    have hcm := c_mask x0 65535 16 (by decide) (by decide)
    generalize hcp : (x0 &&& (65535 : Int32)) = cp at hcm ⊢
    have hc0 : 0 ≤ cp.toInt := by omega
    have hc1 : cp.toInt < 65536 := by omega
    have hcn : ¬ cp = -1 := fun q => by rw [q] at hc0; exact absurd hc0 (by decide)
    refine o_aload (pc' := 89) X351 hx (hb hby at_87) rfl rfl rfl ?_
    refine o_iconst (pc' := 90) (v := (0 : Int32)) X351 hx (hb hby at_89) rfl rfl ?_
    refine o_sipush (pc' := 93) (v := (224 : Int32)) X351 hx (hb hby at_90) rfl rfl ?_
    refine o_iload (pc' := 95) X351 hx (hb hby at_93) rfl rfl ?_
    refine o_bipush (pc' := 97) (v := (12 : Int32)) X351 hx (hb hby at_95) rfl rfl ?_
    refine o_ishr (pc' := 98) X351 hx (hb hby at_97)  rfl ?_
    refine o_ior (pc' := 99) X351 hx (hb hby at_98)  rfl ?_
    obtain ⟨T358, h358_, X358, e358, W358, st358⟩ := o_iastore (x := ((224 : Int32) ||| (cp >>> ((12 : Int32) &&& 31)))) (j := (0 : Int32)) (Ls := #[.val (.int x0), .val (.int x1), .val (.int x2), .val (.int x3), .val (.int (3 : Int32)), .val (.int cp), .val (.ref b351), .unset, .unset, .unset, .unset, .unset, .unset, .unset, .unset]) (st := []) X351 hx hZ e351 A351 (hb hby at_99) (by decide) (show _ < 4 by decide) rfl
    refine oGo.step (f' := (mkF m 100 #[.val (.int x0), .val (.int x1), .val (.int x2), .val (.int x3), .val (.int (3 : Int32)), .val (.int cp), .val (.ref b351), .unset, .unset, .unset, .unset, .unset, .unset, .unset, .unset] [])) st358 ?_
    have N358 := Fr.snoc X358 N0 ge352
    have F359 := A351.set W358
    replace F359 : oInts Z h358_ b351 [((224 : Int32) ||| (cp >>> ((12 : Int32) &&& 31))), (0 : Int32), (0 : Int32), (0 : Int32)] := F359
    have K360 := Keep.of_wr W358
    have F361 := F354.keep K360 (allS ge352 all0)
    have Z364 := Nat.le_trans Z357 K360.1
    refine o_aload (pc' := 102) X358 hx (hb hby at_100) rfl rfl rfl ?_
    refine o_iconst (pc' := 103) (v := (1 : Int32)) X358 hx (hb hby at_102) rfl rfl ?_
    refine o_sipush (pc' := 106) (v := (128 : Int32)) X358 hx (hb hby at_103) rfl rfl ?_
    refine o_iload (pc' := 108) X358 hx (hb hby at_106) rfl rfl ?_
    refine o_bipush (pc' := 110) (v := (6 : Int32)) X358 hx (hb hby at_108) rfl rfl ?_
    refine o_ishr (pc' := 111) X358 hx (hb hby at_110)  rfl ?_
    refine o_bipush (pc' := 113) (v := (63 : Int32)) X358 hx (hb hby at_111) rfl rfl ?_
    refine o_iand (pc' := 114) X358 hx (hb hby at_113)  rfl ?_
    refine o_ior (pc' := 115) X358 hx (hb hby at_114)  rfl ?_
    obtain ⟨T365, h365_, X365, e365, W365, st365⟩ := o_iastore (x := ((128 : Int32) ||| ((cp >>> ((6 : Int32) &&& 31)) &&& (63 : Int32)))) (j := (1 : Int32)) (Ls := #[.val (.int x0), .val (.int x1), .val (.int x2), .val (.int x3), .val (.int (3 : Int32)), .val (.int cp), .val (.ref b351), .unset, .unset, .unset, .unset, .unset, .unset, .unset, .unset]) (st := []) X358 hx hZ e358 F359 (hb hby at_115) (by decide) (show _ < 4 by decide) rfl
    refine oGo.step (f' := (mkF m 116 #[.val (.int x0), .val (.int x1), .val (.int x2), .val (.int x3), .val (.int (3 : Int32)), .val (.int cp), .val (.ref b351), .unset, .unset, .unset, .unset, .unset, .unset, .unset, .unset] [])) st365 ?_
    have N365 := Fr.snoc X365 N358 ge352
    have F366 := F359.set W365
    replace F366 : oInts Z h365_ b351 [((224 : Int32) ||| (cp >>> ((12 : Int32) &&& 31))), ((128 : Int32) ||| ((cp >>> ((6 : Int32) &&& 31)) &&& (63 : Int32))), (0 : Int32), (0 : Int32)] := F366
    have K367 := Keep.of_wr W365
    have F368 := F361.keep K367 (allS ge352 all0)
    have Z371 := Nat.le_trans Z364 K367.1
    refine o_aload (pc' := 118) X365 hx (hb hby at_116) rfl rfl rfl ?_
    refine o_iconst (pc' := 119) (v := (2 : Int32)) X365 hx (hb hby at_118) rfl rfl ?_
    refine o_sipush (pc' := 122) (v := (128 : Int32)) X365 hx (hb hby at_119) rfl rfl ?_
    refine o_iload (pc' := 124) X365 hx (hb hby at_122) rfl rfl ?_
    refine o_bipush (pc' := 126) (v := (63 : Int32)) X365 hx (hb hby at_124) rfl rfl ?_
    refine o_iand (pc' := 127) X365 hx (hb hby at_126)  rfl ?_
    refine o_ior (pc' := 128) X365 hx (hb hby at_127)  rfl ?_
    obtain ⟨T372, h372_, X372, e372, W372, st372⟩ := o_iastore (x := ((128 : Int32) ||| (cp &&& (63 : Int32)))) (j := (2 : Int32)) (Ls := #[.val (.int x0), .val (.int x1), .val (.int x2), .val (.int x3), .val (.int (3 : Int32)), .val (.int cp), .val (.ref b351), .unset, .unset, .unset, .unset, .unset, .unset, .unset, .unset]) (st := []) X365 hx hZ e365 F366 (hb hby at_128) (by decide) (show _ < 4 by decide) rfl
    refine oGo.step (f' := (mkF m 129 #[.val (.int x0), .val (.int x1), .val (.int x2), .val (.int x3), .val (.int (3 : Int32)), .val (.int cp), .val (.ref b351), .unset, .unset, .unset, .unset, .unset, .unset, .unset, .unset] [])) st372 ?_
    have N372 := Fr.snoc X372 N365 ge352
    have F373 := F366.set W372
    replace F373 : oInts Z h372_ b351 [((224 : Int32) ||| (cp >>> ((12 : Int32) &&& 31))), ((128 : Int32) ||| ((cp >>> ((6 : Int32) &&& 31)) &&& (63 : Int32))), ((128 : Int32) ||| (cp &&& (63 : Int32))), (0 : Int32)] := F373
    have K374 := Keep.of_wr W372
    have F375 := F368.keep K374 (allS ge352 all0)
    have Z378 := Nat.le_trans Z371 K374.1
    refine o_goto (pc' := 196) X372 hx (hb hby at_129) (by decide) (by decide) ?_
    refine o_iload (pc' := 198) X372 hx (hb hby at_196) rfl rfl ?_
    refine o_iconst (pc' := 199) (v := (1 : Int32)) X372 hx (hb hby at_198) rfl rfl ?_
    refine o_icmpT (pc' := 206) X372 hx (hb hby at_199) (XT.ii_ne_t (by decide)) (by decide) (by decide) ?_
    refine o_iload (pc' := 208) X372 hx (hb hby at_206) rfl rfl ?_
    refine o_iconst (pc' := 209) (v := (2 : Int32)) X372 hx (hb hby at_208) rfl rfl ?_
    refine o_icmpT (pc' := 218) X372 hx (hb hby at_209) (XT.ii_ne_t (by decide)) (by decide) (by decide) ?_
    refine o_iload (pc' := 220) X372 hx (hb hby at_218) rfl rfl ?_
    refine o_iconst (pc' := 221) (v := (3 : Int32)) X372 hx (hb hby at_220) rfl rfl ?_
    refine o_icmpF (pc' := 224) X372 hx (hb hby at_221) (XT.ii_ne_f (by decide)) rfl ?_
    refine o_sipush (pc' := 227) (v := (2048 : Int32)) X372 hx (hb hby at_224) rfl rfl ?_
    refine o_goto (pc' := 232) X372 hx (hb hby at_227) (by decide) (by decide) ?_
    refine o_istore (pc' := 234) (l' := #[.val (.int x0), .val (.int x1), .val (.int x2), .val (.int x3), .val (.int (3 : Int32)), .val (.int cp), .val (.ref b351), .val (.int (2048 : Int32)), .unset, .unset, .unset, .unset, .unset, .unset, .unset]) X372 hx (hb hby at_232) rfl rfl ?_
    refine o_iload (pc' := 236) X372 hx (hb hby at_234) rfl rfl ?_
    refine o_iload (pc' := 238) X372 hx (hb hby at_236) rfl rfl ?_
    have J380 : ∀ (v384 : Int32), v384 = (if cp < (2048 : Int32) then (0 : Int32) else (if (1114111 : Int32) < cp then (0 : Int32) else (if cp < (55296 : Int32) then (1 : Int32) else (if (57343 : Int32) < cp then (1 : Int32) else (0 : Int32))))) → oGo p e below (oG s (fun v h L => v = some (.int 1) ∧ Fr n0 L) room_1.cells room_1.slots) T372 (mkF m 267 #[.val (.int x0), .val (.int x1), .val (.int x2), .val (.int x3), .val (.int (3 : Int32)), .val (.int cp), .val (.ref b351), .val (.int (2048 : Int32)), .unset, .unset, .unset, .unset, .unset, .unset, .unset] [(.int v384)]) := by
      intro v384 hv384
      refine o_istore (pc' := 269) (l' := #[.val (.int x0), .val (.int x1), .val (.int x2), .val (.int x3), .val (.int (3 : Int32)), .val (.int cp), .val (.ref b351), .val (.int (2048 : Int32)), .val (.int v384), .unset, .unset, .unset, .unset, .unset, .unset]) X372 hx (hb hby at_267) rfl rfl ?_
      have hval := own_valid (g := 2) rfl hv384
      refine o_iload (pc' := 271) X372 hx (hb hby at_269) rfl rfl ?_
      refine o_iconst (pc' := 272) (v := (1 : Int32)) X372 hx (hb hby at_271) rfl rfl ?_
      refine o_iloadN (pc' := 273) X372 hx (hb hby at_272) rfl rfl ?_
      refine o_iconst (pc' := 274) (v := (3 : Int32)) X372 hx (hb hby at_273) rfl rfl ?_
      refine o_iand (pc' := 275) X372 hx (hb hby at_274)  rfl ?_
      refine o_iadd (pc' := 276) X372 hx (hb hby at_275)  rfl ?_
      obtain ⟨r385, T385, L385, X385, hq385, st385⟩ := o_callS X372 hx hZ hown (hw _ (List.mem_of_getElem? (i := 3) rfl)) (hw _ (List.mem_of_getElem? (i := 4) rfl)) (hw _ (List.mem_of_getElem? (i := 5) rfl)) (hw _ (List.mem_of_getElem? (i := 6) rfl)) (by decide) (rm1 l Z a0 hw (3 : Int32) ((1 : Int32) + (x2 &&& (3 : Int32)))  h372_ n0 Z378 ) e372 (pc' := 279) (Ls := #[.val (.int x0), .val (.int x1), .val (.int x2), .val (.int x3), .val (.int (3 : Int32)), .val (.int cp), .val (.ref b351), .val (.int (2048 : Int32)), .val (.int v384), .unset, .unset, .unset, .unset, .unset, .unset]) (by rw [hml]; rfl) [(.int (3 : Int32)), (.int ((1 : Int32) + (x2 &&& (3 : Int32))))] [] rfl pd1 rfl rfl 0 (Nat.le_of_eq rfl) (hb hby at_276) rfl (by decide) (by decide) (by decide) (by decide)
      obtain ⟨rfl, rfl, Kc385⟩ := hq385
      obtain ⟨y386, hy386⟩ : ∃ z, z = (spec1 (3 : Int32) ((1 : Int32) + (x2 &&& (3 : Int32)))) := ⟨_, rfl⟩
      rw [← hy386] at st385
      refine oGo.step (f' := (mkF m 279 #[.val (.int x0), .val (.int x1), .val (.int x2), .val (.int x3), .val (.int (3 : Int32)), .val (.int cp), .val (.ref b351), .val (.int (2048 : Int32)), .val (.int v384), .unset, .unset, .unset, .unset, .unset, .unset] [(.int y386)])) st385 ?_
      have e385 : T385.heap = h372_ := Kc385
      have X385 := o_same X385 rfl rfl
      refine o_istore (pc' := 281) (l' := #[.val (.int x0), .val (.int x1), .val (.int x2), .val (.int x3), .val (.int (3 : Int32)), .val (.int cp), .val (.ref b351), .val (.int (2048 : Int32)), .val (.int v384), .val (.int y386), .unset, .unset, .unset, .unset, .unset]) X385 hx (hb hby at_279) rfl rfl ?_
      rcases (show y386 = (1 : Int32) ∨ y386 = (2 : Int32) ∨ y386 = (3 : Int32) by rw [hy386]; exact own_k3 x2) with rfl | rfl | rfl
      · obtain ⟨T387, h387_, X387, e387, E387, A387, D387, -, st387⟩ := newO X385 hx hZ hown (hw _ (List.mem_of_getElem? (i := 7) rfl)) (hw _ (List.mem_of_getElem? (i := 8) rfl)) (hw _ (List.mem_of_getElem? (i := 9) rfl)) e385 (g := (mkF m 281 #[.val (.int x0), .val (.int x1), .val (.int x2), .val (.int x3), .val (.int (3 : Int32)), .val (.int cp), .val (.ref b351), .val (.int (2048 : Int32)), .val (.int v384), .val (.int (1 : Int32)), .unset, .unset, .unset, .unset, .unset] [])) rfl (hb hby at_281) (by decide) (by decide)
        obtain ⟨b387, g387⟩ : ∃ z, z = h372_.size := ⟨_, rfl⟩
        rw [← g387] at A387 D387 st387
        have ne388 : b351 ≠ b387 := by rw [g387]; exact Nat.ne_of_lt F373.lt
        have ge389 : n0 ≤ b387 := by rw [g387]; exact Z378
        have K390 := (Keep.refl h372_ []).ext E387
        have F391 := F375.keep K390 all0
        have F394 := F373.keep K390 nin0
        have Z395 := Nat.le_trans Z378 K390.1
        have F396 : Fld Z h387_ b387 "com/example/harborlog/harborlog/Utf8Decoder" "lacking" "I" (.int (0 : Int32)) := D387 (Or.inl (hw _ (List.mem_of_getElem? (i := 26) rfl))) (ty := .int) (by decide)
        have F397 : Fld Z h387_ b387 "com/example/harborlog/harborlog/Utf8Decoder" "malformed" "Z" (.int (0 : Int32)) := D387 (Or.inl (hw _ (List.mem_of_getElem? (i := 28) rfl))) (ty := .boolean) (by decide)
        have F398 : Fld Z h387_ b387 "com/example/harborlog/harborlog/Utf8Decoder" "given" "I" (.int (0 : Int32)) := D387 (Or.inl (hw _ (List.mem_of_getElem? (i := 30) rfl))) (ty := .int) (by decide)
        have F399 : Fld Z h387_ b387 "com/example/harborlog/harborlog/Utf8Decoder" "codePoint" "I" (.int (0 : Int32)) := D387 (Or.inl (hw _ (List.mem_of_getElem? (i := 32) rfl))) (ty := .int) (by decide)
        refine oGo.step (f' := (mkF m 284 #[.val (.int x0), .val (.int x1), .val (.int x2), .val (.int x3), .val (.int (3 : Int32)), .val (.int cp), .val (.ref b351), .val (.int (2048 : Int32)), .val (.int v384), .val (.int (1 : Int32)), .unset, .unset, .unset, .unset, .unset] [(.ref b387)])) st387 ?_
        refine o_dup (pc' := 285) X387 hx (hb hby at_284) rfl rfl ?_
        obtain ⟨r400, T400, L400, X400, hq400, st400⟩ := o_callN X387 hx hZ hown rfl (hw _ (List.mem_of_getElem? (i := 10) rfl)) (hw _ (List.mem_of_getElem? (i := 11) rfl)) (hw _ (List.mem_of_getElem? (i := 9) rfl)) (hw _ (List.mem_of_getElem? (i := 12) rfl)) (by decide) (rm2 l Z a0 hw b387 h387_ n0 Z395 ) e387 (pc' := 288) (Ls := #[.val (.int x0), .val (.int x1), .val (.int x2), .val (.int x3), .val (.int (3 : Int32)), .val (.int cp), .val (.ref b351), .val (.int (2048 : Int32)), .val (.int v384), .val (.int (1 : Int32)), .unset, .unset, .unset, .unset, .unset]) (by rw [hml]; rfl) [] [(.ref b387)] rfl pd2 rfl rfl 1 (Nat.le_of_eq rfl) (hb hby at_285) rfl (by decide) (by decide) (by decide) (by decide)
        obtain ⟨rfl, rfl, Kc400⟩ := hq400
        refine oGo.step (f' := (mkF m 288 #[.val (.int x0), .val (.int x1), .val (.int x2), .val (.int x3), .val (.int (3 : Int32)), .val (.int cp), .val (.ref b351), .val (.int (2048 : Int32)), .val (.int v384), .val (.int (1 : Int32)), .unset, .unset, .unset, .unset, .unset] [(.ref b387)])) st400 ?_
        have e400 : T400.heap = h387_ := Kc400
        have X400 := o_same X400 rfl rfl
        refine o_astore (pc' := 290) (l' := #[.val (.int x0), .val (.int x1), .val (.int x2), .val (.int x3), .val (.int (3 : Int32)), .val (.int cp), .val (.ref b351), .val (.int (2048 : Int32)), .val (.int v384), .val (.int (1 : Int32)), .val (.ref b387), .unset, .unset, .unset, .unset]) X400 hx (hb hby at_288) rfl rfl rfl ?_
        have eb0 : (((224 : Int32) ||| (cp >>> ((12 : Int32) &&& 31)))).toInt = 224 + cp.toInt / 4096 := own_hd (K := 224) 12 12 (by decide) hc0 (j := 4) (by decide) 16 (by decide) (by decide) (by decide) (by decide) (by omega) (by decide)
        have es1 := own_shr (cp := cp) 6 6 (by decide)
        have eb1 : (((128 : Int32) ||| ((cp >>> ((6 : Int32) &&& 31)) &&& (63 : Int32)))).toInt = 128 + cp.toInt / 64 % 64 := by rw [own_tl (by omega), es1]; omega
        have eb2 : (((128 : Int32) ||| (cp &&& (63 : Int32)))).toInt = 128 + cp.toInt % 64 := own_tl hc0
        refine o_aload (pc' := 292) X400 hx (hb hby at_290) rfl rfl rfl ?_
        refine o_aload (pc' := 294) X400 hx (hb hby at_292) rfl rfl rfl ?_
        refine o_iconst (pc' := 295) (v := (0 : Int32)) X400 hx (hb hby at_294) rfl rfl ?_
        refine o_iaload (pc' := 296) (v := ((224 : Int32) ||| (cp >>> ((12 : Int32) &&& 31)))) X400 hx hZ e400 F394 (hb hby at_295) (by decide) rfl rfl ?_
        refine o_iconst (pc' := 297) (v := (0 : Int32)) X400 hx (hb hby at_296) rfl rfl ?_
        refine o_iload (pc' := 299) X400 hx (hb hby at_297) rfl rfl ?_
        refine o_iload (pc' := 301) X400 hx (hb hby at_299) rfl rfl ?_
        refine o_iload (pc' := 303) X400 hx (hb hby at_301) rfl rfl ?_
        obtain ⟨r401, T401, L401, X401, hq401, st401⟩ := o_callS X400 hx hZ hown (hw _ (List.mem_of_getElem? (i := 16) rfl)) (hw _ (List.mem_of_getElem? (i := 17) rfl)) (hw _ (List.mem_of_getElem? (i := 18) rfl)) (hw _ (List.mem_of_getElem? (i := 19) rfl)) (by decide) (rm4 l Z a0 hw b387 ((224 : Int32) ||| (cp >>> ((12 : Int32) &&& 31))) (0 : Int32) (3 : Int32) cp v384 (0 : Int32) (0 : Int32) (0 : Int32) (0 : Int32) r_LEAST h387_ n0 Z395 A387 F399 F396 F398 F397 ge389 own_inv0 F391 S_LEAST A_LEAST) e400 (pc' := 306) (Ls := #[.val (.int x0), .val (.int x1), .val (.int x2), .val (.int x3), .val (.int (3 : Int32)), .val (.int cp), .val (.ref b351), .val (.int (2048 : Int32)), .val (.int v384), .val (.int (1 : Int32)), .val (.ref b387), .unset, .unset, .unset, .unset]) (by rw [hml]; rfl) [(.ref b387), (.int ((224 : Int32) ||| (cp >>> ((12 : Int32) &&& 31)))), (.int (0 : Int32)), (.int (3 : Int32)), (.int cp), (.int v384)] [] rfl pd3 rfl rfl 0 (Nat.le_of_eq rfl) (hb hby at_303) rfl (by decide) (by decide) (by decide) (by decide)
        obtain ⟨rfl, N401, Kc401, E401_, F401_codePoint, F401_lacking, F401_given, F401_malformed⟩ := hq401
        obtain ⟨y402, hy402⟩ : ∃ z, z = (spec4 ((224 : Int32) ||| (cp >>> ((12 : Int32) &&& 31))) (0 : Int32) (3 : Int32) cp v384 (0 : Int32) (0 : Int32) (0 : Int32)) := ⟨_, rfl⟩
        rw [← hy402] at st401
        refine oGo.step (f' := (mkF m 306 #[.val (.int x0), .val (.int x1), .val (.int x2), .val (.int x3), .val (.int (3 : Int32)), .val (.int cp), .val (.ref b351), .val (.int (2048 : Int32)), .val (.int v384), .val (.int (1 : Int32)), .val (.ref b387), .unset, .unset, .unset, .unset] [(.int y402)])) st401 ?_
        have N401_ := Fr.app N372 N401
        have K403 := Kc401
        have F404 := F391.keep K403 (allS ge389 all0)
        have F407 := F394.keep K403 (ninS ne388 nin0)
        have F408 := A387.keep K403
        have Z414 := Nat.le_trans Z395 K403.1
        obtain ⟨y415, hy415⟩ : ∃ z, z = (fld5_codePoint ((224 : Int32) ||| (cp >>> ((12 : Int32) &&& 31))) (0 : Int32) (0 : Int32)) := ⟨_, rfl⟩
        rw [← hy415] at F401_codePoint
        obtain ⟨y416, hy416⟩ : ∃ z, z = (fld5_lacking ((224 : Int32) ||| (cp >>> ((12 : Int32) &&& 31))) (0 : Int32)) := ⟨_, rfl⟩
        rw [← hy416] at F401_lacking
        obtain ⟨y417, hy417⟩ : ∃ z, z = (fld5_given ((224 : Int32) ||| (cp >>> ((12 : Int32) &&& 31))) (0 : Int32) (0 : Int32)) := ⟨_, rfl⟩
        rw [← hy417] at F401_given
        obtain ⟨y418, hy418⟩ : ∃ z, z = (fld5_malformed ((224 : Int32) ||| (cp >>> ((12 : Int32) &&& 31))) (0 : Int32) (0 : Int32) (0 : Int32) (0 : Int32)) := ⟨_, rfl⟩
        rw [← hy418] at F401_malformed
        have hI401 : oInv y416 y417 y418 := by rw [hy416, hy417, hy418]; exact own_inv_next (0 : Int32) ((224 : Int32) ||| (cp >>> ((12 : Int32) &&& 31))) own_inv0
        have X401 := o_flat X401 rfl rfl
        have hS0 := st_lead (b := ((224 : Int32) ||| (cp >>> ((12 : Int32) &&& 31)))) (i := 0) (len := 3) (cp := cp) (vl := v384) (k := 2) (by omega) (by omega) (own_top2 (by omega) (by omega)) (by decide)
        rw [← hy402, ← hy416, ← hy417, ← hy418, ← hy415] at hS0
        obtain ⟨q1, q2, q3, q4, hcc0⟩ := hS0
        subst q1 q2 q3 q4
        have hcn0 : y415.toInt = cp.toInt / 4096 := by rw [hcc0]; have m := (own_byte (x := ((224 : Int32) ||| (cp >>> ((12 : Int32) &&& 31)))) ⟨by omega, by omega⟩).2.2.2.1; rw [show ((63 : Int32) >>> ((2 : Int32) &&& 31)) = 15 from by decide]; omega
        refine o_istore (pc' := 308) (l' := #[.val (.int x0), .val (.int x1), .val (.int x2), .val (.int x3), .val (.int (3 : Int32)), .val (.int cp), .val (.ref b351), .val (.int (2048 : Int32)), .val (.int v384), .val (.int (1 : Int32)), .val (.ref b387), .val (.int (1 : Int32)), .unset, .unset, .unset]) X401 hx (hb hby at_306) rfl rfl ?_
        refine o_iload (pc' := 310) X401 hx (hb hby at_308) rfl rfl ?_
        refine o_iconst (pc' := 311) (v := (1 : Int32)) X401 hx (hb hby at_310) rfl rfl ?_
        refine o_icmpT (pc' := 335) X401 hx (hb hby at_311) (XT.ii_le_t (by decide)) (by decide) (by decide) ?_
        refine o_iload (pc' := 337) X401 hx (hb hby at_335) rfl rfl ?_
        refine o_iconst (pc' := 338) (v := (2 : Int32)) X401 hx (hb hby at_337) rfl rfl ?_
        refine o_icmpT (pc' := 362) X401 hx (hb hby at_338) (XT.ii_le_t (by decide)) (by decide) (by decide) ?_
        refine o_iload (pc' := 364) X401 hx (hb hby at_362) rfl rfl ?_
        refine o_iconst (pc' := 365) (v := (3 : Int32)) X401 hx (hb hby at_364) rfl rfl ?_
        refine o_icmpT (pc' := 389) X401 hx (hb hby at_365) (XT.ii_le_t (by decide)) (by decide) (by decide) ?_
        refine o_iload (pc' := 391) X401 hx (hb hby at_389) rfl rfl ?_
        refine o_iload (pc' := 393) X401 hx (hb hby at_391) rfl rfl ?_
        refine o_icmpT (pc' := 400) X401 hx (hb hby at_393) (XT.ii_ne_t (by decide)) (by decide) (by decide) ?_
        refine o_iconst (pc' := 401) (v := (0 : Int32)) X401 hx (hb hby at_400) rfl rfl ?_
        refine o_istore (pc' := 403) (l' := #[.val (.int x0), .val (.int x1), .val (.int x2), .val (.int x3), .val (.int (3 : Int32)), .val (.int cp), .val (.ref b351), .val (.int (2048 : Int32)), .val (.int v384), .val (.int (1 : Int32)), .val (.ref b387), .val (.int (1 : Int32)), .val (.int (0 : Int32)), .unset, .unset]) X401 hx (hb hby at_401) rfl rfl ?_
        refine o_iload (pc' := 405) X401 hx (hb hby at_403) rfl rfl ?_
        refine o_aload (pc' := 407) X401 hx (hb hby at_405) rfl rfl rfl ?_
        obtain ⟨r419, T419, L419, X419, hq419, st419⟩ := o_callV X401 hx hZ hown (hw _ (List.mem_of_getElem? (i := 33) rfl)) (hw _ (List.mem_of_getElem? (i := 34) rfl)) (hw _ (List.mem_of_getElem? (i := 36) rfl)) (hw _ (List.mem_of_getElem? (i := 35) rfl)) (hw _ (List.mem_of_getElem? (i := 9) rfl)) (hw _ (List.mem_of_getElem? (i := 37) rfl)) (by decide) E401_ (rm6 l Z a0 hw b387 (1 : Int32) T401.heap n0 Z414 E401_ F401_given) (rfl : T401.heap = _) (pc' := 410) (Ls := #[.val (.int x0), .val (.int x1), .val (.int x2), .val (.int x3), .val (.int (3 : Int32)), .val (.int cp), .val (.ref b351), .val (.int (2048 : Int32)), .val (.int v384), .val (.int (1 : Int32)), .val (.ref b387), .val (.int (1 : Int32)), .val (.int (0 : Int32)), .unset, .unset]) (by rw [hml]; rfl) [] [(.int (1 : Int32))] rfl pd4 rfl rfl 1 (Nat.le_of_eq rfl) (hb hby at_407) rfl (by decide) (by decide) (by decide) (by decide)
        obtain ⟨rfl, rfl, Kc419⟩ := hq419
        refine oGo.step (f' := (mkF m 410 #[.val (.int x0), .val (.int x1), .val (.int x2), .val (.int x3), .val (.int (3 : Int32)), .val (.int cp), .val (.ref b351), .val (.int (2048 : Int32)), .val (.int v384), .val (.int (1 : Int32)), .val (.ref b387), .val (.int (1 : Int32)), .val (.int (0 : Int32)), .unset, .unset] [(.int (1 : Int32)), (.int (1 : Int32))])) st419 ?_
        have e419 : T419.heap = T401.heap := Kc419
        have X419 := o_same X419 rfl rfl
        refine o_iload (pc' := 412) X419 hx (hb hby at_410) rfl rfl ?_
        refine o_ifT (pc' := 419) X419 hx (hb hby at_412) (XT.i0_eq_t (by decide)) (by decide) (by decide) ?_
        refine o_iload (pc' := 421) X419 hx (hb hby at_419) rfl rfl ?_
        refine o_icmpF (pc' := 424) X419 hx (hb hby at_421) (XT.ii_ne_f (by decide)) rfl ?_
        refine o_iconst (pc' := 425) (v := (1 : Int32)) X419 hx (hb hby at_424) rfl rfl ?_
        refine o_goto (pc' := 429) X419 hx (hb hby at_425) (by decide) (by decide) ?_
        refine o_iand (pc' := 430) X419 hx (hb hby at_429)  rfl ?_
        rw [show ((1 : Int32) &&& (1 : Int32)) = (1 : Int32) from by decide]
        refine o_istore (pc' := 432) (l' := #[.val (.int x0), .val (.int x1), .val (.int x2), .val (.int x3), .val (.int (3 : Int32)), .val (.int cp), .val (.ref b351), .val (.int (2048 : Int32)), .val (.int v384), .val (.int (1 : Int32)), .val (.ref b387), .val (.int (1 : Int32)), .val (.int (0 : Int32)), .unset, .unset]) X419 hx (hb hby at_430) rfl rfl ?_
        refine o_iloadN (pc' := 433) X419 hx (hb hby at_432) rfl rfl ?_
        refine o_bipush (pc' := 435) (v := (8 : Int32)) X419 hx (hb hby at_433) rfl rfl ?_
        refine o_iushr (pc' := 436) X419 hx (hb hby at_435)  rfl ?_
        refine o_iconst (pc' := 437) (v := (1 : Int32)) X419 hx (hb hby at_436) rfl rfl ?_
        refine o_iand (pc' := 438) X419 hx (hb hby at_437)  rfl ?_
        by_cases c420 : ((XT.ushr x3 (8 : Int32)) &&& (1 : Int32)) = 0
        · refine o_ifT (pc' := 573) X419 hx (hb hby at_438) (XT.i0_eq_t c420) (by decide) (by decide) ?_
          refine o_iload (pc' := 575) X419 hx (hb hby at_573) rfl rfl ?_
          refine o_ifT (pc' := 587) X419 hx (hb hby at_575) (XT.i0_eq_t (by decide)) (by decide) (by decide) ?_
          refine o_iconst (pc' := 588) (v := (0 : Int32)) X419 hx (hb hby at_587) rfl rfl ?_
          refine o_istore (pc' := 590) (l' := #[.val (.int x0), .val (.int x1), .val (.int x2), .val (.int x3), .val (.int (3 : Int32)), .val (.int cp), .val (.ref b351), .val (.int (2048 : Int32)), .val (.int v384), .val (.int (1 : Int32)), .val (.ref b387), .val (.int (1 : Int32)), .val (.int (0 : Int32)), .val (.int (0 : Int32)), .unset]) X419 hx (hb hby at_588) rfl rfl ?_
          refine o_iload (pc' := 592) X419 hx (hb hby at_590) rfl rfl ?_
          refine o_aload (pc' := 594) X419 hx (hb hby at_592) rfl rfl rfl ?_
          obtain ⟨r421, T421, L421, X421, hq421, st421⟩ := o_callV X419 hx hZ hown (hw _ (List.mem_of_getElem? (i := 38) rfl)) (hw _ (List.mem_of_getElem? (i := 39) rfl)) (hw _ (List.mem_of_getElem? (i := 41) rfl)) (hw _ (List.mem_of_getElem? (i := 40) rfl)) (hw _ (List.mem_of_getElem? (i := 9) rfl)) (hw _ (List.mem_of_getElem? (i := 42) rfl)) (by decide) E401_ (rm7 l Z a0 hw b387 y415 (2 : Int32) (1 : Int32) (0 : Int32) T401.heap n0 Z414 E401_ F401_codePoint F401_lacking F401_given F401_malformed ge389) e419 (pc' := 597) (Ls := #[.val (.int x0), .val (.int x1), .val (.int x2), .val (.int x3), .val (.int (3 : Int32)), .val (.int cp), .val (.ref b351), .val (.int (2048 : Int32)), .val (.int v384), .val (.int (1 : Int32)), .val (.ref b387), .val (.int (1 : Int32)), .val (.int (0 : Int32)), .val (.int (0 : Int32)), .unset]) (by rw [hml]; rfl) [] [(.int (1 : Int32))] rfl pd5 rfl rfl 1 (Nat.le_of_eq rfl) (hb hby at_594) rfl (by decide) (by decide) (by decide) (by decide)
          obtain ⟨rfl, N421, Kc421, E421_, F421_codePoint, F421_lacking, F421_given, F421_malformed⟩ := hq421
          obtain ⟨y422, hy422⟩ : ∃ z, z = (spec7 (2 : Int32) (0 : Int32)) := ⟨_, rfl⟩
          rw [← hy422] at st421
          refine oGo.step (f' := (mkF m 597 #[.val (.int x0), .val (.int x1), .val (.int x2), .val (.int x3), .val (.int (3 : Int32)), .val (.int cp), .val (.ref b351), .val (.int (2048 : Int32)), .val (.int v384), .val (.int (1 : Int32)), .val (.ref b387), .val (.int (1 : Int32)), .val (.int (0 : Int32)), .val (.int (0 : Int32)), .unset] [(.int y422), (.int (1 : Int32))])) st421 ?_
          have N421_ := Fr.app N401_ N421
          have K423 := Kc421
          have F424 := F404.keep K423 (allS ge389 all0)
          have F427 := F407.keep K423 (ninS ne388 nin0)
          have F428 := E401_.keep K423
          have Z434 := Nat.le_trans Z414 K423.1
          have X421 := o_flat X421 rfl rfl
          have hE : y422 = (0 : Int32) := by rw [hy422]; rfl
          refine o_iload (pc' := 599) X421 hx (hb hby at_597) rfl rfl ?_
          refine o_icmpF (pc' := 602) X421 hx (hb hby at_599) (XT.ii_ne_f hE) rfl ?_
          refine o_iconst (pc' := 603) (v := (1 : Int32)) X421 hx (hb hby at_602) rfl rfl ?_
          refine o_goto (pc' := 607) X421 hx (hb hby at_603) (by decide) (by decide) ?_
          refine o_iand (pc' := 608) X421 hx (hb hby at_607)  rfl ?_
          rw [show ((1 : Int32) &&& (1 : Int32)) = (1 : Int32) from by decide]
          refine o_istore (pc' := 610) (l' := #[.val (.int x0), .val (.int x1), .val (.int x2), .val (.int x3), .val (.int (3 : Int32)), .val (.int cp), .val (.ref b351), .val (.int (2048 : Int32)), .val (.int v384), .val (.int (1 : Int32)), .val (.ref b387), .val (.int (1 : Int32)), .val (.int (0 : Int32)), .val (.int (0 : Int32)), .unset]) X421 hx (hb hby at_608) rfl rfl ?_
          refine o_iload (pc' := 612) X421 hx (hb hby at_610) rfl rfl ?_
          refine o_retZ X421 hx hret hlk (hb hby at_612) (by decide) (by decide) (by decide) ?_
          exact ⟨rfl, N421_⟩
        · refine o_ifF (pc' := 441) X419 hx (hb hby at_438) (XT.i0_eq_f c420) rfl ?_
          refine o_iloadN (pc' := 442) X419 hx (hb hby at_441) rfl rfl ?_
          refine o_sipush (pc' := 445) (v := (255 : Int32)) X419 hx (hb hby at_442) rfl rfl ?_
          refine o_iand (pc' := 446) X419 hx (hb hby at_445)  rfl ?_
          refine o_istore (pc' := 448) (l' := #[.val (.int x0), .val (.int x1), .val (.int x2), .val (.int x3), .val (.int (3 : Int32)), .val (.int cp), .val (.ref b351), .val (.int (2048 : Int32)), .val (.int v384), .val (.int (1 : Int32)), .val (.ref b387), .val (.int (1 : Int32)), .val (.int (0 : Int32)), .unset, .val (.int (x3 &&& (255 : Int32)))]) X419 hx (hb hby at_446) rfl rfl ?_
          refine o_iload (pc' := 450) X419 hx (hb hby at_448) rfl rfl ?_
          refine o_ifF (pc' := 453) X419 hx (hb hby at_450) (XT.i0_ne_f (by decide)) rfl ?_
          refine o_iload (pc' := 455) X419 hx (hb hby at_453) rfl rfl ?_
          refine o_sipush (pc' := 458) (v := (192 : Int32)) X419 hx (hb hby at_455) rfl rfl ?_
          refine o_iand (pc' := 459) X419 hx (hb hby at_458)  rfl ?_
          refine o_sipush (pc' := 462) (v := (128 : Int32)) X419 hx (hb hby at_459) rfl rfl ?_
          have J436 : ∀ (v437 : Int32), v437 = (if ((x3 &&& (255 : Int32)) &&& (192 : Int32)) = (128 : Int32) then ((x3 &&& (255 : Int32)) ^^^ (64 : Int32)) else (x3 &&& (255 : Int32))) → oGo p e below (oG s (fun v h L => v = some (.int 1) ∧ Fr n0 L) room_1.cells room_1.slots) T419 (mkF m 472 #[.val (.int x0), .val (.int x1), .val (.int x2), .val (.int x3), .val (.int (3 : Int32)), .val (.int cp), .val (.ref b351), .val (.int (2048 : Int32)), .val (.int v384), .val (.int (1 : Int32)), .val (.ref b387), .val (.int (1 : Int32)), .val (.int (0 : Int32)), .unset, .val (.int v437)] []) := by
            intro v437 hv437
            refine o_iload (pc' := 474) X419 hx (hb hby at_472) rfl rfl ?_
            refine o_aload (pc' := 476) X419 hx (hb hby at_474) rfl rfl rfl ?_
            refine o_iload (pc' := 478) X419 hx (hb hby at_476) rfl rfl ?_
            have htB := own_tx (own_m255 x3) hv437
            obtain ⟨r438, T438, L438, X438, hq438, st438⟩ := o_callV X419 hx hZ hown (hw _ (List.mem_of_getElem? (i := 20) rfl)) (hw _ (List.mem_of_getElem? (i := 21) rfl)) (hw _ (List.mem_of_getElem? (i := 23) rfl)) (hw _ (List.mem_of_getElem? (i := 22) rfl)) (hw _ (List.mem_of_getElem? (i := 9) rfl)) (hw _ (List.mem_of_getElem? (i := 24) rfl)) (by decide) E401_ (rm5 l Z a0 hw b387 v437 y415 (2 : Int32) (1 : Int32) (0 : Int32) r_LEAST T401.heap n0 Z414 E401_ F401_codePoint F401_lacking F401_given F401_malformed ge389 hI401 F404 S_LEAST A_LEAST) e419 (pc' := 481) (Ls := #[.val (.int x0), .val (.int x1), .val (.int x2), .val (.int x3), .val (.int (3 : Int32)), .val (.int cp), .val (.ref b351), .val (.int (2048 : Int32)), .val (.int v384), .val (.int (1 : Int32)), .val (.ref b387), .val (.int (1 : Int32)), .val (.int (0 : Int32)), .unset, .val (.int v437)]) (by rw [hml]; rfl) [(.int v437)] [(.int (1 : Int32))] rfl pd0 rfl rfl 1 (Nat.le_of_eq rfl) (hb hby at_478) rfl (by decide) (by decide) (by decide) (by decide)
            obtain ⟨rfl, N438, Kc438, E438_, F438_codePoint, F438_lacking, F438_given, F438_malformed⟩ := hq438
            obtain ⟨y439, hy439⟩ : ∃ z, z = (spec5 v437 y415 (2 : Int32) (1 : Int32)) := ⟨_, rfl⟩
            rw [← hy439] at st438
            refine oGo.step (f' := (mkF m 481 #[.val (.int x0), .val (.int x1), .val (.int x2), .val (.int x3), .val (.int (3 : Int32)), .val (.int cp), .val (.ref b351), .val (.int (2048 : Int32)), .val (.int v384), .val (.int (1 : Int32)), .val (.ref b387), .val (.int (1 : Int32)), .val (.int (0 : Int32)), .unset, .val (.int v437)] [(.int y439), (.int (1 : Int32))])) st438 ?_
            have N438_ := Fr.app N401_ N438
            have K440 := Kc438
            have F441 := F404.keep K440 (allS ge389 all0)
            have F444 := F407.keep K440 (ninS ne388 nin0)
            have F445 := E401_.keep K440
            have Z451 := Nat.le_trans Z414 K440.1
            obtain ⟨y452, hy452⟩ : ∃ z, z = (fld5_codePoint v437 y415 (2 : Int32)) := ⟨_, rfl⟩
            rw [← hy452] at F438_codePoint
            obtain ⟨y453, hy453⟩ : ∃ z, z = (fld5_lacking v437 (2 : Int32)) := ⟨_, rfl⟩
            rw [← hy453] at F438_lacking
            obtain ⟨y454, hy454⟩ : ∃ z, z = (fld5_given v437 (2 : Int32) (1 : Int32)) := ⟨_, rfl⟩
            rw [← hy454] at F438_given
            obtain ⟨y455, hy455⟩ : ∃ z, z = (fld5_malformed v437 y415 (2 : Int32) (1 : Int32) (0 : Int32)) := ⟨_, rfl⟩
            rw [← hy455] at F438_malformed
            have hI438 : oInv y453 y454 y455 := by rw [hy453, hy454, hy455]; exact own_inv_next y415 v437 hI401
            have X438 := o_flat X438 rfl rfl
            have hA := nx_any (t := v437) (cp := y415) (k := (2 : Int32)) (g := (1 : Int32)) (z := (0 : Int32)) nz01 (Or.inr ⟨by decide, htB.2⟩)
            rw [← hy439, ← hy454] at hA
            refine o_iload (pc' := 483) X438 hx (hb hby at_481) rfl rfl ?_
            refine o_sipush (pc' := 486) (v := (128 : Int32)) X438 hx (hb hby at_483) rfl rfl ?_
            have J457 : ∀ (v458 : Int32), v458 = (if v437 < (128 : Int32) then v437 else (-1 : Int32)) → oGo p e below (oG s (fun v h L => v = some (.int 1) ∧ Fr n0 L) room_1.cells room_1.slots) T438 (mkF m 495 #[.val (.int x0), .val (.int x1), .val (.int x2), .val (.int x3), .val (.int (3 : Int32)), .val (.int cp), .val (.ref b351), .val (.int (2048 : Int32)), .val (.int v384), .val (.int (1 : Int32)), .val (.ref b387), .val (.int (1 : Int32)), .val (.int (0 : Int32)), .unset, .val (.int v437)] [(.int v458), (.int y439), (.int (1 : Int32))]) := by
              intro v458 hv458
              refine o_icmpF (pc' := 498) X438 hx (hb hby at_495) (XT.ii_ne_f (hA.1.trans hv458.symm)) rfl ?_
              refine o_iconst (pc' := 499) (v := (1 : Int32)) X438 hx (hb hby at_498) rfl rfl ?_
              refine o_goto (pc' := 503) X438 hx (hb hby at_499) (by decide) (by decide) ?_
              refine o_iand (pc' := 504) X438 hx (hb hby at_503)  rfl ?_
              rw [show ((1 : Int32) &&& (1 : Int32)) = (1 : Int32) from by decide]
              refine o_istore (pc' := 506) (l' := #[.val (.int x0), .val (.int x1), .val (.int x2), .val (.int x3), .val (.int (3 : Int32)), .val (.int cp), .val (.ref b351), .val (.int (2048 : Int32)), .val (.int v384), .val (.int (1 : Int32)), .val (.ref b387), .val (.int (1 : Int32)), .val (.int (0 : Int32)), .unset, .val (.int v437)]) X438 hx (hb hby at_504) rfl rfl ?_
              refine o_iload (pc' := 508) X438 hx (hb hby at_506) rfl rfl ?_
              refine o_aload (pc' := 510) X438 hx (hb hby at_508) rfl rfl rfl ?_
              obtain ⟨r459, T459, L459, X459, hq459, st459⟩ := o_callV X438 hx hZ hown (hw _ (List.mem_of_getElem? (i := 33) rfl)) (hw _ (List.mem_of_getElem? (i := 34) rfl)) (hw _ (List.mem_of_getElem? (i := 36) rfl)) (hw _ (List.mem_of_getElem? (i := 35) rfl)) (hw _ (List.mem_of_getElem? (i := 9) rfl)) (hw _ (List.mem_of_getElem? (i := 37) rfl)) (by decide) E438_ (rm6 l Z a0 hw b387 y454 T438.heap n0 Z451 E438_ F438_given) (rfl : T438.heap = _) (pc' := 513) (Ls := #[.val (.int x0), .val (.int x1), .val (.int x2), .val (.int x3), .val (.int (3 : Int32)), .val (.int cp), .val (.ref b351), .val (.int (2048 : Int32)), .val (.int v384), .val (.int (1 : Int32)), .val (.ref b387), .val (.int (1 : Int32)), .val (.int (0 : Int32)), .unset, .val (.int v437)]) (by rw [hml]; rfl) [] [(.int (1 : Int32))] rfl pd4 rfl rfl 1 (Nat.le_of_eq rfl) (hb hby at_510) rfl (by decide) (by decide) (by decide) (by decide)
              obtain ⟨rfl, rfl, Kc459⟩ := hq459
              refine oGo.step (f' := (mkF m 513 #[.val (.int x0), .val (.int x1), .val (.int x2), .val (.int x3), .val (.int (3 : Int32)), .val (.int cp), .val (.ref b351), .val (.int (2048 : Int32)), .val (.int v384), .val (.int (1 : Int32)), .val (.ref b387), .val (.int (1 : Int32)), .val (.int (0 : Int32)), .unset, .val (.int v437)] [(.int y454), (.int (1 : Int32))])) st459 ?_
              have e459 : T459.heap = T438.heap := Kc459
              have X459 := o_same X459 rfl rfl
              refine o_iload (pc' := 515) X459 hx (hb hby at_513) rfl rfl ?_
              refine o_sipush (pc' := 518) (v := (192 : Int32)) X459 hx (hb hby at_515) rfl rfl ?_
              have J461 : ∀ (v463 : Int32), v463 = (if v437 < (192 : Int32) then (0 : Int32) else (if (247 : Int32) < v437 then (0 : Int32) else (1 : Int32))) → oGo p e below (oG s (fun v h L => v = some (.int 1) ∧ Fr n0 L) room_1.cells room_1.slots) T459 (mkF m 534 #[.val (.int x0), .val (.int x1), .val (.int x2), .val (.int x3), .val (.int (3 : Int32)), .val (.int cp), .val (.ref b351), .val (.int (2048 : Int32)), .val (.int v384), .val (.int (1 : Int32)), .val (.ref b387), .val (.int (1 : Int32)), .val (.int (0 : Int32)), .unset, .val (.int v437)] [(.int v463), (.int y454), (.int (1 : Int32))]) := by
                intro v463 hv463
                refine o_icmpF (pc' := 537) X459 hx (hb hby at_534) (XT.ii_ne_f (hA.2.trans hv463.symm)) rfl ?_
                refine o_iconst (pc' := 538) (v := (1 : Int32)) X459 hx (hb hby at_537) rfl rfl ?_
                refine o_goto (pc' := 542) X459 hx (hb hby at_538) (by decide) (by decide) ?_
                refine o_iand (pc' := 543) X459 hx (hb hby at_542)  rfl ?_
                rw [show ((1 : Int32) &&& (1 : Int32)) = (1 : Int32) from by decide]
                refine o_istore (pc' := 545) (l' := #[.val (.int x0), .val (.int x1), .val (.int x2), .val (.int x3), .val (.int (3 : Int32)), .val (.int cp), .val (.ref b351), .val (.int (2048 : Int32)), .val (.int v384), .val (.int (1 : Int32)), .val (.ref b387), .val (.int (1 : Int32)), .val (.int (0 : Int32)), .unset, .val (.int v437)]) X459 hx (hb hby at_543) rfl rfl ?_
                refine o_iload (pc' := 547) X459 hx (hb hby at_545) rfl rfl ?_
                refine o_ifT (pc' := 567) X459 hx (hb hby at_547) (XT.i0_eq_t (by decide)) (by decide) (by decide) ?_
                refine o_iconst (pc' := 568) (v := (0 : Int32)) X459 hx (hb hby at_567) rfl rfl ?_
                refine o_istore (pc' := 570) (l' := #[.val (.int x0), .val (.int x1), .val (.int x2), .val (.int x3), .val (.int (3 : Int32)), .val (.int cp), .val (.ref b351), .val (.int (2048 : Int32)), .val (.int v384), .val (.int (1 : Int32)), .val (.ref b387), .val (.int (1 : Int32)), .val (.int (0 : Int32)), .val (.int (0 : Int32)), .val (.int v437)]) X459 hx (hb hby at_568) rfl rfl ?_
                refine o_goto (pc' := 590) X459 hx (hb hby at_570) (by decide) (by decide) ?_
                refine o_iload (pc' := 592) X459 hx (hb hby at_590) rfl rfl ?_
                refine o_aload (pc' := 594) X459 hx (hb hby at_592) rfl rfl rfl ?_
                obtain ⟨r464, T464, L464, X464, hq464, st464⟩ := o_callV X459 hx hZ hown (hw _ (List.mem_of_getElem? (i := 38) rfl)) (hw _ (List.mem_of_getElem? (i := 39) rfl)) (hw _ (List.mem_of_getElem? (i := 41) rfl)) (hw _ (List.mem_of_getElem? (i := 40) rfl)) (hw _ (List.mem_of_getElem? (i := 9) rfl)) (hw _ (List.mem_of_getElem? (i := 42) rfl)) (by decide) E438_ (rm7 l Z a0 hw b387 y452 y453 y454 y455 T438.heap n0 Z451 E438_ F438_codePoint F438_lacking F438_given F438_malformed ge389) e459 (pc' := 597) (Ls := #[.val (.int x0), .val (.int x1), .val (.int x2), .val (.int x3), .val (.int (3 : Int32)), .val (.int cp), .val (.ref b351), .val (.int (2048 : Int32)), .val (.int v384), .val (.int (1 : Int32)), .val (.ref b387), .val (.int (1 : Int32)), .val (.int (0 : Int32)), .val (.int (0 : Int32)), .val (.int v437)]) (by rw [hml]; rfl) [] [(.int (1 : Int32))] rfl pd5 rfl rfl 1 (Nat.le_of_eq rfl) (hb hby at_594) rfl (by decide) (by decide) (by decide) (by decide)
                obtain ⟨rfl, N464, Kc464, E464_, F464_codePoint, F464_lacking, F464_given, F464_malformed⟩ := hq464
                obtain ⟨y465, hy465⟩ : ∃ z, z = (spec7 y453 y455) := ⟨_, rfl⟩
                rw [← hy465] at st464
                refine oGo.step (f' := (mkF m 597 #[.val (.int x0), .val (.int x1), .val (.int x2), .val (.int x3), .val (.int (3 : Int32)), .val (.int cp), .val (.ref b351), .val (.int (2048 : Int32)), .val (.int v384), .val (.int (1 : Int32)), .val (.ref b387), .val (.int (1 : Int32)), .val (.int (0 : Int32)), .val (.int (0 : Int32)), .val (.int v437)] [(.int y465), (.int (1 : Int32))])) st464 ?_
                have N464_ := Fr.app N438_ N464
                have K466 := Kc464
                have F467 := F441.keep K466 (allS ge389 all0)
                have F470 := F444.keep K466 (ninS ne388 nin0)
                have F471 := E438_.keep K466
                have Z477 := Nat.le_trans Z451 K466.1
                have X464 := o_flat X464 rfl rfl
                have hE : y465 = (0 : Int32) := by rw [hy465, hy453, hy455]; exact end_cut (by decide) htB.2
                refine o_iload (pc' := 599) X464 hx (hb hby at_597) rfl rfl ?_
                refine o_icmpF (pc' := 602) X464 hx (hb hby at_599) (XT.ii_ne_f hE) rfl ?_
                refine o_iconst (pc' := 603) (v := (1 : Int32)) X464 hx (hb hby at_602) rfl rfl ?_
                refine o_goto (pc' := 607) X464 hx (hb hby at_603) (by decide) (by decide) ?_
                refine o_iand (pc' := 608) X464 hx (hb hby at_607)  rfl ?_
                rw [show ((1 : Int32) &&& (1 : Int32)) = (1 : Int32) from by decide]
                refine o_istore (pc' := 610) (l' := #[.val (.int x0), .val (.int x1), .val (.int x2), .val (.int x3), .val (.int (3 : Int32)), .val (.int cp), .val (.ref b351), .val (.int (2048 : Int32)), .val (.int v384), .val (.int (1 : Int32)), .val (.ref b387), .val (.int (1 : Int32)), .val (.int (0 : Int32)), .val (.int (0 : Int32)), .val (.int v437)]) X464 hx (hb hby at_608) rfl rfl ?_
                refine o_iload (pc' := 612) X464 hx (hb hby at_610) rfl rfl ?_
                refine o_retZ X464 hx hret hlk (hb hby at_612) (by decide) (by decide) (by decide) ?_
                exact ⟨rfl, N464_⟩
              by_cases c460 : v437 < (192 : Int32)
              · refine o_icmpT (pc' := 533) X459 hx (hb hby at_518) (XT.ii_lt_t c460) (by decide) (by decide) ?_
                refine o_iconst (pc' := 534) (v := (0 : Int32)) X459 hx (hb hby at_533) rfl rfl ?_
                exact J461 _ (if_pos c460).symm
              · refine o_icmpF (pc' := 521) X459 hx (hb hby at_518) (XT.ii_lt_f c460) rfl ?_
                refine o_iload (pc' := 523) X459 hx (hb hby at_521) rfl rfl ?_
                refine o_sipush (pc' := 526) (v := (247 : Int32)) X459 hx (hb hby at_523) rfl rfl ?_
                by_cases c462 : (247 : Int32) < v437
                · refine o_icmpT (pc' := 533) X459 hx (hb hby at_526) (XT.ii_gt_t c462) (by decide) (by decide) ?_
                  refine o_iconst (pc' := 534) (v := (0 : Int32)) X459 hx (hb hby at_533) rfl rfl ?_
                  exact J461 _ ((if_neg c460).trans (if_pos c462)).symm
                · refine o_icmpF (pc' := 529) X459 hx (hb hby at_526) (XT.ii_gt_f c462) rfl ?_
                  refine o_iconst (pc' := 530) (v := (1 : Int32)) X459 hx (hb hby at_529) rfl rfl ?_
                  refine o_goto (pc' := 534) X459 hx (hb hby at_530) (by decide) (by decide) ?_
                  exact J461 _ ((if_neg c460).trans (if_neg c462)).symm
            by_cases c456 : v437 < (128 : Int32)
            · refine o_icmpF (pc' := 489) X438 hx (hb hby at_486) (XT.ii_ge_f c456) rfl ?_
              refine o_iload (pc' := 491) X438 hx (hb hby at_489) rfl rfl ?_
              refine o_goto (pc' := 495) X438 hx (hb hby at_491) (by decide) (by decide) ?_
              exact J457 _ (if_pos c456).symm
            · refine o_icmpT (pc' := 494) X438 hx (hb hby at_486) (XT.ii_ge_t c456) (by decide) (by decide) ?_
              refine o_iconst (pc' := 495) (v := (-1 : Int32)) X438 hx (hb hby at_494) rfl rfl ?_
              exact J457 _ (if_neg c456).symm
          by_cases c435 : ((x3 &&& (255 : Int32)) &&& (192 : Int32)) = (128 : Int32)
          · refine o_icmpF (pc' := 465) X419 hx (hb hby at_462) (XT.ii_ne_f c435) rfl ?_
            refine o_iload (pc' := 467) X419 hx (hb hby at_465) rfl rfl ?_
            refine o_bipush (pc' := 469) (v := (64 : Int32)) X419 hx (hb hby at_467) rfl rfl ?_
            refine o_ixor (pc' := 470) X419 hx (hb hby at_469)  rfl ?_
            refine o_istore (pc' := 472) (l' := #[.val (.int x0), .val (.int x1), .val (.int x2), .val (.int x3), .val (.int (3 : Int32)), .val (.int cp), .val (.ref b351), .val (.int (2048 : Int32)), .val (.int v384), .val (.int (1 : Int32)), .val (.ref b387), .val (.int (1 : Int32)), .val (.int (0 : Int32)), .unset, .val (.int ((x3 &&& (255 : Int32)) ^^^ (64 : Int32)))]) X419 hx (hb hby at_470) rfl rfl ?_
            exact J436 _ (if_pos c435).symm
          · refine o_icmpT (pc' := 472) X419 hx (hb hby at_462) (XT.ii_ne_t c435) (by decide) (by decide) ?_
            exact J436 _ (if_neg c435).symm
      · obtain ⟨T478, h478_, X478, e478, E478, A478, D478, -, st478⟩ := newO X385 hx hZ hown (hw _ (List.mem_of_getElem? (i := 7) rfl)) (hw _ (List.mem_of_getElem? (i := 8) rfl)) (hw _ (List.mem_of_getElem? (i := 9) rfl)) e385 (g := (mkF m 281 #[.val (.int x0), .val (.int x1), .val (.int x2), .val (.int x3), .val (.int (3 : Int32)), .val (.int cp), .val (.ref b351), .val (.int (2048 : Int32)), .val (.int v384), .val (.int (2 : Int32)), .unset, .unset, .unset, .unset, .unset] [])) rfl (hb hby at_281) (by decide) (by decide)
        obtain ⟨b478, g478⟩ : ∃ z, z = h372_.size := ⟨_, rfl⟩
        rw [← g478] at A478 D478 st478
        have ne479 : b351 ≠ b478 := by rw [g478]; exact Nat.ne_of_lt F373.lt
        have ge480 : n0 ≤ b478 := by rw [g478]; exact Z378
        have K481 := (Keep.refl h372_ []).ext E478
        have F482 := F375.keep K481 all0
        have F485 := F373.keep K481 nin0
        have Z486 := Nat.le_trans Z378 K481.1
        have F487 : Fld Z h478_ b478 "com/example/harborlog/harborlog/Utf8Decoder" "lacking" "I" (.int (0 : Int32)) := D478 (Or.inl (hw _ (List.mem_of_getElem? (i := 26) rfl))) (ty := .int) (by decide)
        have F488 : Fld Z h478_ b478 "com/example/harborlog/harborlog/Utf8Decoder" "malformed" "Z" (.int (0 : Int32)) := D478 (Or.inl (hw _ (List.mem_of_getElem? (i := 28) rfl))) (ty := .boolean) (by decide)
        have F489 : Fld Z h478_ b478 "com/example/harborlog/harborlog/Utf8Decoder" "given" "I" (.int (0 : Int32)) := D478 (Or.inl (hw _ (List.mem_of_getElem? (i := 30) rfl))) (ty := .int) (by decide)
        have F490 : Fld Z h478_ b478 "com/example/harborlog/harborlog/Utf8Decoder" "codePoint" "I" (.int (0 : Int32)) := D478 (Or.inl (hw _ (List.mem_of_getElem? (i := 32) rfl))) (ty := .int) (by decide)
        refine oGo.step (f' := (mkF m 284 #[.val (.int x0), .val (.int x1), .val (.int x2), .val (.int x3), .val (.int (3 : Int32)), .val (.int cp), .val (.ref b351), .val (.int (2048 : Int32)), .val (.int v384), .val (.int (2 : Int32)), .unset, .unset, .unset, .unset, .unset] [(.ref b478)])) st478 ?_
        refine o_dup (pc' := 285) X478 hx (hb hby at_284) rfl rfl ?_
        obtain ⟨r491, T491, L491, X491, hq491, st491⟩ := o_callN X478 hx hZ hown rfl (hw _ (List.mem_of_getElem? (i := 10) rfl)) (hw _ (List.mem_of_getElem? (i := 11) rfl)) (hw _ (List.mem_of_getElem? (i := 9) rfl)) (hw _ (List.mem_of_getElem? (i := 12) rfl)) (by decide) (rm2 l Z a0 hw b478 h478_ n0 Z486 ) e478 (pc' := 288) (Ls := #[.val (.int x0), .val (.int x1), .val (.int x2), .val (.int x3), .val (.int (3 : Int32)), .val (.int cp), .val (.ref b351), .val (.int (2048 : Int32)), .val (.int v384), .val (.int (2 : Int32)), .unset, .unset, .unset, .unset, .unset]) (by rw [hml]; rfl) [] [(.ref b478)] rfl pd2 rfl rfl 1 (Nat.le_of_eq rfl) (hb hby at_285) rfl (by decide) (by decide) (by decide) (by decide)
        obtain ⟨rfl, rfl, Kc491⟩ := hq491
        refine oGo.step (f' := (mkF m 288 #[.val (.int x0), .val (.int x1), .val (.int x2), .val (.int x3), .val (.int (3 : Int32)), .val (.int cp), .val (.ref b351), .val (.int (2048 : Int32)), .val (.int v384), .val (.int (2 : Int32)), .unset, .unset, .unset, .unset, .unset] [(.ref b478)])) st491 ?_
        have e491 : T491.heap = h478_ := Kc491
        have X491 := o_same X491 rfl rfl
        refine o_astore (pc' := 290) (l' := #[.val (.int x0), .val (.int x1), .val (.int x2), .val (.int x3), .val (.int (3 : Int32)), .val (.int cp), .val (.ref b351), .val (.int (2048 : Int32)), .val (.int v384), .val (.int (2 : Int32)), .val (.ref b478), .unset, .unset, .unset, .unset]) X491 hx (hb hby at_288) rfl rfl rfl ?_
        have eb0 : (((224 : Int32) ||| (cp >>> ((12 : Int32) &&& 31)))).toInt = 224 + cp.toInt / 4096 := own_hd (K := 224) 12 12 (by decide) hc0 (j := 4) (by decide) 16 (by decide) (by decide) (by decide) (by decide) (by omega) (by decide)
        have es1 := own_shr (cp := cp) 6 6 (by decide)
        have eb1 : (((128 : Int32) ||| ((cp >>> ((6 : Int32) &&& 31)) &&& (63 : Int32)))).toInt = 128 + cp.toInt / 64 % 64 := by rw [own_tl (by omega), es1]; omega
        have eb2 : (((128 : Int32) ||| (cp &&& (63 : Int32)))).toInt = 128 + cp.toInt % 64 := own_tl hc0
        refine o_aload (pc' := 292) X491 hx (hb hby at_290) rfl rfl rfl ?_
        refine o_aload (pc' := 294) X491 hx (hb hby at_292) rfl rfl rfl ?_
        refine o_iconst (pc' := 295) (v := (0 : Int32)) X491 hx (hb hby at_294) rfl rfl ?_
        refine o_iaload (pc' := 296) (v := ((224 : Int32) ||| (cp >>> ((12 : Int32) &&& 31)))) X491 hx hZ e491 F485 (hb hby at_295) (by decide) rfl rfl ?_
        refine o_iconst (pc' := 297) (v := (0 : Int32)) X491 hx (hb hby at_296) rfl rfl ?_
        refine o_iload (pc' := 299) X491 hx (hb hby at_297) rfl rfl ?_
        refine o_iload (pc' := 301) X491 hx (hb hby at_299) rfl rfl ?_
        refine o_iload (pc' := 303) X491 hx (hb hby at_301) rfl rfl ?_
        obtain ⟨r492, T492, L492, X492, hq492, st492⟩ := o_callS X491 hx hZ hown (hw _ (List.mem_of_getElem? (i := 16) rfl)) (hw _ (List.mem_of_getElem? (i := 17) rfl)) (hw _ (List.mem_of_getElem? (i := 18) rfl)) (hw _ (List.mem_of_getElem? (i := 19) rfl)) (by decide) (rm4 l Z a0 hw b478 ((224 : Int32) ||| (cp >>> ((12 : Int32) &&& 31))) (0 : Int32) (3 : Int32) cp v384 (0 : Int32) (0 : Int32) (0 : Int32) (0 : Int32) r_LEAST h478_ n0 Z486 A478 F490 F487 F489 F488 ge480 own_inv0 F482 S_LEAST A_LEAST) e491 (pc' := 306) (Ls := #[.val (.int x0), .val (.int x1), .val (.int x2), .val (.int x3), .val (.int (3 : Int32)), .val (.int cp), .val (.ref b351), .val (.int (2048 : Int32)), .val (.int v384), .val (.int (2 : Int32)), .val (.ref b478), .unset, .unset, .unset, .unset]) (by rw [hml]; rfl) [(.ref b478), (.int ((224 : Int32) ||| (cp >>> ((12 : Int32) &&& 31)))), (.int (0 : Int32)), (.int (3 : Int32)), (.int cp), (.int v384)] [] rfl pd3 rfl rfl 0 (Nat.le_of_eq rfl) (hb hby at_303) rfl (by decide) (by decide) (by decide) (by decide)
        obtain ⟨rfl, N492, Kc492, E492_, F492_codePoint, F492_lacking, F492_given, F492_malformed⟩ := hq492
        obtain ⟨y493, hy493⟩ : ∃ z, z = (spec4 ((224 : Int32) ||| (cp >>> ((12 : Int32) &&& 31))) (0 : Int32) (3 : Int32) cp v384 (0 : Int32) (0 : Int32) (0 : Int32)) := ⟨_, rfl⟩
        rw [← hy493] at st492
        refine oGo.step (f' := (mkF m 306 #[.val (.int x0), .val (.int x1), .val (.int x2), .val (.int x3), .val (.int (3 : Int32)), .val (.int cp), .val (.ref b351), .val (.int (2048 : Int32)), .val (.int v384), .val (.int (2 : Int32)), .val (.ref b478), .unset, .unset, .unset, .unset] [(.int y493)])) st492 ?_
        have N492_ := Fr.app N372 N492
        have K494 := Kc492
        have F495 := F482.keep K494 (allS ge480 all0)
        have F498 := F485.keep K494 (ninS ne479 nin0)
        have F499 := A478.keep K494
        have Z505 := Nat.le_trans Z486 K494.1
        obtain ⟨y506, hy506⟩ : ∃ z, z = (fld5_codePoint ((224 : Int32) ||| (cp >>> ((12 : Int32) &&& 31))) (0 : Int32) (0 : Int32)) := ⟨_, rfl⟩
        rw [← hy506] at F492_codePoint
        obtain ⟨y507, hy507⟩ : ∃ z, z = (fld5_lacking ((224 : Int32) ||| (cp >>> ((12 : Int32) &&& 31))) (0 : Int32)) := ⟨_, rfl⟩
        rw [← hy507] at F492_lacking
        obtain ⟨y508, hy508⟩ : ∃ z, z = (fld5_given ((224 : Int32) ||| (cp >>> ((12 : Int32) &&& 31))) (0 : Int32) (0 : Int32)) := ⟨_, rfl⟩
        rw [← hy508] at F492_given
        obtain ⟨y509, hy509⟩ : ∃ z, z = (fld5_malformed ((224 : Int32) ||| (cp >>> ((12 : Int32) &&& 31))) (0 : Int32) (0 : Int32) (0 : Int32) (0 : Int32)) := ⟨_, rfl⟩
        rw [← hy509] at F492_malformed
        have hI492 : oInv y507 y508 y509 := by rw [hy507, hy508, hy509]; exact own_inv_next (0 : Int32) ((224 : Int32) ||| (cp >>> ((12 : Int32) &&& 31))) own_inv0
        have X492 := o_flat X492 rfl rfl
        have hS0 := st_lead (b := ((224 : Int32) ||| (cp >>> ((12 : Int32) &&& 31)))) (i := 0) (len := 3) (cp := cp) (vl := v384) (k := 2) (by omega) (by omega) (own_top2 (by omega) (by omega)) (by decide)
        rw [← hy493, ← hy507, ← hy508, ← hy509, ← hy506] at hS0
        obtain ⟨q1, q2, q3, q4, hcc0⟩ := hS0
        subst q1 q2 q3 q4
        have hcn0 : y506.toInt = cp.toInt / 4096 := by rw [hcc0]; have m := (own_byte (x := ((224 : Int32) ||| (cp >>> ((12 : Int32) &&& 31)))) ⟨by omega, by omega⟩).2.2.2.1; rw [show ((63 : Int32) >>> ((2 : Int32) &&& 31)) = 15 from by decide]; omega
        refine o_istore (pc' := 308) (l' := #[.val (.int x0), .val (.int x1), .val (.int x2), .val (.int x3), .val (.int (3 : Int32)), .val (.int cp), .val (.ref b351), .val (.int (2048 : Int32)), .val (.int v384), .val (.int (2 : Int32)), .val (.ref b478), .val (.int (1 : Int32)), .unset, .unset, .unset]) X492 hx (hb hby at_306) rfl rfl ?_
        refine o_iload (pc' := 310) X492 hx (hb hby at_308) rfl rfl ?_
        refine o_iconst (pc' := 311) (v := (1 : Int32)) X492 hx (hb hby at_310) rfl rfl ?_
        refine o_icmpF (pc' := 314) X492 hx (hb hby at_311) (XT.ii_le_f (by decide)) rfl ?_
        refine o_iload (pc' := 316) X492 hx (hb hby at_314) rfl rfl ?_
        refine o_aload (pc' := 318) X492 hx (hb hby at_316) rfl rfl rfl ?_
        refine o_aload (pc' := 320) X492 hx (hb hby at_318) rfl rfl rfl ?_
        refine o_iconst (pc' := 321) (v := (1 : Int32)) X492 hx (hb hby at_320) rfl rfl ?_
        refine o_iaload (pc' := 322) (v := ((128 : Int32) ||| ((cp >>> ((6 : Int32) &&& 31)) &&& (63 : Int32)))) X492 hx hZ (rfl : T492.heap = _) F498 (hb hby at_321) (by decide) rfl rfl ?_
        refine o_iconst (pc' := 323) (v := (1 : Int32)) X492 hx (hb hby at_322) rfl rfl ?_
        refine o_iload (pc' := 325) X492 hx (hb hby at_323) rfl rfl ?_
        refine o_iload (pc' := 327) X492 hx (hb hby at_325) rfl rfl ?_
        refine o_iload (pc' := 329) X492 hx (hb hby at_327) rfl rfl ?_
        obtain ⟨r510, T510, L510, X510, hq510, st510⟩ := o_callS X492 hx hZ hown (hw _ (List.mem_of_getElem? (i := 16) rfl)) (hw _ (List.mem_of_getElem? (i := 17) rfl)) (hw _ (List.mem_of_getElem? (i := 18) rfl)) (hw _ (List.mem_of_getElem? (i := 19) rfl)) (by decide) (rm4 l Z a0 hw b478 ((128 : Int32) ||| ((cp >>> ((6 : Int32) &&& 31)) &&& (63 : Int32))) (1 : Int32) (3 : Int32) cp v384 y506 (2 : Int32) (1 : Int32) (0 : Int32) r_LEAST T492.heap n0 Z505 E492_ F492_codePoint F492_lacking F492_given F492_malformed ge480 hI492 F495 S_LEAST A_LEAST) (rfl : T492.heap = _) (pc' := 332) (Ls := #[.val (.int x0), .val (.int x1), .val (.int x2), .val (.int x3), .val (.int (3 : Int32)), .val (.int cp), .val (.ref b351), .val (.int (2048 : Int32)), .val (.int v384), .val (.int (2 : Int32)), .val (.ref b478), .val (.int (1 : Int32)), .unset, .unset, .unset]) (by rw [hml]; rfl) [(.ref b478), (.int ((128 : Int32) ||| ((cp >>> ((6 : Int32) &&& 31)) &&& (63 : Int32)))), (.int (1 : Int32)), (.int (3 : Int32)), (.int cp), (.int v384)] [(.int (1 : Int32))] rfl pd3 rfl rfl 1 (Nat.le_of_eq rfl) (hb hby at_329) rfl (by decide) (by decide) (by decide) (by decide)
        obtain ⟨rfl, N510, Kc510, E510_, F510_codePoint, F510_lacking, F510_given, F510_malformed⟩ := hq510
        obtain ⟨y511, hy511⟩ : ∃ z, z = (spec4 ((128 : Int32) ||| ((cp >>> ((6 : Int32) &&& 31)) &&& (63 : Int32))) (1 : Int32) (3 : Int32) cp v384 y506 (2 : Int32) (1 : Int32)) := ⟨_, rfl⟩
        rw [← hy511] at st510
        refine oGo.step (f' := (mkF m 332 #[.val (.int x0), .val (.int x1), .val (.int x2), .val (.int x3), .val (.int (3 : Int32)), .val (.int cp), .val (.ref b351), .val (.int (2048 : Int32)), .val (.int v384), .val (.int (2 : Int32)), .val (.ref b478), .val (.int (1 : Int32)), .unset, .unset, .unset] [(.int y511), (.int (1 : Int32))])) st510 ?_
        have N510_ := Fr.app N492_ N510
        have K512 := Kc510
        have F513 := F495.keep K512 (allS ge480 all0)
        have F516 := F498.keep K512 (ninS ne479 nin0)
        have F517 := E492_.keep K512
        have Z523 := Nat.le_trans Z505 K512.1
        obtain ⟨y524, hy524⟩ : ∃ z, z = (fld5_codePoint ((128 : Int32) ||| ((cp >>> ((6 : Int32) &&& 31)) &&& (63 : Int32))) y506 (2 : Int32)) := ⟨_, rfl⟩
        rw [← hy524] at F510_codePoint
        obtain ⟨y525, hy525⟩ : ∃ z, z = (fld5_lacking ((128 : Int32) ||| ((cp >>> ((6 : Int32) &&& 31)) &&& (63 : Int32))) (2 : Int32)) := ⟨_, rfl⟩
        rw [← hy525] at F510_lacking
        obtain ⟨y526, hy526⟩ : ∃ z, z = (fld5_given ((128 : Int32) ||| ((cp >>> ((6 : Int32) &&& 31)) &&& (63 : Int32))) (2 : Int32) (1 : Int32)) := ⟨_, rfl⟩
        rw [← hy526] at F510_given
        obtain ⟨y527, hy527⟩ : ∃ z, z = (fld5_malformed ((128 : Int32) ||| ((cp >>> ((6 : Int32) &&& 31)) &&& (63 : Int32))) y506 (2 : Int32) (1 : Int32) (0 : Int32)) := ⟨_, rfl⟩
        rw [← hy527] at F510_malformed
        have hI510 : oInv y525 y526 y527 := by rw [hy525, hy526, hy527]; exact own_inv_next y506 ((128 : Int32) ||| ((cp >>> ((6 : Int32) &&& 31)) &&& (63 : Int32))) hI492
        have X510 := o_flat X510 rfl rfl
        have hS1 := st_more (b := ((128 : Int32) ||| ((cp >>> ((6 : Int32) &&& 31)) &&& (63 : Int32)))) (i := 1) (len := 3) (cp := cp) (vl := v384) (c := y506) (k := (2 : Int32)) (g := (1 : Int32)) (k' := 1) (g' := 2) ⟨by omega, by omega⟩ (by omega) (by omega) (by decide) rfl rfl (by decide) (by decide) (by omega) (by omega)
        rw [← hy511, ← hy525, ← hy526, ← hy527, ← hy524] at hS1
        obtain ⟨q1, q2, q3, q4, hcc1⟩ := hS1
        subst q1 q2 q3 q4
        have hcn1 : y524.toInt = cp.toInt / 64 := by rw [hcc1]; omega
        refine o_iand (pc' := 333) X510 hx (hb hby at_332)  rfl ?_
        rw [show ((1 : Int32) &&& (1 : Int32)) = (1 : Int32) from by decide]
        refine o_istore (pc' := 335) (l' := #[.val (.int x0), .val (.int x1), .val (.int x2), .val (.int x3), .val (.int (3 : Int32)), .val (.int cp), .val (.ref b351), .val (.int (2048 : Int32)), .val (.int v384), .val (.int (2 : Int32)), .val (.ref b478), .val (.int (1 : Int32)), .unset, .unset, .unset]) X510 hx (hb hby at_333) rfl rfl ?_
        refine o_iload (pc' := 337) X510 hx (hb hby at_335) rfl rfl ?_
        refine o_iconst (pc' := 338) (v := (2 : Int32)) X510 hx (hb hby at_337) rfl rfl ?_
        refine o_icmpT (pc' := 362) X510 hx (hb hby at_338) (XT.ii_le_t (by decide)) (by decide) (by decide) ?_
        refine o_iload (pc' := 364) X510 hx (hb hby at_362) rfl rfl ?_
        refine o_iconst (pc' := 365) (v := (3 : Int32)) X510 hx (hb hby at_364) rfl rfl ?_
        refine o_icmpT (pc' := 389) X510 hx (hb hby at_365) (XT.ii_le_t (by decide)) (by decide) (by decide) ?_
        refine o_iload (pc' := 391) X510 hx (hb hby at_389) rfl rfl ?_
        refine o_iload (pc' := 393) X510 hx (hb hby at_391) rfl rfl ?_
        refine o_icmpT (pc' := 400) X510 hx (hb hby at_393) (XT.ii_ne_t (by decide)) (by decide) (by decide) ?_
        refine o_iconst (pc' := 401) (v := (0 : Int32)) X510 hx (hb hby at_400) rfl rfl ?_
        refine o_istore (pc' := 403) (l' := #[.val (.int x0), .val (.int x1), .val (.int x2), .val (.int x3), .val (.int (3 : Int32)), .val (.int cp), .val (.ref b351), .val (.int (2048 : Int32)), .val (.int v384), .val (.int (2 : Int32)), .val (.ref b478), .val (.int (1 : Int32)), .val (.int (0 : Int32)), .unset, .unset]) X510 hx (hb hby at_401) rfl rfl ?_
        refine o_iload (pc' := 405) X510 hx (hb hby at_403) rfl rfl ?_
        refine o_aload (pc' := 407) X510 hx (hb hby at_405) rfl rfl rfl ?_
        obtain ⟨r528, T528, L528, X528, hq528, st528⟩ := o_callV X510 hx hZ hown (hw _ (List.mem_of_getElem? (i := 33) rfl)) (hw _ (List.mem_of_getElem? (i := 34) rfl)) (hw _ (List.mem_of_getElem? (i := 36) rfl)) (hw _ (List.mem_of_getElem? (i := 35) rfl)) (hw _ (List.mem_of_getElem? (i := 9) rfl)) (hw _ (List.mem_of_getElem? (i := 37) rfl)) (by decide) E510_ (rm6 l Z a0 hw b478 (2 : Int32) T510.heap n0 Z523 E510_ F510_given) (rfl : T510.heap = _) (pc' := 410) (Ls := #[.val (.int x0), .val (.int x1), .val (.int x2), .val (.int x3), .val (.int (3 : Int32)), .val (.int cp), .val (.ref b351), .val (.int (2048 : Int32)), .val (.int v384), .val (.int (2 : Int32)), .val (.ref b478), .val (.int (1 : Int32)), .val (.int (0 : Int32)), .unset, .unset]) (by rw [hml]; rfl) [] [(.int (1 : Int32))] rfl pd4 rfl rfl 1 (Nat.le_of_eq rfl) (hb hby at_407) rfl (by decide) (by decide) (by decide) (by decide)
        obtain ⟨rfl, rfl, Kc528⟩ := hq528
        refine oGo.step (f' := (mkF m 410 #[.val (.int x0), .val (.int x1), .val (.int x2), .val (.int x3), .val (.int (3 : Int32)), .val (.int cp), .val (.ref b351), .val (.int (2048 : Int32)), .val (.int v384), .val (.int (2 : Int32)), .val (.ref b478), .val (.int (1 : Int32)), .val (.int (0 : Int32)), .unset, .unset] [(.int (2 : Int32)), (.int (1 : Int32))])) st528 ?_
        have e528 : T528.heap = T510.heap := Kc528
        have X528 := o_same X528 rfl rfl
        refine o_iload (pc' := 412) X528 hx (hb hby at_410) rfl rfl ?_
        refine o_ifT (pc' := 419) X528 hx (hb hby at_412) (XT.i0_eq_t (by decide)) (by decide) (by decide) ?_
        refine o_iload (pc' := 421) X528 hx (hb hby at_419) rfl rfl ?_
        refine o_icmpF (pc' := 424) X528 hx (hb hby at_421) (XT.ii_ne_f (by decide)) rfl ?_
        refine o_iconst (pc' := 425) (v := (1 : Int32)) X528 hx (hb hby at_424) rfl rfl ?_
        refine o_goto (pc' := 429) X528 hx (hb hby at_425) (by decide) (by decide) ?_
        refine o_iand (pc' := 430) X528 hx (hb hby at_429)  rfl ?_
        rw [show ((1 : Int32) &&& (1 : Int32)) = (1 : Int32) from by decide]
        refine o_istore (pc' := 432) (l' := #[.val (.int x0), .val (.int x1), .val (.int x2), .val (.int x3), .val (.int (3 : Int32)), .val (.int cp), .val (.ref b351), .val (.int (2048 : Int32)), .val (.int v384), .val (.int (2 : Int32)), .val (.ref b478), .val (.int (1 : Int32)), .val (.int (0 : Int32)), .unset, .unset]) X528 hx (hb hby at_430) rfl rfl ?_
        refine o_iloadN (pc' := 433) X528 hx (hb hby at_432) rfl rfl ?_
        refine o_bipush (pc' := 435) (v := (8 : Int32)) X528 hx (hb hby at_433) rfl rfl ?_
        refine o_iushr (pc' := 436) X528 hx (hb hby at_435)  rfl ?_
        refine o_iconst (pc' := 437) (v := (1 : Int32)) X528 hx (hb hby at_436) rfl rfl ?_
        refine o_iand (pc' := 438) X528 hx (hb hby at_437)  rfl ?_
        by_cases c529 : ((XT.ushr x3 (8 : Int32)) &&& (1 : Int32)) = 0
        · refine o_ifT (pc' := 573) X528 hx (hb hby at_438) (XT.i0_eq_t c529) (by decide) (by decide) ?_
          refine o_iload (pc' := 575) X528 hx (hb hby at_573) rfl rfl ?_
          refine o_ifT (pc' := 587) X528 hx (hb hby at_575) (XT.i0_eq_t (by decide)) (by decide) (by decide) ?_
          refine o_iconst (pc' := 588) (v := (0 : Int32)) X528 hx (hb hby at_587) rfl rfl ?_
          refine o_istore (pc' := 590) (l' := #[.val (.int x0), .val (.int x1), .val (.int x2), .val (.int x3), .val (.int (3 : Int32)), .val (.int cp), .val (.ref b351), .val (.int (2048 : Int32)), .val (.int v384), .val (.int (2 : Int32)), .val (.ref b478), .val (.int (1 : Int32)), .val (.int (0 : Int32)), .val (.int (0 : Int32)), .unset]) X528 hx (hb hby at_588) rfl rfl ?_
          refine o_iload (pc' := 592) X528 hx (hb hby at_590) rfl rfl ?_
          refine o_aload (pc' := 594) X528 hx (hb hby at_592) rfl rfl rfl ?_
          obtain ⟨r530, T530, L530, X530, hq530, st530⟩ := o_callV X528 hx hZ hown (hw _ (List.mem_of_getElem? (i := 38) rfl)) (hw _ (List.mem_of_getElem? (i := 39) rfl)) (hw _ (List.mem_of_getElem? (i := 41) rfl)) (hw _ (List.mem_of_getElem? (i := 40) rfl)) (hw _ (List.mem_of_getElem? (i := 9) rfl)) (hw _ (List.mem_of_getElem? (i := 42) rfl)) (by decide) E510_ (rm7 l Z a0 hw b478 y524 (1 : Int32) (2 : Int32) (0 : Int32) T510.heap n0 Z523 E510_ F510_codePoint F510_lacking F510_given F510_malformed ge480) e528 (pc' := 597) (Ls := #[.val (.int x0), .val (.int x1), .val (.int x2), .val (.int x3), .val (.int (3 : Int32)), .val (.int cp), .val (.ref b351), .val (.int (2048 : Int32)), .val (.int v384), .val (.int (2 : Int32)), .val (.ref b478), .val (.int (1 : Int32)), .val (.int (0 : Int32)), .val (.int (0 : Int32)), .unset]) (by rw [hml]; rfl) [] [(.int (1 : Int32))] rfl pd5 rfl rfl 1 (Nat.le_of_eq rfl) (hb hby at_594) rfl (by decide) (by decide) (by decide) (by decide)
          obtain ⟨rfl, N530, Kc530, E530_, F530_codePoint, F530_lacking, F530_given, F530_malformed⟩ := hq530
          obtain ⟨y531, hy531⟩ : ∃ z, z = (spec7 (1 : Int32) (0 : Int32)) := ⟨_, rfl⟩
          rw [← hy531] at st530
          refine oGo.step (f' := (mkF m 597 #[.val (.int x0), .val (.int x1), .val (.int x2), .val (.int x3), .val (.int (3 : Int32)), .val (.int cp), .val (.ref b351), .val (.int (2048 : Int32)), .val (.int v384), .val (.int (2 : Int32)), .val (.ref b478), .val (.int (1 : Int32)), .val (.int (0 : Int32)), .val (.int (0 : Int32)), .unset] [(.int y531), (.int (1 : Int32))])) st530 ?_
          have N530_ := Fr.app N510_ N530
          have K532 := Kc530
          have F533 := F513.keep K532 (allS ge480 all0)
          have F536 := F516.keep K532 (ninS ne479 nin0)
          have F537 := E510_.keep K532
          have Z543 := Nat.le_trans Z523 K532.1
          have X530 := o_flat X530 rfl rfl
          have hE : y531 = (0 : Int32) := by rw [hy531]; rfl
          refine o_iload (pc' := 599) X530 hx (hb hby at_597) rfl rfl ?_
          refine o_icmpF (pc' := 602) X530 hx (hb hby at_599) (XT.ii_ne_f hE) rfl ?_
          refine o_iconst (pc' := 603) (v := (1 : Int32)) X530 hx (hb hby at_602) rfl rfl ?_
          refine o_goto (pc' := 607) X530 hx (hb hby at_603) (by decide) (by decide) ?_
          refine o_iand (pc' := 608) X530 hx (hb hby at_607)  rfl ?_
          rw [show ((1 : Int32) &&& (1 : Int32)) = (1 : Int32) from by decide]
          refine o_istore (pc' := 610) (l' := #[.val (.int x0), .val (.int x1), .val (.int x2), .val (.int x3), .val (.int (3 : Int32)), .val (.int cp), .val (.ref b351), .val (.int (2048 : Int32)), .val (.int v384), .val (.int (2 : Int32)), .val (.ref b478), .val (.int (1 : Int32)), .val (.int (0 : Int32)), .val (.int (0 : Int32)), .unset]) X530 hx (hb hby at_608) rfl rfl ?_
          refine o_iload (pc' := 612) X530 hx (hb hby at_610) rfl rfl ?_
          refine o_retZ X530 hx hret hlk (hb hby at_612) (by decide) (by decide) (by decide) ?_
          exact ⟨rfl, N530_⟩
        · refine o_ifF (pc' := 441) X528 hx (hb hby at_438) (XT.i0_eq_f c529) rfl ?_
          refine o_iloadN (pc' := 442) X528 hx (hb hby at_441) rfl rfl ?_
          refine o_sipush (pc' := 445) (v := (255 : Int32)) X528 hx (hb hby at_442) rfl rfl ?_
          refine o_iand (pc' := 446) X528 hx (hb hby at_445)  rfl ?_
          refine o_istore (pc' := 448) (l' := #[.val (.int x0), .val (.int x1), .val (.int x2), .val (.int x3), .val (.int (3 : Int32)), .val (.int cp), .val (.ref b351), .val (.int (2048 : Int32)), .val (.int v384), .val (.int (2 : Int32)), .val (.ref b478), .val (.int (1 : Int32)), .val (.int (0 : Int32)), .unset, .val (.int (x3 &&& (255 : Int32)))]) X528 hx (hb hby at_446) rfl rfl ?_
          refine o_iload (pc' := 450) X528 hx (hb hby at_448) rfl rfl ?_
          refine o_ifF (pc' := 453) X528 hx (hb hby at_450) (XT.i0_ne_f (by decide)) rfl ?_
          refine o_iload (pc' := 455) X528 hx (hb hby at_453) rfl rfl ?_
          refine o_sipush (pc' := 458) (v := (192 : Int32)) X528 hx (hb hby at_455) rfl rfl ?_
          refine o_iand (pc' := 459) X528 hx (hb hby at_458)  rfl ?_
          refine o_sipush (pc' := 462) (v := (128 : Int32)) X528 hx (hb hby at_459) rfl rfl ?_
          have J545 : ∀ (v546 : Int32), v546 = (if ((x3 &&& (255 : Int32)) &&& (192 : Int32)) = (128 : Int32) then ((x3 &&& (255 : Int32)) ^^^ (64 : Int32)) else (x3 &&& (255 : Int32))) → oGo p e below (oG s (fun v h L => v = some (.int 1) ∧ Fr n0 L) room_1.cells room_1.slots) T528 (mkF m 472 #[.val (.int x0), .val (.int x1), .val (.int x2), .val (.int x3), .val (.int (3 : Int32)), .val (.int cp), .val (.ref b351), .val (.int (2048 : Int32)), .val (.int v384), .val (.int (2 : Int32)), .val (.ref b478), .val (.int (1 : Int32)), .val (.int (0 : Int32)), .unset, .val (.int v546)] []) := by
            intro v546 hv546
            refine o_iload (pc' := 474) X528 hx (hb hby at_472) rfl rfl ?_
            refine o_aload (pc' := 476) X528 hx (hb hby at_474) rfl rfl rfl ?_
            refine o_iload (pc' := 478) X528 hx (hb hby at_476) rfl rfl ?_
            have htB := own_tx (own_m255 x3) hv546
            obtain ⟨r547, T547, L547, X547, hq547, st547⟩ := o_callV X528 hx hZ hown (hw _ (List.mem_of_getElem? (i := 20) rfl)) (hw _ (List.mem_of_getElem? (i := 21) rfl)) (hw _ (List.mem_of_getElem? (i := 23) rfl)) (hw _ (List.mem_of_getElem? (i := 22) rfl)) (hw _ (List.mem_of_getElem? (i := 9) rfl)) (hw _ (List.mem_of_getElem? (i := 24) rfl)) (by decide) E510_ (rm5 l Z a0 hw b478 v546 y524 (1 : Int32) (2 : Int32) (0 : Int32) r_LEAST T510.heap n0 Z523 E510_ F510_codePoint F510_lacking F510_given F510_malformed ge480 hI510 F513 S_LEAST A_LEAST) e528 (pc' := 481) (Ls := #[.val (.int x0), .val (.int x1), .val (.int x2), .val (.int x3), .val (.int (3 : Int32)), .val (.int cp), .val (.ref b351), .val (.int (2048 : Int32)), .val (.int v384), .val (.int (2 : Int32)), .val (.ref b478), .val (.int (1 : Int32)), .val (.int (0 : Int32)), .unset, .val (.int v546)]) (by rw [hml]; rfl) [(.int v546)] [(.int (1 : Int32))] rfl pd0 rfl rfl 1 (Nat.le_of_eq rfl) (hb hby at_478) rfl (by decide) (by decide) (by decide) (by decide)
            obtain ⟨rfl, N547, Kc547, E547_, F547_codePoint, F547_lacking, F547_given, F547_malformed⟩ := hq547
            obtain ⟨y548, hy548⟩ : ∃ z, z = (spec5 v546 y524 (1 : Int32) (2 : Int32)) := ⟨_, rfl⟩
            rw [← hy548] at st547
            refine oGo.step (f' := (mkF m 481 #[.val (.int x0), .val (.int x1), .val (.int x2), .val (.int x3), .val (.int (3 : Int32)), .val (.int cp), .val (.ref b351), .val (.int (2048 : Int32)), .val (.int v384), .val (.int (2 : Int32)), .val (.ref b478), .val (.int (1 : Int32)), .val (.int (0 : Int32)), .unset, .val (.int v546)] [(.int y548), (.int (1 : Int32))])) st547 ?_
            have N547_ := Fr.app N510_ N547
            have K549 := Kc547
            have F550 := F513.keep K549 (allS ge480 all0)
            have F553 := F516.keep K549 (ninS ne479 nin0)
            have F554 := E510_.keep K549
            have Z560 := Nat.le_trans Z523 K549.1
            obtain ⟨y561, hy561⟩ : ∃ z, z = (fld5_codePoint v546 y524 (1 : Int32)) := ⟨_, rfl⟩
            rw [← hy561] at F547_codePoint
            obtain ⟨y562, hy562⟩ : ∃ z, z = (fld5_lacking v546 (1 : Int32)) := ⟨_, rfl⟩
            rw [← hy562] at F547_lacking
            obtain ⟨y563, hy563⟩ : ∃ z, z = (fld5_given v546 (1 : Int32) (2 : Int32)) := ⟨_, rfl⟩
            rw [← hy563] at F547_given
            obtain ⟨y564, hy564⟩ : ∃ z, z = (fld5_malformed v546 y524 (1 : Int32) (2 : Int32) (0 : Int32)) := ⟨_, rfl⟩
            rw [← hy564] at F547_malformed
            have hI547 : oInv y562 y563 y564 := by rw [hy562, hy563, hy564]; exact own_inv_next y524 v546 hI510
            have X547 := o_flat X547 rfl rfl
            have hA := nx_any (t := v546) (cp := y524) (k := (1 : Int32)) (g := (2 : Int32)) (z := (0 : Int32)) nz01 (Or.inr ⟨by decide, htB.2⟩)
            rw [← hy548, ← hy563] at hA
            refine o_iload (pc' := 483) X547 hx (hb hby at_481) rfl rfl ?_
            refine o_sipush (pc' := 486) (v := (128 : Int32)) X547 hx (hb hby at_483) rfl rfl ?_
            have J566 : ∀ (v567 : Int32), v567 = (if v546 < (128 : Int32) then v546 else (-1 : Int32)) → oGo p e below (oG s (fun v h L => v = some (.int 1) ∧ Fr n0 L) room_1.cells room_1.slots) T547 (mkF m 495 #[.val (.int x0), .val (.int x1), .val (.int x2), .val (.int x3), .val (.int (3 : Int32)), .val (.int cp), .val (.ref b351), .val (.int (2048 : Int32)), .val (.int v384), .val (.int (2 : Int32)), .val (.ref b478), .val (.int (1 : Int32)), .val (.int (0 : Int32)), .unset, .val (.int v546)] [(.int v567), (.int y548), (.int (1 : Int32))]) := by
              intro v567 hv567
              refine o_icmpF (pc' := 498) X547 hx (hb hby at_495) (XT.ii_ne_f (hA.1.trans hv567.symm)) rfl ?_
              refine o_iconst (pc' := 499) (v := (1 : Int32)) X547 hx (hb hby at_498) rfl rfl ?_
              refine o_goto (pc' := 503) X547 hx (hb hby at_499) (by decide) (by decide) ?_
              refine o_iand (pc' := 504) X547 hx (hb hby at_503)  rfl ?_
              rw [show ((1 : Int32) &&& (1 : Int32)) = (1 : Int32) from by decide]
              refine o_istore (pc' := 506) (l' := #[.val (.int x0), .val (.int x1), .val (.int x2), .val (.int x3), .val (.int (3 : Int32)), .val (.int cp), .val (.ref b351), .val (.int (2048 : Int32)), .val (.int v384), .val (.int (2 : Int32)), .val (.ref b478), .val (.int (1 : Int32)), .val (.int (0 : Int32)), .unset, .val (.int v546)]) X547 hx (hb hby at_504) rfl rfl ?_
              refine o_iload (pc' := 508) X547 hx (hb hby at_506) rfl rfl ?_
              refine o_aload (pc' := 510) X547 hx (hb hby at_508) rfl rfl rfl ?_
              obtain ⟨r568, T568, L568, X568, hq568, st568⟩ := o_callV X547 hx hZ hown (hw _ (List.mem_of_getElem? (i := 33) rfl)) (hw _ (List.mem_of_getElem? (i := 34) rfl)) (hw _ (List.mem_of_getElem? (i := 36) rfl)) (hw _ (List.mem_of_getElem? (i := 35) rfl)) (hw _ (List.mem_of_getElem? (i := 9) rfl)) (hw _ (List.mem_of_getElem? (i := 37) rfl)) (by decide) E547_ (rm6 l Z a0 hw b478 y563 T547.heap n0 Z560 E547_ F547_given) (rfl : T547.heap = _) (pc' := 513) (Ls := #[.val (.int x0), .val (.int x1), .val (.int x2), .val (.int x3), .val (.int (3 : Int32)), .val (.int cp), .val (.ref b351), .val (.int (2048 : Int32)), .val (.int v384), .val (.int (2 : Int32)), .val (.ref b478), .val (.int (1 : Int32)), .val (.int (0 : Int32)), .unset, .val (.int v546)]) (by rw [hml]; rfl) [] [(.int (1 : Int32))] rfl pd4 rfl rfl 1 (Nat.le_of_eq rfl) (hb hby at_510) rfl (by decide) (by decide) (by decide) (by decide)
              obtain ⟨rfl, rfl, Kc568⟩ := hq568
              refine oGo.step (f' := (mkF m 513 #[.val (.int x0), .val (.int x1), .val (.int x2), .val (.int x3), .val (.int (3 : Int32)), .val (.int cp), .val (.ref b351), .val (.int (2048 : Int32)), .val (.int v384), .val (.int (2 : Int32)), .val (.ref b478), .val (.int (1 : Int32)), .val (.int (0 : Int32)), .unset, .val (.int v546)] [(.int y563), (.int (1 : Int32))])) st568 ?_
              have e568 : T568.heap = T547.heap := Kc568
              have X568 := o_same X568 rfl rfl
              refine o_iload (pc' := 515) X568 hx (hb hby at_513) rfl rfl ?_
              refine o_sipush (pc' := 518) (v := (192 : Int32)) X568 hx (hb hby at_515) rfl rfl ?_
              have J570 : ∀ (v572 : Int32), v572 = (if v546 < (192 : Int32) then (0 : Int32) else (if (247 : Int32) < v546 then (0 : Int32) else (1 : Int32))) → oGo p e below (oG s (fun v h L => v = some (.int 1) ∧ Fr n0 L) room_1.cells room_1.slots) T568 (mkF m 534 #[.val (.int x0), .val (.int x1), .val (.int x2), .val (.int x3), .val (.int (3 : Int32)), .val (.int cp), .val (.ref b351), .val (.int (2048 : Int32)), .val (.int v384), .val (.int (2 : Int32)), .val (.ref b478), .val (.int (1 : Int32)), .val (.int (0 : Int32)), .unset, .val (.int v546)] [(.int v572), (.int y563), (.int (1 : Int32))]) := by
                intro v572 hv572
                refine o_icmpF (pc' := 537) X568 hx (hb hby at_534) (XT.ii_ne_f (hA.2.trans hv572.symm)) rfl ?_
                refine o_iconst (pc' := 538) (v := (1 : Int32)) X568 hx (hb hby at_537) rfl rfl ?_
                refine o_goto (pc' := 542) X568 hx (hb hby at_538) (by decide) (by decide) ?_
                refine o_iand (pc' := 543) X568 hx (hb hby at_542)  rfl ?_
                rw [show ((1 : Int32) &&& (1 : Int32)) = (1 : Int32) from by decide]
                refine o_istore (pc' := 545) (l' := #[.val (.int x0), .val (.int x1), .val (.int x2), .val (.int x3), .val (.int (3 : Int32)), .val (.int cp), .val (.ref b351), .val (.int (2048 : Int32)), .val (.int v384), .val (.int (2 : Int32)), .val (.ref b478), .val (.int (1 : Int32)), .val (.int (0 : Int32)), .unset, .val (.int v546)]) X568 hx (hb hby at_543) rfl rfl ?_
                refine o_iload (pc' := 547) X568 hx (hb hby at_545) rfl rfl ?_
                refine o_ifT (pc' := 567) X568 hx (hb hby at_547) (XT.i0_eq_t (by decide)) (by decide) (by decide) ?_
                refine o_iconst (pc' := 568) (v := (0 : Int32)) X568 hx (hb hby at_567) rfl rfl ?_
                refine o_istore (pc' := 570) (l' := #[.val (.int x0), .val (.int x1), .val (.int x2), .val (.int x3), .val (.int (3 : Int32)), .val (.int cp), .val (.ref b351), .val (.int (2048 : Int32)), .val (.int v384), .val (.int (2 : Int32)), .val (.ref b478), .val (.int (1 : Int32)), .val (.int (0 : Int32)), .val (.int (0 : Int32)), .val (.int v546)]) X568 hx (hb hby at_568) rfl rfl ?_
                refine o_goto (pc' := 590) X568 hx (hb hby at_570) (by decide) (by decide) ?_
                refine o_iload (pc' := 592) X568 hx (hb hby at_590) rfl rfl ?_
                refine o_aload (pc' := 594) X568 hx (hb hby at_592) rfl rfl rfl ?_
                obtain ⟨r573, T573, L573, X573, hq573, st573⟩ := o_callV X568 hx hZ hown (hw _ (List.mem_of_getElem? (i := 38) rfl)) (hw _ (List.mem_of_getElem? (i := 39) rfl)) (hw _ (List.mem_of_getElem? (i := 41) rfl)) (hw _ (List.mem_of_getElem? (i := 40) rfl)) (hw _ (List.mem_of_getElem? (i := 9) rfl)) (hw _ (List.mem_of_getElem? (i := 42) rfl)) (by decide) E547_ (rm7 l Z a0 hw b478 y561 y562 y563 y564 T547.heap n0 Z560 E547_ F547_codePoint F547_lacking F547_given F547_malformed ge480) e568 (pc' := 597) (Ls := #[.val (.int x0), .val (.int x1), .val (.int x2), .val (.int x3), .val (.int (3 : Int32)), .val (.int cp), .val (.ref b351), .val (.int (2048 : Int32)), .val (.int v384), .val (.int (2 : Int32)), .val (.ref b478), .val (.int (1 : Int32)), .val (.int (0 : Int32)), .val (.int (0 : Int32)), .val (.int v546)]) (by rw [hml]; rfl) [] [(.int (1 : Int32))] rfl pd5 rfl rfl 1 (Nat.le_of_eq rfl) (hb hby at_594) rfl (by decide) (by decide) (by decide) (by decide)
                obtain ⟨rfl, N573, Kc573, E573_, F573_codePoint, F573_lacking, F573_given, F573_malformed⟩ := hq573
                obtain ⟨y574, hy574⟩ : ∃ z, z = (spec7 y562 y564) := ⟨_, rfl⟩
                rw [← hy574] at st573
                refine oGo.step (f' := (mkF m 597 #[.val (.int x0), .val (.int x1), .val (.int x2), .val (.int x3), .val (.int (3 : Int32)), .val (.int cp), .val (.ref b351), .val (.int (2048 : Int32)), .val (.int v384), .val (.int (2 : Int32)), .val (.ref b478), .val (.int (1 : Int32)), .val (.int (0 : Int32)), .val (.int (0 : Int32)), .val (.int v546)] [(.int y574), (.int (1 : Int32))])) st573 ?_
                have N573_ := Fr.app N547_ N573
                have K575 := Kc573
                have F576 := F550.keep K575 (allS ge480 all0)
                have F579 := F553.keep K575 (ninS ne479 nin0)
                have F580 := E547_.keep K575
                have Z586 := Nat.le_trans Z560 K575.1
                have X573 := o_flat X573 rfl rfl
                have hE : y574 = (0 : Int32) := by rw [hy574, hy562, hy564]; exact end_cut (by decide) htB.2
                refine o_iload (pc' := 599) X573 hx (hb hby at_597) rfl rfl ?_
                refine o_icmpF (pc' := 602) X573 hx (hb hby at_599) (XT.ii_ne_f hE) rfl ?_
                refine o_iconst (pc' := 603) (v := (1 : Int32)) X573 hx (hb hby at_602) rfl rfl ?_
                refine o_goto (pc' := 607) X573 hx (hb hby at_603) (by decide) (by decide) ?_
                refine o_iand (pc' := 608) X573 hx (hb hby at_607)  rfl ?_
                rw [show ((1 : Int32) &&& (1 : Int32)) = (1 : Int32) from by decide]
                refine o_istore (pc' := 610) (l' := #[.val (.int x0), .val (.int x1), .val (.int x2), .val (.int x3), .val (.int (3 : Int32)), .val (.int cp), .val (.ref b351), .val (.int (2048 : Int32)), .val (.int v384), .val (.int (2 : Int32)), .val (.ref b478), .val (.int (1 : Int32)), .val (.int (0 : Int32)), .val (.int (0 : Int32)), .val (.int v546)]) X573 hx (hb hby at_608) rfl rfl ?_
                refine o_iload (pc' := 612) X573 hx (hb hby at_610) rfl rfl ?_
                refine o_retZ X573 hx hret hlk (hb hby at_612) (by decide) (by decide) (by decide) ?_
                exact ⟨rfl, N573_⟩
              by_cases c569 : v546 < (192 : Int32)
              · refine o_icmpT (pc' := 533) X568 hx (hb hby at_518) (XT.ii_lt_t c569) (by decide) (by decide) ?_
                refine o_iconst (pc' := 534) (v := (0 : Int32)) X568 hx (hb hby at_533) rfl rfl ?_
                exact J570 _ (if_pos c569).symm
              · refine o_icmpF (pc' := 521) X568 hx (hb hby at_518) (XT.ii_lt_f c569) rfl ?_
                refine o_iload (pc' := 523) X568 hx (hb hby at_521) rfl rfl ?_
                refine o_sipush (pc' := 526) (v := (247 : Int32)) X568 hx (hb hby at_523) rfl rfl ?_
                by_cases c571 : (247 : Int32) < v546
                · refine o_icmpT (pc' := 533) X568 hx (hb hby at_526) (XT.ii_gt_t c571) (by decide) (by decide) ?_
                  refine o_iconst (pc' := 534) (v := (0 : Int32)) X568 hx (hb hby at_533) rfl rfl ?_
                  exact J570 _ ((if_neg c569).trans (if_pos c571)).symm
                · refine o_icmpF (pc' := 529) X568 hx (hb hby at_526) (XT.ii_gt_f c571) rfl ?_
                  refine o_iconst (pc' := 530) (v := (1 : Int32)) X568 hx (hb hby at_529) rfl rfl ?_
                  refine o_goto (pc' := 534) X568 hx (hb hby at_530) (by decide) (by decide) ?_
                  exact J570 _ ((if_neg c569).trans (if_neg c571)).symm
            by_cases c565 : v546 < (128 : Int32)
            · refine o_icmpF (pc' := 489) X547 hx (hb hby at_486) (XT.ii_ge_f c565) rfl ?_
              refine o_iload (pc' := 491) X547 hx (hb hby at_489) rfl rfl ?_
              refine o_goto (pc' := 495) X547 hx (hb hby at_491) (by decide) (by decide) ?_
              exact J566 _ (if_pos c565).symm
            · refine o_icmpT (pc' := 494) X547 hx (hb hby at_486) (XT.ii_ge_t c565) (by decide) (by decide) ?_
              refine o_iconst (pc' := 495) (v := (-1 : Int32)) X547 hx (hb hby at_494) rfl rfl ?_
              exact J566 _ (if_neg c565).symm
          by_cases c544 : ((x3 &&& (255 : Int32)) &&& (192 : Int32)) = (128 : Int32)
          · refine o_icmpF (pc' := 465) X528 hx (hb hby at_462) (XT.ii_ne_f c544) rfl ?_
            refine o_iload (pc' := 467) X528 hx (hb hby at_465) rfl rfl ?_
            refine o_bipush (pc' := 469) (v := (64 : Int32)) X528 hx (hb hby at_467) rfl rfl ?_
            refine o_ixor (pc' := 470) X528 hx (hb hby at_469)  rfl ?_
            refine o_istore (pc' := 472) (l' := #[.val (.int x0), .val (.int x1), .val (.int x2), .val (.int x3), .val (.int (3 : Int32)), .val (.int cp), .val (.ref b351), .val (.int (2048 : Int32)), .val (.int v384), .val (.int (2 : Int32)), .val (.ref b478), .val (.int (1 : Int32)), .val (.int (0 : Int32)), .unset, .val (.int ((x3 &&& (255 : Int32)) ^^^ (64 : Int32)))]) X528 hx (hb hby at_470) rfl rfl ?_
            exact J545 _ (if_pos c544).symm
          · refine o_icmpT (pc' := 472) X528 hx (hb hby at_462) (XT.ii_ne_t c544) (by decide) (by decide) ?_
            exact J545 _ (if_neg c544).symm
      · obtain ⟨T587, h587_, X587, e587, E587, A587, D587, -, st587⟩ := newO X385 hx hZ hown (hw _ (List.mem_of_getElem? (i := 7) rfl)) (hw _ (List.mem_of_getElem? (i := 8) rfl)) (hw _ (List.mem_of_getElem? (i := 9) rfl)) e385 (g := (mkF m 281 #[.val (.int x0), .val (.int x1), .val (.int x2), .val (.int x3), .val (.int (3 : Int32)), .val (.int cp), .val (.ref b351), .val (.int (2048 : Int32)), .val (.int v384), .val (.int (3 : Int32)), .unset, .unset, .unset, .unset, .unset] [])) rfl (hb hby at_281) (by decide) (by decide)
        obtain ⟨b587, g587⟩ : ∃ z, z = h372_.size := ⟨_, rfl⟩
        rw [← g587] at A587 D587 st587
        have ne588 : b351 ≠ b587 := by rw [g587]; exact Nat.ne_of_lt F373.lt
        have ge589 : n0 ≤ b587 := by rw [g587]; exact Z378
        have K590 := (Keep.refl h372_ []).ext E587
        have F591 := F375.keep K590 all0
        have F594 := F373.keep K590 nin0
        have Z595 := Nat.le_trans Z378 K590.1
        have F596 : Fld Z h587_ b587 "com/example/harborlog/harborlog/Utf8Decoder" "lacking" "I" (.int (0 : Int32)) := D587 (Or.inl (hw _ (List.mem_of_getElem? (i := 26) rfl))) (ty := .int) (by decide)
        have F597 : Fld Z h587_ b587 "com/example/harborlog/harborlog/Utf8Decoder" "malformed" "Z" (.int (0 : Int32)) := D587 (Or.inl (hw _ (List.mem_of_getElem? (i := 28) rfl))) (ty := .boolean) (by decide)
        have F598 : Fld Z h587_ b587 "com/example/harborlog/harborlog/Utf8Decoder" "given" "I" (.int (0 : Int32)) := D587 (Or.inl (hw _ (List.mem_of_getElem? (i := 30) rfl))) (ty := .int) (by decide)
        have F599 : Fld Z h587_ b587 "com/example/harborlog/harborlog/Utf8Decoder" "codePoint" "I" (.int (0 : Int32)) := D587 (Or.inl (hw _ (List.mem_of_getElem? (i := 32) rfl))) (ty := .int) (by decide)
        refine oGo.step (f' := (mkF m 284 #[.val (.int x0), .val (.int x1), .val (.int x2), .val (.int x3), .val (.int (3 : Int32)), .val (.int cp), .val (.ref b351), .val (.int (2048 : Int32)), .val (.int v384), .val (.int (3 : Int32)), .unset, .unset, .unset, .unset, .unset] [(.ref b587)])) st587 ?_
        refine o_dup (pc' := 285) X587 hx (hb hby at_284) rfl rfl ?_
        obtain ⟨r600, T600, L600, X600, hq600, st600⟩ := o_callN X587 hx hZ hown rfl (hw _ (List.mem_of_getElem? (i := 10) rfl)) (hw _ (List.mem_of_getElem? (i := 11) rfl)) (hw _ (List.mem_of_getElem? (i := 9) rfl)) (hw _ (List.mem_of_getElem? (i := 12) rfl)) (by decide) (rm2 l Z a0 hw b587 h587_ n0 Z595 ) e587 (pc' := 288) (Ls := #[.val (.int x0), .val (.int x1), .val (.int x2), .val (.int x3), .val (.int (3 : Int32)), .val (.int cp), .val (.ref b351), .val (.int (2048 : Int32)), .val (.int v384), .val (.int (3 : Int32)), .unset, .unset, .unset, .unset, .unset]) (by rw [hml]; rfl) [] [(.ref b587)] rfl pd2 rfl rfl 1 (Nat.le_of_eq rfl) (hb hby at_285) rfl (by decide) (by decide) (by decide) (by decide)
        obtain ⟨rfl, rfl, Kc600⟩ := hq600
        refine oGo.step (f' := (mkF m 288 #[.val (.int x0), .val (.int x1), .val (.int x2), .val (.int x3), .val (.int (3 : Int32)), .val (.int cp), .val (.ref b351), .val (.int (2048 : Int32)), .val (.int v384), .val (.int (3 : Int32)), .unset, .unset, .unset, .unset, .unset] [(.ref b587)])) st600 ?_
        have e600 : T600.heap = h587_ := Kc600
        have X600 := o_same X600 rfl rfl
        refine o_astore (pc' := 290) (l' := #[.val (.int x0), .val (.int x1), .val (.int x2), .val (.int x3), .val (.int (3 : Int32)), .val (.int cp), .val (.ref b351), .val (.int (2048 : Int32)), .val (.int v384), .val (.int (3 : Int32)), .val (.ref b587), .unset, .unset, .unset, .unset]) X600 hx (hb hby at_288) rfl rfl rfl ?_
        have eb0 : (((224 : Int32) ||| (cp >>> ((12 : Int32) &&& 31)))).toInt = 224 + cp.toInt / 4096 := own_hd (K := 224) 12 12 (by decide) hc0 (j := 4) (by decide) 16 (by decide) (by decide) (by decide) (by decide) (by omega) (by decide)
        have es1 := own_shr (cp := cp) 6 6 (by decide)
        have eb1 : (((128 : Int32) ||| ((cp >>> ((6 : Int32) &&& 31)) &&& (63 : Int32)))).toInt = 128 + cp.toInt / 64 % 64 := by rw [own_tl (by omega), es1]; omega
        have eb2 : (((128 : Int32) ||| (cp &&& (63 : Int32)))).toInt = 128 + cp.toInt % 64 := own_tl hc0
        refine o_aload (pc' := 292) X600 hx (hb hby at_290) rfl rfl rfl ?_
        refine o_aload (pc' := 294) X600 hx (hb hby at_292) rfl rfl rfl ?_
        refine o_iconst (pc' := 295) (v := (0 : Int32)) X600 hx (hb hby at_294) rfl rfl ?_
        refine o_iaload (pc' := 296) (v := ((224 : Int32) ||| (cp >>> ((12 : Int32) &&& 31)))) X600 hx hZ e600 F594 (hb hby at_295) (by decide) rfl rfl ?_
        refine o_iconst (pc' := 297) (v := (0 : Int32)) X600 hx (hb hby at_296) rfl rfl ?_
        refine o_iload (pc' := 299) X600 hx (hb hby at_297) rfl rfl ?_
        refine o_iload (pc' := 301) X600 hx (hb hby at_299) rfl rfl ?_
        refine o_iload (pc' := 303) X600 hx (hb hby at_301) rfl rfl ?_
        obtain ⟨r601, T601, L601, X601, hq601, st601⟩ := o_callS X600 hx hZ hown (hw _ (List.mem_of_getElem? (i := 16) rfl)) (hw _ (List.mem_of_getElem? (i := 17) rfl)) (hw _ (List.mem_of_getElem? (i := 18) rfl)) (hw _ (List.mem_of_getElem? (i := 19) rfl)) (by decide) (rm4 l Z a0 hw b587 ((224 : Int32) ||| (cp >>> ((12 : Int32) &&& 31))) (0 : Int32) (3 : Int32) cp v384 (0 : Int32) (0 : Int32) (0 : Int32) (0 : Int32) r_LEAST h587_ n0 Z595 A587 F599 F596 F598 F597 ge589 own_inv0 F591 S_LEAST A_LEAST) e600 (pc' := 306) (Ls := #[.val (.int x0), .val (.int x1), .val (.int x2), .val (.int x3), .val (.int (3 : Int32)), .val (.int cp), .val (.ref b351), .val (.int (2048 : Int32)), .val (.int v384), .val (.int (3 : Int32)), .val (.ref b587), .unset, .unset, .unset, .unset]) (by rw [hml]; rfl) [(.ref b587), (.int ((224 : Int32) ||| (cp >>> ((12 : Int32) &&& 31)))), (.int (0 : Int32)), (.int (3 : Int32)), (.int cp), (.int v384)] [] rfl pd3 rfl rfl 0 (Nat.le_of_eq rfl) (hb hby at_303) rfl (by decide) (by decide) (by decide) (by decide)
        obtain ⟨rfl, N601, Kc601, E601_, F601_codePoint, F601_lacking, F601_given, F601_malformed⟩ := hq601
        obtain ⟨y602, hy602⟩ : ∃ z, z = (spec4 ((224 : Int32) ||| (cp >>> ((12 : Int32) &&& 31))) (0 : Int32) (3 : Int32) cp v384 (0 : Int32) (0 : Int32) (0 : Int32)) := ⟨_, rfl⟩
        rw [← hy602] at st601
        refine oGo.step (f' := (mkF m 306 #[.val (.int x0), .val (.int x1), .val (.int x2), .val (.int x3), .val (.int (3 : Int32)), .val (.int cp), .val (.ref b351), .val (.int (2048 : Int32)), .val (.int v384), .val (.int (3 : Int32)), .val (.ref b587), .unset, .unset, .unset, .unset] [(.int y602)])) st601 ?_
        have N601_ := Fr.app N372 N601
        have K603 := Kc601
        have F604 := F591.keep K603 (allS ge589 all0)
        have F607 := F594.keep K603 (ninS ne588 nin0)
        have F608 := A587.keep K603
        have Z614 := Nat.le_trans Z595 K603.1
        obtain ⟨y615, hy615⟩ : ∃ z, z = (fld5_codePoint ((224 : Int32) ||| (cp >>> ((12 : Int32) &&& 31))) (0 : Int32) (0 : Int32)) := ⟨_, rfl⟩
        rw [← hy615] at F601_codePoint
        obtain ⟨y616, hy616⟩ : ∃ z, z = (fld5_lacking ((224 : Int32) ||| (cp >>> ((12 : Int32) &&& 31))) (0 : Int32)) := ⟨_, rfl⟩
        rw [← hy616] at F601_lacking
        obtain ⟨y617, hy617⟩ : ∃ z, z = (fld5_given ((224 : Int32) ||| (cp >>> ((12 : Int32) &&& 31))) (0 : Int32) (0 : Int32)) := ⟨_, rfl⟩
        rw [← hy617] at F601_given
        obtain ⟨y618, hy618⟩ : ∃ z, z = (fld5_malformed ((224 : Int32) ||| (cp >>> ((12 : Int32) &&& 31))) (0 : Int32) (0 : Int32) (0 : Int32) (0 : Int32)) := ⟨_, rfl⟩
        rw [← hy618] at F601_malformed
        have hI601 : oInv y616 y617 y618 := by rw [hy616, hy617, hy618]; exact own_inv_next (0 : Int32) ((224 : Int32) ||| (cp >>> ((12 : Int32) &&& 31))) own_inv0
        have X601 := o_flat X601 rfl rfl
        have hS0 := st_lead (b := ((224 : Int32) ||| (cp >>> ((12 : Int32) &&& 31)))) (i := 0) (len := 3) (cp := cp) (vl := v384) (k := 2) (by omega) (by omega) (own_top2 (by omega) (by omega)) (by decide)
        rw [← hy602, ← hy616, ← hy617, ← hy618, ← hy615] at hS0
        obtain ⟨q1, q2, q3, q4, hcc0⟩ := hS0
        subst q1 q2 q3 q4
        have hcn0 : y615.toInt = cp.toInt / 4096 := by rw [hcc0]; have m := (own_byte (x := ((224 : Int32) ||| (cp >>> ((12 : Int32) &&& 31)))) ⟨by omega, by omega⟩).2.2.2.1; rw [show ((63 : Int32) >>> ((2 : Int32) &&& 31)) = 15 from by decide]; omega
        refine o_istore (pc' := 308) (l' := #[.val (.int x0), .val (.int x1), .val (.int x2), .val (.int x3), .val (.int (3 : Int32)), .val (.int cp), .val (.ref b351), .val (.int (2048 : Int32)), .val (.int v384), .val (.int (3 : Int32)), .val (.ref b587), .val (.int (1 : Int32)), .unset, .unset, .unset]) X601 hx (hb hby at_306) rfl rfl ?_
        refine o_iload (pc' := 310) X601 hx (hb hby at_308) rfl rfl ?_
        refine o_iconst (pc' := 311) (v := (1 : Int32)) X601 hx (hb hby at_310) rfl rfl ?_
        refine o_icmpF (pc' := 314) X601 hx (hb hby at_311) (XT.ii_le_f (by decide)) rfl ?_
        refine o_iload (pc' := 316) X601 hx (hb hby at_314) rfl rfl ?_
        refine o_aload (pc' := 318) X601 hx (hb hby at_316) rfl rfl rfl ?_
        refine o_aload (pc' := 320) X601 hx (hb hby at_318) rfl rfl rfl ?_
        refine o_iconst (pc' := 321) (v := (1 : Int32)) X601 hx (hb hby at_320) rfl rfl ?_
        refine o_iaload (pc' := 322) (v := ((128 : Int32) ||| ((cp >>> ((6 : Int32) &&& 31)) &&& (63 : Int32)))) X601 hx hZ (rfl : T601.heap = _) F607 (hb hby at_321) (by decide) rfl rfl ?_
        refine o_iconst (pc' := 323) (v := (1 : Int32)) X601 hx (hb hby at_322) rfl rfl ?_
        refine o_iload (pc' := 325) X601 hx (hb hby at_323) rfl rfl ?_
        refine o_iload (pc' := 327) X601 hx (hb hby at_325) rfl rfl ?_
        refine o_iload (pc' := 329) X601 hx (hb hby at_327) rfl rfl ?_
        obtain ⟨r619, T619, L619, X619, hq619, st619⟩ := o_callS X601 hx hZ hown (hw _ (List.mem_of_getElem? (i := 16) rfl)) (hw _ (List.mem_of_getElem? (i := 17) rfl)) (hw _ (List.mem_of_getElem? (i := 18) rfl)) (hw _ (List.mem_of_getElem? (i := 19) rfl)) (by decide) (rm4 l Z a0 hw b587 ((128 : Int32) ||| ((cp >>> ((6 : Int32) &&& 31)) &&& (63 : Int32))) (1 : Int32) (3 : Int32) cp v384 y615 (2 : Int32) (1 : Int32) (0 : Int32) r_LEAST T601.heap n0 Z614 E601_ F601_codePoint F601_lacking F601_given F601_malformed ge589 hI601 F604 S_LEAST A_LEAST) (rfl : T601.heap = _) (pc' := 332) (Ls := #[.val (.int x0), .val (.int x1), .val (.int x2), .val (.int x3), .val (.int (3 : Int32)), .val (.int cp), .val (.ref b351), .val (.int (2048 : Int32)), .val (.int v384), .val (.int (3 : Int32)), .val (.ref b587), .val (.int (1 : Int32)), .unset, .unset, .unset]) (by rw [hml]; rfl) [(.ref b587), (.int ((128 : Int32) ||| ((cp >>> ((6 : Int32) &&& 31)) &&& (63 : Int32)))), (.int (1 : Int32)), (.int (3 : Int32)), (.int cp), (.int v384)] [(.int (1 : Int32))] rfl pd3 rfl rfl 1 (Nat.le_of_eq rfl) (hb hby at_329) rfl (by decide) (by decide) (by decide) (by decide)
        obtain ⟨rfl, N619, Kc619, E619_, F619_codePoint, F619_lacking, F619_given, F619_malformed⟩ := hq619
        obtain ⟨y620, hy620⟩ : ∃ z, z = (spec4 ((128 : Int32) ||| ((cp >>> ((6 : Int32) &&& 31)) &&& (63 : Int32))) (1 : Int32) (3 : Int32) cp v384 y615 (2 : Int32) (1 : Int32)) := ⟨_, rfl⟩
        rw [← hy620] at st619
        refine oGo.step (f' := (mkF m 332 #[.val (.int x0), .val (.int x1), .val (.int x2), .val (.int x3), .val (.int (3 : Int32)), .val (.int cp), .val (.ref b351), .val (.int (2048 : Int32)), .val (.int v384), .val (.int (3 : Int32)), .val (.ref b587), .val (.int (1 : Int32)), .unset, .unset, .unset] [(.int y620), (.int (1 : Int32))])) st619 ?_
        have N619_ := Fr.app N601_ N619
        have K621 := Kc619
        have F622 := F604.keep K621 (allS ge589 all0)
        have F625 := F607.keep K621 (ninS ne588 nin0)
        have F626 := E601_.keep K621
        have Z632 := Nat.le_trans Z614 K621.1
        obtain ⟨y633, hy633⟩ : ∃ z, z = (fld5_codePoint ((128 : Int32) ||| ((cp >>> ((6 : Int32) &&& 31)) &&& (63 : Int32))) y615 (2 : Int32)) := ⟨_, rfl⟩
        rw [← hy633] at F619_codePoint
        obtain ⟨y634, hy634⟩ : ∃ z, z = (fld5_lacking ((128 : Int32) ||| ((cp >>> ((6 : Int32) &&& 31)) &&& (63 : Int32))) (2 : Int32)) := ⟨_, rfl⟩
        rw [← hy634] at F619_lacking
        obtain ⟨y635, hy635⟩ : ∃ z, z = (fld5_given ((128 : Int32) ||| ((cp >>> ((6 : Int32) &&& 31)) &&& (63 : Int32))) (2 : Int32) (1 : Int32)) := ⟨_, rfl⟩
        rw [← hy635] at F619_given
        obtain ⟨y636, hy636⟩ : ∃ z, z = (fld5_malformed ((128 : Int32) ||| ((cp >>> ((6 : Int32) &&& 31)) &&& (63 : Int32))) y615 (2 : Int32) (1 : Int32) (0 : Int32)) := ⟨_, rfl⟩
        rw [← hy636] at F619_malformed
        have hI619 : oInv y634 y635 y636 := by rw [hy634, hy635, hy636]; exact own_inv_next y615 ((128 : Int32) ||| ((cp >>> ((6 : Int32) &&& 31)) &&& (63 : Int32))) hI601
        have X619 := o_flat X619 rfl rfl
        have hS1 := st_more (b := ((128 : Int32) ||| ((cp >>> ((6 : Int32) &&& 31)) &&& (63 : Int32)))) (i := 1) (len := 3) (cp := cp) (vl := v384) (c := y615) (k := (2 : Int32)) (g := (1 : Int32)) (k' := 1) (g' := 2) ⟨by omega, by omega⟩ (by omega) (by omega) (by decide) rfl rfl (by decide) (by decide) (by omega) (by omega)
        rw [← hy620, ← hy634, ← hy635, ← hy636, ← hy633] at hS1
        obtain ⟨q1, q2, q3, q4, hcc1⟩ := hS1
        subst q1 q2 q3 q4
        have hcn1 : y633.toInt = cp.toInt / 64 := by rw [hcc1]; omega
        refine o_iand (pc' := 333) X619 hx (hb hby at_332)  rfl ?_
        rw [show ((1 : Int32) &&& (1 : Int32)) = (1 : Int32) from by decide]
        refine o_istore (pc' := 335) (l' := #[.val (.int x0), .val (.int x1), .val (.int x2), .val (.int x3), .val (.int (3 : Int32)), .val (.int cp), .val (.ref b351), .val (.int (2048 : Int32)), .val (.int v384), .val (.int (3 : Int32)), .val (.ref b587), .val (.int (1 : Int32)), .unset, .unset, .unset]) X619 hx (hb hby at_333) rfl rfl ?_
        refine o_iload (pc' := 337) X619 hx (hb hby at_335) rfl rfl ?_
        refine o_iconst (pc' := 338) (v := (2 : Int32)) X619 hx (hb hby at_337) rfl rfl ?_
        refine o_icmpF (pc' := 341) X619 hx (hb hby at_338) (XT.ii_le_f (by decide)) rfl ?_
        refine o_iload (pc' := 343) X619 hx (hb hby at_341) rfl rfl ?_
        refine o_aload (pc' := 345) X619 hx (hb hby at_343) rfl rfl rfl ?_
        refine o_aload (pc' := 347) X619 hx (hb hby at_345) rfl rfl rfl ?_
        refine o_iconst (pc' := 348) (v := (2 : Int32)) X619 hx (hb hby at_347) rfl rfl ?_
        refine o_iaload (pc' := 349) (v := ((128 : Int32) ||| (cp &&& (63 : Int32)))) X619 hx hZ (rfl : T619.heap = _) F625 (hb hby at_348) (by decide) rfl rfl ?_
        refine o_iconst (pc' := 350) (v := (2 : Int32)) X619 hx (hb hby at_349) rfl rfl ?_
        refine o_iload (pc' := 352) X619 hx (hb hby at_350) rfl rfl ?_
        refine o_iload (pc' := 354) X619 hx (hb hby at_352) rfl rfl ?_
        refine o_iload (pc' := 356) X619 hx (hb hby at_354) rfl rfl ?_
        obtain ⟨r637, T637, L637, X637, hq637, st637⟩ := o_callS X619 hx hZ hown (hw _ (List.mem_of_getElem? (i := 16) rfl)) (hw _ (List.mem_of_getElem? (i := 17) rfl)) (hw _ (List.mem_of_getElem? (i := 18) rfl)) (hw _ (List.mem_of_getElem? (i := 19) rfl)) (by decide) (rm4 l Z a0 hw b587 ((128 : Int32) ||| (cp &&& (63 : Int32))) (2 : Int32) (3 : Int32) cp v384 y633 (1 : Int32) (2 : Int32) (0 : Int32) r_LEAST T619.heap n0 Z632 E619_ F619_codePoint F619_lacking F619_given F619_malformed ge589 hI619 F622 S_LEAST A_LEAST) (rfl : T619.heap = _) (pc' := 359) (Ls := #[.val (.int x0), .val (.int x1), .val (.int x2), .val (.int x3), .val (.int (3 : Int32)), .val (.int cp), .val (.ref b351), .val (.int (2048 : Int32)), .val (.int v384), .val (.int (3 : Int32)), .val (.ref b587), .val (.int (1 : Int32)), .unset, .unset, .unset]) (by rw [hml]; rfl) [(.ref b587), (.int ((128 : Int32) ||| (cp &&& (63 : Int32)))), (.int (2 : Int32)), (.int (3 : Int32)), (.int cp), (.int v384)] [(.int (1 : Int32))] rfl pd3 rfl rfl 1 (Nat.le_of_eq rfl) (hb hby at_356) rfl (by decide) (by decide) (by decide) (by decide)
        obtain ⟨rfl, N637, Kc637, E637_, F637_codePoint, F637_lacking, F637_given, F637_malformed⟩ := hq637
        obtain ⟨y638, hy638⟩ : ∃ z, z = (spec4 ((128 : Int32) ||| (cp &&& (63 : Int32))) (2 : Int32) (3 : Int32) cp v384 y633 (1 : Int32) (2 : Int32)) := ⟨_, rfl⟩
        rw [← hy638] at st637
        refine oGo.step (f' := (mkF m 359 #[.val (.int x0), .val (.int x1), .val (.int x2), .val (.int x3), .val (.int (3 : Int32)), .val (.int cp), .val (.ref b351), .val (.int (2048 : Int32)), .val (.int v384), .val (.int (3 : Int32)), .val (.ref b587), .val (.int (1 : Int32)), .unset, .unset, .unset] [(.int y638), (.int (1 : Int32))])) st637 ?_
        have N637_ := Fr.app N619_ N637
        have K639 := Kc637
        have F640 := F622.keep K639 (allS ge589 all0)
        have F643 := F625.keep K639 (ninS ne588 nin0)
        have F644 := E619_.keep K639
        have Z650 := Nat.le_trans Z632 K639.1
        obtain ⟨y651, hy651⟩ : ∃ z, z = (fld5_codePoint ((128 : Int32) ||| (cp &&& (63 : Int32))) y633 (1 : Int32)) := ⟨_, rfl⟩
        rw [← hy651] at F637_codePoint
        obtain ⟨y652, hy652⟩ : ∃ z, z = (fld5_lacking ((128 : Int32) ||| (cp &&& (63 : Int32))) (1 : Int32)) := ⟨_, rfl⟩
        rw [← hy652] at F637_lacking
        obtain ⟨y653, hy653⟩ : ∃ z, z = (fld5_given ((128 : Int32) ||| (cp &&& (63 : Int32))) (1 : Int32) (2 : Int32)) := ⟨_, rfl⟩
        rw [← hy653] at F637_given
        obtain ⟨y654, hy654⟩ : ∃ z, z = (fld5_malformed ((128 : Int32) ||| (cp &&& (63 : Int32))) y633 (1 : Int32) (2 : Int32) (0 : Int32)) := ⟨_, rfl⟩
        rw [← hy654] at F637_malformed
        have hI637 : oInv y652 y653 y654 := by rw [hy652, hy653, hy654]; exact own_inv_next y633 ((128 : Int32) ||| (cp &&& (63 : Int32))) hI619
        have X637 := o_flat X637 rfl rfl
        have hS2 := st_last (b := ((128 : Int32) ||| (cp &&& (63 : Int32)))) (i := 2) (len := 3) (cp := cp) (vl := v384) (c := y633) (k := (1 : Int32)) (g := (2 : Int32)) ⟨by omega, by omega⟩ (by omega) (by omega) (by decide) rfl rfl (by omega) (by omega) (by omega) hcn hval
        rw [← hy638, ← hy652, ← hy653, ← hy654] at hS2
        obtain ⟨q1, q2, q3, hzz⟩ := hS2
        subst q1 q2 q3
        refine o_iand (pc' := 360) X637 hx (hb hby at_359)  rfl ?_
        rw [show ((1 : Int32) &&& (1 : Int32)) = (1 : Int32) from by decide]
        refine o_istore (pc' := 362) (l' := #[.val (.int x0), .val (.int x1), .val (.int x2), .val (.int x3), .val (.int (3 : Int32)), .val (.int cp), .val (.ref b351), .val (.int (2048 : Int32)), .val (.int v384), .val (.int (3 : Int32)), .val (.ref b587), .val (.int (1 : Int32)), .unset, .unset, .unset]) X637 hx (hb hby at_360) rfl rfl ?_
        refine o_iload (pc' := 364) X637 hx (hb hby at_362) rfl rfl ?_
        refine o_iconst (pc' := 365) (v := (3 : Int32)) X637 hx (hb hby at_364) rfl rfl ?_
        refine o_icmpT (pc' := 389) X637 hx (hb hby at_365) (XT.ii_le_t (by decide)) (by decide) (by decide) ?_
        refine o_iload (pc' := 391) X637 hx (hb hby at_389) rfl rfl ?_
        refine o_iload (pc' := 393) X637 hx (hb hby at_391) rfl rfl ?_
        refine o_icmpF (pc' := 396) X637 hx (hb hby at_393) (XT.ii_ne_f (by decide)) rfl ?_
        refine o_iconst (pc' := 397) (v := (1 : Int32)) X637 hx (hb hby at_396) rfl rfl ?_
        refine o_goto (pc' := 401) X637 hx (hb hby at_397) (by decide) (by decide) ?_
        refine o_istore (pc' := 403) (l' := #[.val (.int x0), .val (.int x1), .val (.int x2), .val (.int x3), .val (.int (3 : Int32)), .val (.int cp), .val (.ref b351), .val (.int (2048 : Int32)), .val (.int v384), .val (.int (3 : Int32)), .val (.ref b587), .val (.int (1 : Int32)), .val (.int (1 : Int32)), .unset, .unset]) X637 hx (hb hby at_401) rfl rfl ?_
        refine o_iload (pc' := 405) X637 hx (hb hby at_403) rfl rfl ?_
        refine o_aload (pc' := 407) X637 hx (hb hby at_405) rfl rfl rfl ?_
        obtain ⟨r655, T655, L655, X655, hq655, st655⟩ := o_callV X637 hx hZ hown (hw _ (List.mem_of_getElem? (i := 33) rfl)) (hw _ (List.mem_of_getElem? (i := 34) rfl)) (hw _ (List.mem_of_getElem? (i := 36) rfl)) (hw _ (List.mem_of_getElem? (i := 35) rfl)) (hw _ (List.mem_of_getElem? (i := 9) rfl)) (hw _ (List.mem_of_getElem? (i := 37) rfl)) (by decide) E637_ (rm6 l Z a0 hw b587 (0 : Int32) T637.heap n0 Z650 E637_ F637_given) (rfl : T637.heap = _) (pc' := 410) (Ls := #[.val (.int x0), .val (.int x1), .val (.int x2), .val (.int x3), .val (.int (3 : Int32)), .val (.int cp), .val (.ref b351), .val (.int (2048 : Int32)), .val (.int v384), .val (.int (3 : Int32)), .val (.ref b587), .val (.int (1 : Int32)), .val (.int (1 : Int32)), .unset, .unset]) (by rw [hml]; rfl) [] [(.int (1 : Int32))] rfl pd4 rfl rfl 1 (Nat.le_of_eq rfl) (hb hby at_407) rfl (by decide) (by decide) (by decide) (by decide)
        obtain ⟨rfl, rfl, Kc655⟩ := hq655
        refine oGo.step (f' := (mkF m 410 #[.val (.int x0), .val (.int x1), .val (.int x2), .val (.int x3), .val (.int (3 : Int32)), .val (.int cp), .val (.ref b351), .val (.int (2048 : Int32)), .val (.int v384), .val (.int (3 : Int32)), .val (.ref b587), .val (.int (1 : Int32)), .val (.int (1 : Int32)), .unset, .unset] [(.int (0 : Int32)), (.int (1 : Int32))])) st655 ?_
        have e655 : T655.heap = T637.heap := Kc655
        have X655 := o_same X655 rfl rfl
        refine o_iload (pc' := 412) X655 hx (hb hby at_410) rfl rfl ?_
        refine o_ifF (pc' := 415) X655 hx (hb hby at_412) (XT.i0_eq_f (by decide)) rfl ?_
        refine o_iconst (pc' := 416) (v := (0 : Int32)) X655 hx (hb hby at_415) rfl rfl ?_
        refine o_goto (pc' := 421) X655 hx (hb hby at_416) (by decide) (by decide) ?_
        refine o_icmpF (pc' := 424) X655 hx (hb hby at_421) (XT.ii_ne_f (by decide)) rfl ?_
        refine o_iconst (pc' := 425) (v := (1 : Int32)) X655 hx (hb hby at_424) rfl rfl ?_
        refine o_goto (pc' := 429) X655 hx (hb hby at_425) (by decide) (by decide) ?_
        refine o_iand (pc' := 430) X655 hx (hb hby at_429)  rfl ?_
        rw [show ((1 : Int32) &&& (1 : Int32)) = (1 : Int32) from by decide]
        refine o_istore (pc' := 432) (l' := #[.val (.int x0), .val (.int x1), .val (.int x2), .val (.int x3), .val (.int (3 : Int32)), .val (.int cp), .val (.ref b351), .val (.int (2048 : Int32)), .val (.int v384), .val (.int (3 : Int32)), .val (.ref b587), .val (.int (1 : Int32)), .val (.int (1 : Int32)), .unset, .unset]) X655 hx (hb hby at_430) rfl rfl ?_
        refine o_iloadN (pc' := 433) X655 hx (hb hby at_432) rfl rfl ?_
        refine o_bipush (pc' := 435) (v := (8 : Int32)) X655 hx (hb hby at_433) rfl rfl ?_
        refine o_iushr (pc' := 436) X655 hx (hb hby at_435)  rfl ?_
        refine o_iconst (pc' := 437) (v := (1 : Int32)) X655 hx (hb hby at_436) rfl rfl ?_
        refine o_iand (pc' := 438) X655 hx (hb hby at_437)  rfl ?_
        by_cases c656 : ((XT.ushr x3 (8 : Int32)) &&& (1 : Int32)) = 0
        · refine o_ifT (pc' := 573) X655 hx (hb hby at_438) (XT.i0_eq_t c656) (by decide) (by decide) ?_
          refine o_iload (pc' := 575) X655 hx (hb hby at_573) rfl rfl ?_
          refine o_ifF (pc' := 578) X655 hx (hb hby at_575) (XT.i0_eq_f (by decide)) rfl ?_
          refine o_iload (pc' := 580) X655 hx (hb hby at_578) rfl rfl ?_
          have J658 : ∀ (v659 : Int32), v659 = (if v384 = 0 then (0 : Int32) else (1 : Int32)) → oGo p e below (oG s (fun v h L => v = some (.int 1) ∧ Fr n0 L) room_1.cells room_1.slots) T655 (mkF m 588 #[.val (.int x0), .val (.int x1), .val (.int x2), .val (.int x3), .val (.int (3 : Int32)), .val (.int cp), .val (.ref b351), .val (.int (2048 : Int32)), .val (.int v384), .val (.int (3 : Int32)), .val (.ref b587), .val (.int (1 : Int32)), .val (.int (1 : Int32)), .unset, .unset] [(.int v659)]) := by
            intro v659 hv659
            refine o_istore (pc' := 590) (l' := #[.val (.int x0), .val (.int x1), .val (.int x2), .val (.int x3), .val (.int (3 : Int32)), .val (.int cp), .val (.ref b351), .val (.int (2048 : Int32)), .val (.int v384), .val (.int (3 : Int32)), .val (.ref b587), .val (.int (1 : Int32)), .val (.int (1 : Int32)), .val (.int v659), .unset]) X655 hx (hb hby at_588) rfl rfl ?_
            refine o_iload (pc' := 592) X655 hx (hb hby at_590) rfl rfl ?_
            refine o_aload (pc' := 594) X655 hx (hb hby at_592) rfl rfl rfl ?_
            obtain ⟨r660, T660, L660, X660, hq660, st660⟩ := o_callV X655 hx hZ hown (hw _ (List.mem_of_getElem? (i := 38) rfl)) (hw _ (List.mem_of_getElem? (i := 39) rfl)) (hw _ (List.mem_of_getElem? (i := 41) rfl)) (hw _ (List.mem_of_getElem? (i := 40) rfl)) (hw _ (List.mem_of_getElem? (i := 9) rfl)) (hw _ (List.mem_of_getElem? (i := 42) rfl)) (by decide) E637_ (rm7 l Z a0 hw b587 y651 (0 : Int32) (0 : Int32) y654 T637.heap n0 Z650 E637_ F637_codePoint F637_lacking F637_given F637_malformed ge589) e655 (pc' := 597) (Ls := #[.val (.int x0), .val (.int x1), .val (.int x2), .val (.int x3), .val (.int (3 : Int32)), .val (.int cp), .val (.ref b351), .val (.int (2048 : Int32)), .val (.int v384), .val (.int (3 : Int32)), .val (.ref b587), .val (.int (1 : Int32)), .val (.int (1 : Int32)), .val (.int v659), .unset]) (by rw [hml]; rfl) [] [(.int (1 : Int32))] rfl pd5 rfl rfl 1 (Nat.le_of_eq rfl) (hb hby at_594) rfl (by decide) (by decide) (by decide) (by decide)
            obtain ⟨rfl, N660, Kc660, E660_, F660_codePoint, F660_lacking, F660_given, F660_malformed⟩ := hq660
            obtain ⟨y661, hy661⟩ : ∃ z, z = (spec7 (0 : Int32) y654) := ⟨_, rfl⟩
            rw [← hy661] at st660
            refine oGo.step (f' := (mkF m 597 #[.val (.int x0), .val (.int x1), .val (.int x2), .val (.int x3), .val (.int (3 : Int32)), .val (.int cp), .val (.ref b351), .val (.int (2048 : Int32)), .val (.int v384), .val (.int (3 : Int32)), .val (.ref b587), .val (.int (1 : Int32)), .val (.int (1 : Int32)), .val (.int v659), .unset] [(.int y661), (.int (1 : Int32))])) st660 ?_
            have N660_ := Fr.app N637_ N660
            have K662 := Kc660
            have F663 := F640.keep K662 (allS ge589 all0)
            have F666 := F643.keep K662 (ninS ne588 nin0)
            have F667 := E637_.keep K662
            have Z673 := Nat.le_trans Z650 K662.1
            have X660 := o_flat X660 rfl rfl
            have hE : y661 = v659 := by rw [hy661, hv659, hzz, hval]; split <;> rfl
            refine o_iload (pc' := 599) X660 hx (hb hby at_597) rfl rfl ?_
            refine o_icmpF (pc' := 602) X660 hx (hb hby at_599) (XT.ii_ne_f hE) rfl ?_
            refine o_iconst (pc' := 603) (v := (1 : Int32)) X660 hx (hb hby at_602) rfl rfl ?_
            refine o_goto (pc' := 607) X660 hx (hb hby at_603) (by decide) (by decide) ?_
            refine o_iand (pc' := 608) X660 hx (hb hby at_607)  rfl ?_
            rw [show ((1 : Int32) &&& (1 : Int32)) = (1 : Int32) from by decide]
            refine o_istore (pc' := 610) (l' := #[.val (.int x0), .val (.int x1), .val (.int x2), .val (.int x3), .val (.int (3 : Int32)), .val (.int cp), .val (.ref b351), .val (.int (2048 : Int32)), .val (.int v384), .val (.int (3 : Int32)), .val (.ref b587), .val (.int (1 : Int32)), .val (.int (1 : Int32)), .val (.int v659), .unset]) X660 hx (hb hby at_608) rfl rfl ?_
            refine o_iload (pc' := 612) X660 hx (hb hby at_610) rfl rfl ?_
            refine o_retZ X660 hx hret hlk (hb hby at_612) (by decide) (by decide) (by decide) ?_
            exact ⟨rfl, N660_⟩
          by_cases c657 : v384 = 0
          · refine o_ifT (pc' := 587) X655 hx (hb hby at_580) (XT.i0_eq_t c657) (by decide) (by decide) ?_
            refine o_iconst (pc' := 588) (v := (0 : Int32)) X655 hx (hb hby at_587) rfl rfl ?_
            exact J658 _ (if_pos c657).symm
          · refine o_ifF (pc' := 583) X655 hx (hb hby at_580) (XT.i0_eq_f c657) rfl ?_
            refine o_iconst (pc' := 584) (v := (1 : Int32)) X655 hx (hb hby at_583) rfl rfl ?_
            refine o_goto (pc' := 588) X655 hx (hb hby at_584) (by decide) (by decide) ?_
            exact J658 _ (if_neg c657).symm
        · refine o_ifF (pc' := 441) X655 hx (hb hby at_438) (XT.i0_eq_f c656) rfl ?_
          refine o_iloadN (pc' := 442) X655 hx (hb hby at_441) rfl rfl ?_
          refine o_sipush (pc' := 445) (v := (255 : Int32)) X655 hx (hb hby at_442) rfl rfl ?_
          refine o_iand (pc' := 446) X655 hx (hb hby at_445)  rfl ?_
          refine o_istore (pc' := 448) (l' := #[.val (.int x0), .val (.int x1), .val (.int x2), .val (.int x3), .val (.int (3 : Int32)), .val (.int cp), .val (.ref b351), .val (.int (2048 : Int32)), .val (.int v384), .val (.int (3 : Int32)), .val (.ref b587), .val (.int (1 : Int32)), .val (.int (1 : Int32)), .unset, .val (.int (x3 &&& (255 : Int32)))]) X655 hx (hb hby at_446) rfl rfl ?_
          refine o_iload (pc' := 450) X655 hx (hb hby at_448) rfl rfl ?_
          refine o_ifT (pc' := 472) X655 hx (hb hby at_450) (XT.i0_ne_t (by decide)) (by decide) (by decide) ?_
          refine o_iload (pc' := 474) X655 hx (hb hby at_472) rfl rfl ?_
          refine o_aload (pc' := 476) X655 hx (hb hby at_474) rfl rfl rfl ?_
          refine o_iload (pc' := 478) X655 hx (hb hby at_476) rfl rfl ?_
          have htB := own_m255 x3
          obtain ⟨r674, T674, L674, X674, hq674, st674⟩ := o_callV X655 hx hZ hown (hw _ (List.mem_of_getElem? (i := 20) rfl)) (hw _ (List.mem_of_getElem? (i := 21) rfl)) (hw _ (List.mem_of_getElem? (i := 23) rfl)) (hw _ (List.mem_of_getElem? (i := 22) rfl)) (hw _ (List.mem_of_getElem? (i := 9) rfl)) (hw _ (List.mem_of_getElem? (i := 24) rfl)) (by decide) E637_ (rm5 l Z a0 hw b587 (x3 &&& (255 : Int32)) y651 (0 : Int32) (0 : Int32) y654 r_LEAST T637.heap n0 Z650 E637_ F637_codePoint F637_lacking F637_given F637_malformed ge589 hI637 F640 S_LEAST A_LEAST) e655 (pc' := 481) (Ls := #[.val (.int x0), .val (.int x1), .val (.int x2), .val (.int x3), .val (.int (3 : Int32)), .val (.int cp), .val (.ref b351), .val (.int (2048 : Int32)), .val (.int v384), .val (.int (3 : Int32)), .val (.ref b587), .val (.int (1 : Int32)), .val (.int (1 : Int32)), .unset, .val (.int (x3 &&& (255 : Int32)))]) (by rw [hml]; rfl) [(.int (x3 &&& (255 : Int32)))] [(.int (1 : Int32))] rfl pd0 rfl rfl 1 (Nat.le_of_eq rfl) (hb hby at_478) rfl (by decide) (by decide) (by decide) (by decide)
          obtain ⟨rfl, N674, Kc674, E674_, F674_codePoint, F674_lacking, F674_given, F674_malformed⟩ := hq674
          obtain ⟨y675, hy675⟩ : ∃ z, z = (spec5 (x3 &&& (255 : Int32)) y651 (0 : Int32) (0 : Int32)) := ⟨_, rfl⟩
          rw [← hy675] at st674
          refine oGo.step (f' := (mkF m 481 #[.val (.int x0), .val (.int x1), .val (.int x2), .val (.int x3), .val (.int (3 : Int32)), .val (.int cp), .val (.ref b351), .val (.int (2048 : Int32)), .val (.int v384), .val (.int (3 : Int32)), .val (.ref b587), .val (.int (1 : Int32)), .val (.int (1 : Int32)), .unset, .val (.int (x3 &&& (255 : Int32)))] [(.int y675), (.int (1 : Int32))])) st674 ?_
          have N674_ := Fr.app N637_ N674
          have K676 := Kc674
          have F677 := F640.keep K676 (allS ge589 all0)
          have F680 := F643.keep K676 (ninS ne588 nin0)
          have F681 := E637_.keep K676
          have Z687 := Nat.le_trans Z650 K676.1
          obtain ⟨y688, hy688⟩ : ∃ z, z = (fld5_codePoint (x3 &&& (255 : Int32)) y651 (0 : Int32)) := ⟨_, rfl⟩
          rw [← hy688] at F674_codePoint
          obtain ⟨y689, hy689⟩ : ∃ z, z = (fld5_lacking (x3 &&& (255 : Int32)) (0 : Int32)) := ⟨_, rfl⟩
          rw [← hy689] at F674_lacking
          obtain ⟨y690, hy690⟩ : ∃ z, z = (fld5_given (x3 &&& (255 : Int32)) (0 : Int32) (0 : Int32)) := ⟨_, rfl⟩
          rw [← hy690] at F674_given
          obtain ⟨y691, hy691⟩ : ∃ z, z = (fld5_malformed (x3 &&& (255 : Int32)) y651 (0 : Int32) (0 : Int32) y654) := ⟨_, rfl⟩
          rw [← hy691] at F674_malformed
          have hI674 : oInv y689 y690 y691 := by rw [hy689, hy690, hy691]; exact own_inv_next y651 (x3 &&& (255 : Int32)) hI637
          have X674 := o_flat X674 rfl rfl
          have hA := nx_any (t := (x3 &&& (255 : Int32))) (cp := y651) (k := (0 : Int32)) (g := (0 : Int32)) (z := y654) (by rw [hzz]; split; exact Or.inl rfl; exact Or.inr rfl) (Or.inl rfl)
          rw [← hy675, ← hy690] at hA
          refine o_iload (pc' := 483) X674 hx (hb hby at_481) rfl rfl ?_
          refine o_sipush (pc' := 486) (v := (128 : Int32)) X674 hx (hb hby at_483) rfl rfl ?_
          have J693 : ∀ (v694 : Int32), v694 = (if (x3 &&& (255 : Int32)) < (128 : Int32) then (x3 &&& (255 : Int32)) else (-1 : Int32)) → oGo p e below (oG s (fun v h L => v = some (.int 1) ∧ Fr n0 L) room_1.cells room_1.slots) T674 (mkF m 495 #[.val (.int x0), .val (.int x1), .val (.int x2), .val (.int x3), .val (.int (3 : Int32)), .val (.int cp), .val (.ref b351), .val (.int (2048 : Int32)), .val (.int v384), .val (.int (3 : Int32)), .val (.ref b587), .val (.int (1 : Int32)), .val (.int (1 : Int32)), .unset, .val (.int (x3 &&& (255 : Int32)))] [(.int v694), (.int y675), (.int (1 : Int32))]) := by
            intro v694 hv694
            refine o_icmpF (pc' := 498) X674 hx (hb hby at_495) (XT.ii_ne_f (hA.1.trans hv694.symm)) rfl ?_
            refine o_iconst (pc' := 499) (v := (1 : Int32)) X674 hx (hb hby at_498) rfl rfl ?_
            refine o_goto (pc' := 503) X674 hx (hb hby at_499) (by decide) (by decide) ?_
            refine o_iand (pc' := 504) X674 hx (hb hby at_503)  rfl ?_
            rw [show ((1 : Int32) &&& (1 : Int32)) = (1 : Int32) from by decide]
            refine o_istore (pc' := 506) (l' := #[.val (.int x0), .val (.int x1), .val (.int x2), .val (.int x3), .val (.int (3 : Int32)), .val (.int cp), .val (.ref b351), .val (.int (2048 : Int32)), .val (.int v384), .val (.int (3 : Int32)), .val (.ref b587), .val (.int (1 : Int32)), .val (.int (1 : Int32)), .unset, .val (.int (x3 &&& (255 : Int32)))]) X674 hx (hb hby at_504) rfl rfl ?_
            refine o_iload (pc' := 508) X674 hx (hb hby at_506) rfl rfl ?_
            refine o_aload (pc' := 510) X674 hx (hb hby at_508) rfl rfl rfl ?_
            obtain ⟨r695, T695, L695, X695, hq695, st695⟩ := o_callV X674 hx hZ hown (hw _ (List.mem_of_getElem? (i := 33) rfl)) (hw _ (List.mem_of_getElem? (i := 34) rfl)) (hw _ (List.mem_of_getElem? (i := 36) rfl)) (hw _ (List.mem_of_getElem? (i := 35) rfl)) (hw _ (List.mem_of_getElem? (i := 9) rfl)) (hw _ (List.mem_of_getElem? (i := 37) rfl)) (by decide) E674_ (rm6 l Z a0 hw b587 y690 T674.heap n0 Z687 E674_ F674_given) (rfl : T674.heap = _) (pc' := 513) (Ls := #[.val (.int x0), .val (.int x1), .val (.int x2), .val (.int x3), .val (.int (3 : Int32)), .val (.int cp), .val (.ref b351), .val (.int (2048 : Int32)), .val (.int v384), .val (.int (3 : Int32)), .val (.ref b587), .val (.int (1 : Int32)), .val (.int (1 : Int32)), .unset, .val (.int (x3 &&& (255 : Int32)))]) (by rw [hml]; rfl) [] [(.int (1 : Int32))] rfl pd4 rfl rfl 1 (Nat.le_of_eq rfl) (hb hby at_510) rfl (by decide) (by decide) (by decide) (by decide)
            obtain ⟨rfl, rfl, Kc695⟩ := hq695
            refine oGo.step (f' := (mkF m 513 #[.val (.int x0), .val (.int x1), .val (.int x2), .val (.int x3), .val (.int (3 : Int32)), .val (.int cp), .val (.ref b351), .val (.int (2048 : Int32)), .val (.int v384), .val (.int (3 : Int32)), .val (.ref b587), .val (.int (1 : Int32)), .val (.int (1 : Int32)), .unset, .val (.int (x3 &&& (255 : Int32)))] [(.int y690), (.int (1 : Int32))])) st695 ?_
            have e695 : T695.heap = T674.heap := Kc695
            have X695 := o_same X695 rfl rfl
            refine o_iload (pc' := 515) X695 hx (hb hby at_513) rfl rfl ?_
            refine o_sipush (pc' := 518) (v := (192 : Int32)) X695 hx (hb hby at_515) rfl rfl ?_
            have J697 : ∀ (v699 : Int32), v699 = (if (x3 &&& (255 : Int32)) < (192 : Int32) then (0 : Int32) else (if (247 : Int32) < (x3 &&& (255 : Int32)) then (0 : Int32) else (1 : Int32))) → oGo p e below (oG s (fun v h L => v = some (.int 1) ∧ Fr n0 L) room_1.cells room_1.slots) T695 (mkF m 534 #[.val (.int x0), .val (.int x1), .val (.int x2), .val (.int x3), .val (.int (3 : Int32)), .val (.int cp), .val (.ref b351), .val (.int (2048 : Int32)), .val (.int v384), .val (.int (3 : Int32)), .val (.ref b587), .val (.int (1 : Int32)), .val (.int (1 : Int32)), .unset, .val (.int (x3 &&& (255 : Int32)))] [(.int v699), (.int y690), (.int (1 : Int32))]) := by
              intro v699 hv699
              refine o_icmpF (pc' := 537) X695 hx (hb hby at_534) (XT.ii_ne_f (hA.2.trans hv699.symm)) rfl ?_
              refine o_iconst (pc' := 538) (v := (1 : Int32)) X695 hx (hb hby at_537) rfl rfl ?_
              refine o_goto (pc' := 542) X695 hx (hb hby at_538) (by decide) (by decide) ?_
              refine o_iand (pc' := 543) X695 hx (hb hby at_542)  rfl ?_
              rw [show ((1 : Int32) &&& (1 : Int32)) = (1 : Int32) from by decide]
              refine o_istore (pc' := 545) (l' := #[.val (.int x0), .val (.int x1), .val (.int x2), .val (.int x3), .val (.int (3 : Int32)), .val (.int cp), .val (.ref b351), .val (.int (2048 : Int32)), .val (.int v384), .val (.int (3 : Int32)), .val (.ref b587), .val (.int (1 : Int32)), .val (.int (1 : Int32)), .unset, .val (.int (x3 &&& (255 : Int32)))]) X695 hx (hb hby at_543) rfl rfl ?_
              refine o_iload (pc' := 547) X695 hx (hb hby at_545) rfl rfl ?_
              refine o_ifF (pc' := 550) X695 hx (hb hby at_547) (XT.i0_eq_f (by decide)) rfl ?_
              refine o_iload (pc' := 552) X695 hx (hb hby at_550) rfl rfl ?_
              have J701 : ∀ (v703 : Int32), v703 = (if v384 = 0 then (0 : Int32) else (if (x3 &&& (255 : Int32)) < (128 : Int32) then (1 : Int32) else (0 : Int32))) → oGo p e below (oG s (fun v h L => v = some (.int 1) ∧ Fr n0 L) room_1.cells room_1.slots) T695 (mkF m 568 #[.val (.int x0), .val (.int x1), .val (.int x2), .val (.int x3), .val (.int (3 : Int32)), .val (.int cp), .val (.ref b351), .val (.int (2048 : Int32)), .val (.int v384), .val (.int (3 : Int32)), .val (.ref b587), .val (.int (1 : Int32)), .val (.int (1 : Int32)), .unset, .val (.int (x3 &&& (255 : Int32)))] [(.int v703)]) := by
                intro v703 hv703
                refine o_istore (pc' := 570) (l' := #[.val (.int x0), .val (.int x1), .val (.int x2), .val (.int x3), .val (.int (3 : Int32)), .val (.int cp), .val (.ref b351), .val (.int (2048 : Int32)), .val (.int v384), .val (.int (3 : Int32)), .val (.ref b587), .val (.int (1 : Int32)), .val (.int (1 : Int32)), .val (.int v703), .val (.int (x3 &&& (255 : Int32)))]) X695 hx (hb hby at_568) rfl rfl ?_
                refine o_goto (pc' := 590) X695 hx (hb hby at_570) (by decide) (by decide) ?_
                refine o_iload (pc' := 592) X695 hx (hb hby at_590) rfl rfl ?_
                refine o_aload (pc' := 594) X695 hx (hb hby at_592) rfl rfl rfl ?_
                obtain ⟨r704, T704, L704, X704, hq704, st704⟩ := o_callV X695 hx hZ hown (hw _ (List.mem_of_getElem? (i := 38) rfl)) (hw _ (List.mem_of_getElem? (i := 39) rfl)) (hw _ (List.mem_of_getElem? (i := 41) rfl)) (hw _ (List.mem_of_getElem? (i := 40) rfl)) (hw _ (List.mem_of_getElem? (i := 9) rfl)) (hw _ (List.mem_of_getElem? (i := 42) rfl)) (by decide) E674_ (rm7 l Z a0 hw b587 y688 y689 y690 y691 T674.heap n0 Z687 E674_ F674_codePoint F674_lacking F674_given F674_malformed ge589) e695 (pc' := 597) (Ls := #[.val (.int x0), .val (.int x1), .val (.int x2), .val (.int x3), .val (.int (3 : Int32)), .val (.int cp), .val (.ref b351), .val (.int (2048 : Int32)), .val (.int v384), .val (.int (3 : Int32)), .val (.ref b587), .val (.int (1 : Int32)), .val (.int (1 : Int32)), .val (.int v703), .val (.int (x3 &&& (255 : Int32)))]) (by rw [hml]; rfl) [] [(.int (1 : Int32))] rfl pd5 rfl rfl 1 (Nat.le_of_eq rfl) (hb hby at_594) rfl (by decide) (by decide) (by decide) (by decide)
                obtain ⟨rfl, N704, Kc704, E704_, F704_codePoint, F704_lacking, F704_given, F704_malformed⟩ := hq704
                obtain ⟨y705, hy705⟩ : ∃ z, z = (spec7 y689 y691) := ⟨_, rfl⟩
                rw [← hy705] at st704
                refine oGo.step (f' := (mkF m 597 #[.val (.int x0), .val (.int x1), .val (.int x2), .val (.int x3), .val (.int (3 : Int32)), .val (.int cp), .val (.ref b351), .val (.int (2048 : Int32)), .val (.int v384), .val (.int (3 : Int32)), .val (.ref b587), .val (.int (1 : Int32)), .val (.int (1 : Int32)), .val (.int v703), .val (.int (x3 &&& (255 : Int32)))] [(.int y705), (.int (1 : Int32))])) st704 ?_
                have N704_ := Fr.app N674_ N704
                have K706 := Kc704
                have F707 := F677.keep K706 (allS ge589 all0)
                have F710 := F680.keep K706 (ninS ne588 nin0)
                have F711 := E674_.keep K706
                have Z717 := Nat.le_trans Z687 K706.1
                have X704 := o_flat X704 rfl rfl
                have hE : y705 = v703 := by rw [hy705, hy689, hy691]; rw [hv703]; exact end_whole hzz hval
                refine o_iload (pc' := 599) X704 hx (hb hby at_597) rfl rfl ?_
                refine o_icmpF (pc' := 602) X704 hx (hb hby at_599) (XT.ii_ne_f hE) rfl ?_
                refine o_iconst (pc' := 603) (v := (1 : Int32)) X704 hx (hb hby at_602) rfl rfl ?_
                refine o_goto (pc' := 607) X704 hx (hb hby at_603) (by decide) (by decide) ?_
                refine o_iand (pc' := 608) X704 hx (hb hby at_607)  rfl ?_
                rw [show ((1 : Int32) &&& (1 : Int32)) = (1 : Int32) from by decide]
                refine o_istore (pc' := 610) (l' := #[.val (.int x0), .val (.int x1), .val (.int x2), .val (.int x3), .val (.int (3 : Int32)), .val (.int cp), .val (.ref b351), .val (.int (2048 : Int32)), .val (.int v384), .val (.int (3 : Int32)), .val (.ref b587), .val (.int (1 : Int32)), .val (.int (1 : Int32)), .val (.int v703), .val (.int (x3 &&& (255 : Int32)))]) X704 hx (hb hby at_608) rfl rfl ?_
                refine o_iload (pc' := 612) X704 hx (hb hby at_610) rfl rfl ?_
                refine o_retZ X704 hx hret hlk (hb hby at_612) (by decide) (by decide) (by decide) ?_
                exact ⟨rfl, N704_⟩
              by_cases c700 : v384 = 0
              · refine o_ifT (pc' := 567) X695 hx (hb hby at_552) (XT.i0_eq_t c700) (by decide) (by decide) ?_
                refine o_iconst (pc' := 568) (v := (0 : Int32)) X695 hx (hb hby at_567) rfl rfl ?_
                exact J701 _ (if_pos c700).symm
              · refine o_ifF (pc' := 555) X695 hx (hb hby at_552) (XT.i0_eq_f c700) rfl ?_
                refine o_iload (pc' := 557) X695 hx (hb hby at_555) rfl rfl ?_
                refine o_sipush (pc' := 560) (v := (128 : Int32)) X695 hx (hb hby at_557) rfl rfl ?_
                by_cases c702 : (x3 &&& (255 : Int32)) < (128 : Int32)
                · refine o_icmpF (pc' := 563) X695 hx (hb hby at_560) (XT.ii_ge_f c702) rfl ?_
                  refine o_iconst (pc' := 564) (v := (1 : Int32)) X695 hx (hb hby at_563) rfl rfl ?_
                  refine o_goto (pc' := 568) X695 hx (hb hby at_564) (by decide) (by decide) ?_
                  exact J701 _ ((if_neg c700).trans (if_pos c702)).symm
                · refine o_icmpT (pc' := 567) X695 hx (hb hby at_560) (XT.ii_ge_t c702) (by decide) (by decide) ?_
                  refine o_iconst (pc' := 568) (v := (0 : Int32)) X695 hx (hb hby at_567) rfl rfl ?_
                  exact J701 _ ((if_neg c700).trans (if_neg c702)).symm
            by_cases c696 : (x3 &&& (255 : Int32)) < (192 : Int32)
            · refine o_icmpT (pc' := 533) X695 hx (hb hby at_518) (XT.ii_lt_t c696) (by decide) (by decide) ?_
              refine o_iconst (pc' := 534) (v := (0 : Int32)) X695 hx (hb hby at_533) rfl rfl ?_
              exact J697 _ (if_pos c696).symm
            · refine o_icmpF (pc' := 521) X695 hx (hb hby at_518) (XT.ii_lt_f c696) rfl ?_
              refine o_iload (pc' := 523) X695 hx (hb hby at_521) rfl rfl ?_
              refine o_sipush (pc' := 526) (v := (247 : Int32)) X695 hx (hb hby at_523) rfl rfl ?_
              by_cases c698 : (247 : Int32) < (x3 &&& (255 : Int32))
              · refine o_icmpT (pc' := 533) X695 hx (hb hby at_526) (XT.ii_gt_t c698) (by decide) (by decide) ?_
                refine o_iconst (pc' := 534) (v := (0 : Int32)) X695 hx (hb hby at_533) rfl rfl ?_
                exact J697 _ ((if_neg c696).trans (if_pos c698)).symm
              · refine o_icmpF (pc' := 529) X695 hx (hb hby at_526) (XT.ii_gt_f c698) rfl ?_
                refine o_iconst (pc' := 530) (v := (1 : Int32)) X695 hx (hb hby at_529) rfl rfl ?_
                refine o_goto (pc' := 534) X695 hx (hb hby at_530) (by decide) (by decide) ?_
                exact J697 _ ((if_neg c696).trans (if_neg c698)).symm
          by_cases c692 : (x3 &&& (255 : Int32)) < (128 : Int32)
          · refine o_icmpF (pc' := 489) X674 hx (hb hby at_486) (XT.ii_ge_f c692) rfl ?_
            refine o_iload (pc' := 491) X674 hx (hb hby at_489) rfl rfl ?_
            refine o_goto (pc' := 495) X674 hx (hb hby at_491) (by decide) (by decide) ?_
            exact J693 _ (if_pos c692).symm
          · refine o_icmpT (pc' := 494) X674 hx (hb hby at_486) (XT.ii_ge_t c692) (by decide) (by decide) ?_
            refine o_iconst (pc' := 495) (v := (-1 : Int32)) X674 hx (hb hby at_494) rfl rfl ?_
            exact J693 _ (if_neg c692).symm
    by_cases c379 : cp < (2048 : Int32)
    · refine o_icmpT (pc' := 266) X372 hx (hb hby at_238) (XT.ii_lt_t c379) (by decide) (by decide) ?_
      refine o_iconst (pc' := 267) (v := (0 : Int32)) X372 hx (hb hby at_266) rfl rfl ?_
      exact J380 _ (if_pos c379).symm
    · refine o_icmpF (pc' := 241) X372 hx (hb hby at_238) (XT.ii_lt_f c379) rfl ?_
      refine o_iload (pc' := 243) X372 hx (hb hby at_241) rfl rfl ?_
      refine o_ldc (pc' := 245) (v := (1114111 : Int32)) X372 hx hZ hown (hw _ (List.mem_of_getElem? (i := 44) rfl)) (hb hby at_243) rfl ?_
      by_cases c381 : (1114111 : Int32) < cp
      · refine o_icmpT (pc' := 266) X372 hx (hb hby at_245) (XT.ii_gt_t c381) (by decide) (by decide) ?_
        refine o_iconst (pc' := 267) (v := (0 : Int32)) X372 hx (hb hby at_266) rfl rfl ?_
        exact J380 _ ((if_neg c379).trans (if_pos c381)).symm
      · refine o_icmpF (pc' := 248) X372 hx (hb hby at_245) (XT.ii_gt_f c381) rfl ?_
        refine o_iload (pc' := 250) X372 hx (hb hby at_248) rfl rfl ?_
        refine o_ldc (pc' := 252) (v := (55296 : Int32)) X372 hx hZ hown (hw _ (List.mem_of_getElem? (i := 45) rfl)) (hb hby at_250) rfl ?_
        by_cases c382 : cp < (55296 : Int32)
        · refine o_icmpT (pc' := 262) X372 hx (hb hby at_252) (XT.ii_lt_t c382) (by decide) (by decide) ?_
          refine o_iconst (pc' := 263) (v := (1 : Int32)) X372 hx (hb hby at_262) rfl rfl ?_
          refine o_goto (pc' := 267) X372 hx (hb hby at_263) (by decide) (by decide) ?_
          exact J380 _ ((if_neg c379).trans ((if_neg c381).trans (if_pos c382))).symm
        · refine o_icmpF (pc' := 255) X372 hx (hb hby at_252) (XT.ii_lt_f c382) rfl ?_
          refine o_iload (pc' := 257) X372 hx (hb hby at_255) rfl rfl ?_
          refine o_ldc (pc' := 259) (v := (57343 : Int32)) X372 hx hZ hown (hw _ (List.mem_of_getElem? (i := 46) rfl)) (hb hby at_257) rfl ?_
          by_cases c383 : (57343 : Int32) < cp
          · refine o_icmpF (pc' := 262) X372 hx (hb hby at_259) (XT.ii_le_f c383) rfl ?_
            refine o_iconst (pc' := 263) (v := (1 : Int32)) X372 hx (hb hby at_262) rfl rfl ?_
            refine o_goto (pc' := 267) X372 hx (hb hby at_263) (by decide) (by decide) ?_
            exact J380 _ ((if_neg c379).trans ((if_neg c381).trans ((if_neg c382).trans (if_pos c383)))).symm
          · refine o_icmpT (pc' := 266) X372 hx (hb hby at_259) (XT.ii_le_t c383) (by decide) (by decide) ?_
            refine o_iconst (pc' := 267) (v := (0 : Int32)) X372 hx (hb hby at_266) rfl rfl ?_
            exact J380 _ ((if_neg c379).trans ((if_neg c381).trans ((if_neg c382).trans (if_neg c383)))).symm
  · rw [hl]
    refine o_iconst (pc' := 8) (v := (4 : Int32)) X0 hx (hb hby at_7) rfl rfl ?_
    obtain ⟨T718, h718_, X718, e718, E718, A718, st718⟩ := o_newI (Ls := #[.val (.int x0), .val (.int x1), .val (.int x2), .val (.int x3), .val (.int (4 : Int32)), .unset, .unset, .unset, .unset, .unset, .unset, .unset, .unset, .unset, .unset]) (st := []) (n := (4 : Int32)) X0 hx hZ (hw _ (List.mem_of_getElem? (i := 0) rfl)) e0 (hb hby at_8) (by decide) 4 (by decide) (by decide) (by decide) (by decide) rfl
    obtain ⟨b718, g718⟩ : ∃ z, z = h0.size := ⟨_, rfl⟩
    rw [← g718] at A718 st718
    replace A718 : oInts Z h718_ b718 [(0 : Int32), (0 : Int32), (0 : Int32), (0 : Int32)] := A718
    have ge719 : n0 ≤ b718 := by rw [g718]; exact Z0
    have K720 := (Keep.refl h0 []).ext E718
    have F721 := O0.keep K720 all0
    have Z724 := Nat.le_trans Z0 K720.1
    refine oGo.step (f' := (mkF m 10 #[.val (.int x0), .val (.int x1), .val (.int x2), .val (.int x3), .val (.int (4 : Int32)), .unset, .unset, .unset, .unset, .unset, .unset, .unset, .unset, .unset, .unset] [(.ref b718)])) st718 ?_
    refine o_astore (pc' := 12) (l' := #[.val (.int x0), .val (.int x1), .val (.int x2), .val (.int x3), .val (.int (4 : Int32)), .unset, .val (.ref b718), .unset, .unset, .unset, .unset, .unset, .unset, .unset, .unset]) X718 hx (hb hby at_10) rfl rfl rfl ?_
    refine o_iload (pc' := 14) X718 hx (hb hby at_12) rfl rfl ?_
    refine o_iconst (pc' := 15) (v := (1 : Int32)) X718 hx (hb hby at_14) rfl rfl ?_
    refine o_icmpT (pc' := 33) X718 hx (hb hby at_15) (XT.ii_ne_t (by decide)) (by decide) (by decide) ?_
    refine o_iload (pc' := 35) X718 hx (hb hby at_33) rfl rfl ?_
    refine o_iconst (pc' := 36) (v := (2 : Int32)) X718 hx (hb hby at_35) rfl rfl ?_
    refine o_icmpT (pc' := 75) X718 hx (hb hby at_36) (XT.ii_ne_t (by decide)) (by decide) (by decide) ?_
    refine o_iload (pc' := 77) X718 hx (hb hby at_75) rfl rfl ?_
    refine o_iconst (pc' := 78) (v := (3 : Int32)) X718 hx (hb hby at_77) rfl rfl ?_
    refine o_icmpT (pc' := 132) X718 hx (hb hby at_78) (XT.ii_ne_t (by decide)) (by decide) (by decide) ?_
    refine o_iloadN (pc' := 133) X718 hx (hb hby at_132) rfl rfl ?_
    refine o_ldc (pc' := 135) (v := (2097151 : Int32)) X718 hx hZ hown (hw _ (List.mem_of_getElem? (i := 1) rfl)) (hb hby at_133) rfl ?_
    refine o_iand (pc' := 136) X718 hx (hb hby at_135)  rfl ?_
    refine o_istore (pc' := 138) (l' := #[.val (.int x0), .val (.int x1), .val (.int x2), .val (.int x3), .val (.int (4 : Int32)), .val (.int (x0 &&& (2097151 : Int32))), .val (.ref b718), .unset, .unset, .unset, .unset, .unset, .unset, .unset, .unset]) X718 hx (hb hby at_136) rfl rfl ?_
    have hcm := c_mask x0 2097151 21 (by decide) (by decide)
    generalize hcp : (x0 &&& (2097151 : Int32)) = cp at hcm ⊢
    have hc0 : 0 ≤ cp.toInt := by omega
    have hc1 : cp.toInt < 2097152 := by omega
    have hcn : ¬ cp = -1 := fun q => by rw [q] at hc0; exact absurd hc0 (by decide)
    refine o_aload (pc' := 140) X718 hx (hb hby at_138) rfl rfl rfl ?_
    refine o_iconst (pc' := 141) (v := (0 : Int32)) X718 hx (hb hby at_140) rfl rfl ?_
    refine o_sipush (pc' := 144) (v := (240 : Int32)) X718 hx (hb hby at_141) rfl rfl ?_
    refine o_iload (pc' := 146) X718 hx (hb hby at_144) rfl rfl ?_
    refine o_bipush (pc' := 148) (v := (18 : Int32)) X718 hx (hb hby at_146) rfl rfl ?_
    refine o_ishr (pc' := 149) X718 hx (hb hby at_148)  rfl ?_
    refine o_ior (pc' := 150) X718 hx (hb hby at_149)  rfl ?_
    obtain ⟨T725, h725_, X725, e725, W725, st725⟩ := o_iastore (x := ((240 : Int32) ||| (cp >>> ((18 : Int32) &&& 31)))) (j := (0 : Int32)) (Ls := #[.val (.int x0), .val (.int x1), .val (.int x2), .val (.int x3), .val (.int (4 : Int32)), .val (.int cp), .val (.ref b718), .unset, .unset, .unset, .unset, .unset, .unset, .unset, .unset]) (st := []) X718 hx hZ e718 A718 (hb hby at_150) (by decide) (show _ < 4 by decide) rfl
    refine oGo.step (f' := (mkF m 151 #[.val (.int x0), .val (.int x1), .val (.int x2), .val (.int x3), .val (.int (4 : Int32)), .val (.int cp), .val (.ref b718), .unset, .unset, .unset, .unset, .unset, .unset, .unset, .unset] [])) st725 ?_
    have N725 := Fr.snoc X725 N0 ge719
    have F726 := A718.set W725
    replace F726 : oInts Z h725_ b718 [((240 : Int32) ||| (cp >>> ((18 : Int32) &&& 31))), (0 : Int32), (0 : Int32), (0 : Int32)] := F726
    have K727 := Keep.of_wr W725
    have F728 := F721.keep K727 (allS ge719 all0)
    have Z731 := Nat.le_trans Z724 K727.1
    refine o_aload (pc' := 153) X725 hx (hb hby at_151) rfl rfl rfl ?_
    refine o_iconst (pc' := 154) (v := (1 : Int32)) X725 hx (hb hby at_153) rfl rfl ?_
    refine o_sipush (pc' := 157) (v := (128 : Int32)) X725 hx (hb hby at_154) rfl rfl ?_
    refine o_iload (pc' := 159) X725 hx (hb hby at_157) rfl rfl ?_
    refine o_bipush (pc' := 161) (v := (12 : Int32)) X725 hx (hb hby at_159) rfl rfl ?_
    refine o_ishr (pc' := 162) X725 hx (hb hby at_161)  rfl ?_
    refine o_bipush (pc' := 164) (v := (63 : Int32)) X725 hx (hb hby at_162) rfl rfl ?_
    refine o_iand (pc' := 165) X725 hx (hb hby at_164)  rfl ?_
    refine o_ior (pc' := 166) X725 hx (hb hby at_165)  rfl ?_
    obtain ⟨T732, h732_, X732, e732, W732, st732⟩ := o_iastore (x := ((128 : Int32) ||| ((cp >>> ((12 : Int32) &&& 31)) &&& (63 : Int32)))) (j := (1 : Int32)) (Ls := #[.val (.int x0), .val (.int x1), .val (.int x2), .val (.int x3), .val (.int (4 : Int32)), .val (.int cp), .val (.ref b718), .unset, .unset, .unset, .unset, .unset, .unset, .unset, .unset]) (st := []) X725 hx hZ e725 F726 (hb hby at_166) (by decide) (show _ < 4 by decide) rfl
    refine oGo.step (f' := (mkF m 167 #[.val (.int x0), .val (.int x1), .val (.int x2), .val (.int x3), .val (.int (4 : Int32)), .val (.int cp), .val (.ref b718), .unset, .unset, .unset, .unset, .unset, .unset, .unset, .unset] [])) st732 ?_
    have N732 := Fr.snoc X732 N725 ge719
    have F733 := F726.set W732
    replace F733 : oInts Z h732_ b718 [((240 : Int32) ||| (cp >>> ((18 : Int32) &&& 31))), ((128 : Int32) ||| ((cp >>> ((12 : Int32) &&& 31)) &&& (63 : Int32))), (0 : Int32), (0 : Int32)] := F733
    have K734 := Keep.of_wr W732
    have F735 := F728.keep K734 (allS ge719 all0)
    have Z738 := Nat.le_trans Z731 K734.1
    refine o_aload (pc' := 169) X732 hx (hb hby at_167) rfl rfl rfl ?_
    refine o_iconst (pc' := 170) (v := (2 : Int32)) X732 hx (hb hby at_169) rfl rfl ?_
    refine o_sipush (pc' := 173) (v := (128 : Int32)) X732 hx (hb hby at_170) rfl rfl ?_
    refine o_iload (pc' := 175) X732 hx (hb hby at_173) rfl rfl ?_
    refine o_bipush (pc' := 177) (v := (6 : Int32)) X732 hx (hb hby at_175) rfl rfl ?_
    refine o_ishr (pc' := 178) X732 hx (hb hby at_177)  rfl ?_
    refine o_bipush (pc' := 180) (v := (63 : Int32)) X732 hx (hb hby at_178) rfl rfl ?_
    refine o_iand (pc' := 181) X732 hx (hb hby at_180)  rfl ?_
    refine o_ior (pc' := 182) X732 hx (hb hby at_181)  rfl ?_
    obtain ⟨T739, h739_, X739, e739, W739, st739⟩ := o_iastore (x := ((128 : Int32) ||| ((cp >>> ((6 : Int32) &&& 31)) &&& (63 : Int32)))) (j := (2 : Int32)) (Ls := #[.val (.int x0), .val (.int x1), .val (.int x2), .val (.int x3), .val (.int (4 : Int32)), .val (.int cp), .val (.ref b718), .unset, .unset, .unset, .unset, .unset, .unset, .unset, .unset]) (st := []) X732 hx hZ e732 F733 (hb hby at_182) (by decide) (show _ < 4 by decide) rfl
    refine oGo.step (f' := (mkF m 183 #[.val (.int x0), .val (.int x1), .val (.int x2), .val (.int x3), .val (.int (4 : Int32)), .val (.int cp), .val (.ref b718), .unset, .unset, .unset, .unset, .unset, .unset, .unset, .unset] [])) st739 ?_
    have N739 := Fr.snoc X739 N732 ge719
    have F740 := F733.set W739
    replace F740 : oInts Z h739_ b718 [((240 : Int32) ||| (cp >>> ((18 : Int32) &&& 31))), ((128 : Int32) ||| ((cp >>> ((12 : Int32) &&& 31)) &&& (63 : Int32))), ((128 : Int32) ||| ((cp >>> ((6 : Int32) &&& 31)) &&& (63 : Int32))), (0 : Int32)] := F740
    have K741 := Keep.of_wr W739
    have F742 := F735.keep K741 (allS ge719 all0)
    have Z745 := Nat.le_trans Z738 K741.1
    refine o_aload (pc' := 185) X739 hx (hb hby at_183) rfl rfl rfl ?_
    refine o_iconst (pc' := 186) (v := (3 : Int32)) X739 hx (hb hby at_185) rfl rfl ?_
    refine o_sipush (pc' := 189) (v := (128 : Int32)) X739 hx (hb hby at_186) rfl rfl ?_
    refine o_iload (pc' := 191) X739 hx (hb hby at_189) rfl rfl ?_
    refine o_bipush (pc' := 193) (v := (63 : Int32)) X739 hx (hb hby at_191) rfl rfl ?_
    refine o_iand (pc' := 194) X739 hx (hb hby at_193)  rfl ?_
    refine o_ior (pc' := 195) X739 hx (hb hby at_194)  rfl ?_
    obtain ⟨T746, h746_, X746, e746, W746, st746⟩ := o_iastore (x := ((128 : Int32) ||| (cp &&& (63 : Int32)))) (j := (3 : Int32)) (Ls := #[.val (.int x0), .val (.int x1), .val (.int x2), .val (.int x3), .val (.int (4 : Int32)), .val (.int cp), .val (.ref b718), .unset, .unset, .unset, .unset, .unset, .unset, .unset, .unset]) (st := []) X739 hx hZ e739 F740 (hb hby at_195) (by decide) (show _ < 4 by decide) rfl
    refine oGo.step (f' := (mkF m 196 #[.val (.int x0), .val (.int x1), .val (.int x2), .val (.int x3), .val (.int (4 : Int32)), .val (.int cp), .val (.ref b718), .unset, .unset, .unset, .unset, .unset, .unset, .unset, .unset] [])) st746 ?_
    have N746 := Fr.snoc X746 N739 ge719
    have F747 := F740.set W746
    replace F747 : oInts Z h746_ b718 [((240 : Int32) ||| (cp >>> ((18 : Int32) &&& 31))), ((128 : Int32) ||| ((cp >>> ((12 : Int32) &&& 31)) &&& (63 : Int32))), ((128 : Int32) ||| ((cp >>> ((6 : Int32) &&& 31)) &&& (63 : Int32))), ((128 : Int32) ||| (cp &&& (63 : Int32)))] := F747
    have K748 := Keep.of_wr W746
    have F749 := F742.keep K748 (allS ge719 all0)
    have Z752 := Nat.le_trans Z745 K748.1
    refine o_iload (pc' := 198) X746 hx (hb hby at_196) rfl rfl ?_
    refine o_iconst (pc' := 199) (v := (1 : Int32)) X746 hx (hb hby at_198) rfl rfl ?_
    refine o_icmpT (pc' := 206) X746 hx (hb hby at_199) (XT.ii_ne_t (by decide)) (by decide) (by decide) ?_
    refine o_iload (pc' := 208) X746 hx (hb hby at_206) rfl rfl ?_
    refine o_iconst (pc' := 209) (v := (2 : Int32)) X746 hx (hb hby at_208) rfl rfl ?_
    refine o_icmpT (pc' := 218) X746 hx (hb hby at_209) (XT.ii_ne_t (by decide)) (by decide) (by decide) ?_
    refine o_iload (pc' := 220) X746 hx (hb hby at_218) rfl rfl ?_
    refine o_iconst (pc' := 221) (v := (3 : Int32)) X746 hx (hb hby at_220) rfl rfl ?_
    refine o_icmpT (pc' := 230) X746 hx (hb hby at_221) (XT.ii_ne_t (by decide)) (by decide) (by decide) ?_
    refine o_ldc (pc' := 232) (v := (65536 : Int32)) X746 hx hZ hown (hw _ (List.mem_of_getElem? (i := 2) rfl)) (hb hby at_230) rfl ?_
    refine o_istore (pc' := 234) (l' := #[.val (.int x0), .val (.int x1), .val (.int x2), .val (.int x3), .val (.int (4 : Int32)), .val (.int cp), .val (.ref b718), .val (.int (65536 : Int32)), .unset, .unset, .unset, .unset, .unset, .unset, .unset]) X746 hx (hb hby at_232) rfl rfl ?_
    refine o_iload (pc' := 236) X746 hx (hb hby at_234) rfl rfl ?_
    refine o_iload (pc' := 238) X746 hx (hb hby at_236) rfl rfl ?_
    have J754 : ∀ (v758 : Int32), v758 = (if cp < (65536 : Int32) then (0 : Int32) else (if (1114111 : Int32) < cp then (0 : Int32) else (if cp < (55296 : Int32) then (1 : Int32) else (if (57343 : Int32) < cp then (1 : Int32) else (0 : Int32))))) → oGo p e below (oG s (fun v h L => v = some (.int 1) ∧ Fr n0 L) room_1.cells room_1.slots) T746 (mkF m 267 #[.val (.int x0), .val (.int x1), .val (.int x2), .val (.int x3), .val (.int (4 : Int32)), .val (.int cp), .val (.ref b718), .val (.int (65536 : Int32)), .unset, .unset, .unset, .unset, .unset, .unset, .unset] [(.int v758)]) := by
      intro v758 hv758
      refine o_istore (pc' := 269) (l' := #[.val (.int x0), .val (.int x1), .val (.int x2), .val (.int x3), .val (.int (4 : Int32)), .val (.int cp), .val (.ref b718), .val (.int (65536 : Int32)), .val (.int v758), .unset, .unset, .unset, .unset, .unset, .unset]) X746 hx (hb hby at_267) rfl rfl ?_
      have hval := own_valid (g := 3) rfl hv758
      refine o_iload (pc' := 271) X746 hx (hb hby at_269) rfl rfl ?_
      refine o_iconst (pc' := 272) (v := (1 : Int32)) X746 hx (hb hby at_271) rfl rfl ?_
      refine o_iloadN (pc' := 273) X746 hx (hb hby at_272) rfl rfl ?_
      refine o_iconst (pc' := 274) (v := (3 : Int32)) X746 hx (hb hby at_273) rfl rfl ?_
      refine o_iand (pc' := 275) X746 hx (hb hby at_274)  rfl ?_
      refine o_iadd (pc' := 276) X746 hx (hb hby at_275)  rfl ?_
      obtain ⟨r759, T759, L759, X759, hq759, st759⟩ := o_callS X746 hx hZ hown (hw _ (List.mem_of_getElem? (i := 3) rfl)) (hw _ (List.mem_of_getElem? (i := 4) rfl)) (hw _ (List.mem_of_getElem? (i := 5) rfl)) (hw _ (List.mem_of_getElem? (i := 6) rfl)) (by decide) (rm1 l Z a0 hw (4 : Int32) ((1 : Int32) + (x2 &&& (3 : Int32)))  h746_ n0 Z752 ) e746 (pc' := 279) (Ls := #[.val (.int x0), .val (.int x1), .val (.int x2), .val (.int x3), .val (.int (4 : Int32)), .val (.int cp), .val (.ref b718), .val (.int (65536 : Int32)), .val (.int v758), .unset, .unset, .unset, .unset, .unset, .unset]) (by rw [hml]; rfl) [(.int (4 : Int32)), (.int ((1 : Int32) + (x2 &&& (3 : Int32))))] [] rfl pd1 rfl rfl 0 (Nat.le_of_eq rfl) (hb hby at_276) rfl (by decide) (by decide) (by decide) (by decide)
      obtain ⟨rfl, rfl, Kc759⟩ := hq759
      obtain ⟨y760, hy760⟩ : ∃ z, z = (spec1 (4 : Int32) ((1 : Int32) + (x2 &&& (3 : Int32)))) := ⟨_, rfl⟩
      rw [← hy760] at st759
      refine oGo.step (f' := (mkF m 279 #[.val (.int x0), .val (.int x1), .val (.int x2), .val (.int x3), .val (.int (4 : Int32)), .val (.int cp), .val (.ref b718), .val (.int (65536 : Int32)), .val (.int v758), .unset, .unset, .unset, .unset, .unset, .unset] [(.int y760)])) st759 ?_
      have e759 : T759.heap = h746_ := Kc759
      have X759 := o_same X759 rfl rfl
      refine o_istore (pc' := 281) (l' := #[.val (.int x0), .val (.int x1), .val (.int x2), .val (.int x3), .val (.int (4 : Int32)), .val (.int cp), .val (.ref b718), .val (.int (65536 : Int32)), .val (.int v758), .val (.int y760), .unset, .unset, .unset, .unset, .unset]) X759 hx (hb hby at_279) rfl rfl ?_
      rcases (show y760 = (1 : Int32) ∨ y760 = (2 : Int32) ∨ y760 = (3 : Int32) ∨ y760 = (4 : Int32) by rw [hy760]; exact own_k4 x2) with rfl | rfl | rfl | rfl
      · obtain ⟨T761, h761_, X761, e761, E761, A761, D761, -, st761⟩ := newO X759 hx hZ hown (hw _ (List.mem_of_getElem? (i := 7) rfl)) (hw _ (List.mem_of_getElem? (i := 8) rfl)) (hw _ (List.mem_of_getElem? (i := 9) rfl)) e759 (g := (mkF m 281 #[.val (.int x0), .val (.int x1), .val (.int x2), .val (.int x3), .val (.int (4 : Int32)), .val (.int cp), .val (.ref b718), .val (.int (65536 : Int32)), .val (.int v758), .val (.int (1 : Int32)), .unset, .unset, .unset, .unset, .unset] [])) rfl (hb hby at_281) (by decide) (by decide)
        obtain ⟨b761, g761⟩ : ∃ z, z = h746_.size := ⟨_, rfl⟩
        rw [← g761] at A761 D761 st761
        have ne762 : b718 ≠ b761 := by rw [g761]; exact Nat.ne_of_lt F747.lt
        have ge763 : n0 ≤ b761 := by rw [g761]; exact Z752
        have K764 := (Keep.refl h746_ []).ext E761
        have F765 := F749.keep K764 all0
        have F768 := F747.keep K764 nin0
        have Z769 := Nat.le_trans Z752 K764.1
        have F770 : Fld Z h761_ b761 "com/example/harborlog/harborlog/Utf8Decoder" "lacking" "I" (.int (0 : Int32)) := D761 (Or.inl (hw _ (List.mem_of_getElem? (i := 26) rfl))) (ty := .int) (by decide)
        have F771 : Fld Z h761_ b761 "com/example/harborlog/harborlog/Utf8Decoder" "malformed" "Z" (.int (0 : Int32)) := D761 (Or.inl (hw _ (List.mem_of_getElem? (i := 28) rfl))) (ty := .boolean) (by decide)
        have F772 : Fld Z h761_ b761 "com/example/harborlog/harborlog/Utf8Decoder" "given" "I" (.int (0 : Int32)) := D761 (Or.inl (hw _ (List.mem_of_getElem? (i := 30) rfl))) (ty := .int) (by decide)
        have F773 : Fld Z h761_ b761 "com/example/harborlog/harborlog/Utf8Decoder" "codePoint" "I" (.int (0 : Int32)) := D761 (Or.inl (hw _ (List.mem_of_getElem? (i := 32) rfl))) (ty := .int) (by decide)
        refine oGo.step (f' := (mkF m 284 #[.val (.int x0), .val (.int x1), .val (.int x2), .val (.int x3), .val (.int (4 : Int32)), .val (.int cp), .val (.ref b718), .val (.int (65536 : Int32)), .val (.int v758), .val (.int (1 : Int32)), .unset, .unset, .unset, .unset, .unset] [(.ref b761)])) st761 ?_
        refine o_dup (pc' := 285) X761 hx (hb hby at_284) rfl rfl ?_
        obtain ⟨r774, T774, L774, X774, hq774, st774⟩ := o_callN X761 hx hZ hown rfl (hw _ (List.mem_of_getElem? (i := 10) rfl)) (hw _ (List.mem_of_getElem? (i := 11) rfl)) (hw _ (List.mem_of_getElem? (i := 9) rfl)) (hw _ (List.mem_of_getElem? (i := 12) rfl)) (by decide) (rm2 l Z a0 hw b761 h761_ n0 Z769 ) e761 (pc' := 288) (Ls := #[.val (.int x0), .val (.int x1), .val (.int x2), .val (.int x3), .val (.int (4 : Int32)), .val (.int cp), .val (.ref b718), .val (.int (65536 : Int32)), .val (.int v758), .val (.int (1 : Int32)), .unset, .unset, .unset, .unset, .unset]) (by rw [hml]; rfl) [] [(.ref b761)] rfl pd2 rfl rfl 1 (Nat.le_of_eq rfl) (hb hby at_285) rfl (by decide) (by decide) (by decide) (by decide)
        obtain ⟨rfl, rfl, Kc774⟩ := hq774
        refine oGo.step (f' := (mkF m 288 #[.val (.int x0), .val (.int x1), .val (.int x2), .val (.int x3), .val (.int (4 : Int32)), .val (.int cp), .val (.ref b718), .val (.int (65536 : Int32)), .val (.int v758), .val (.int (1 : Int32)), .unset, .unset, .unset, .unset, .unset] [(.ref b761)])) st774 ?_
        have e774 : T774.heap = h761_ := Kc774
        have X774 := o_same X774 rfl rfl
        refine o_astore (pc' := 290) (l' := #[.val (.int x0), .val (.int x1), .val (.int x2), .val (.int x3), .val (.int (4 : Int32)), .val (.int cp), .val (.ref b718), .val (.int (65536 : Int32)), .val (.int v758), .val (.int (1 : Int32)), .val (.ref b761), .unset, .unset, .unset, .unset]) X774 hx (hb hby at_288) rfl rfl rfl ?_
        have eb0 : (((240 : Int32) ||| (cp >>> ((18 : Int32) &&& 31)))).toInt = 240 + cp.toInt / 262144 := own_hd (K := 240) 18 18 (by decide) hc0 (j := 3) (by decide) 8 (by decide) (by decide) (by decide) (by decide) (by omega) (by decide)
        have es1 := own_shr (cp := cp) 12 12 (by decide)
        have eb1 : (((128 : Int32) ||| ((cp >>> ((12 : Int32) &&& 31)) &&& (63 : Int32)))).toInt = 128 + cp.toInt / 4096 % 64 := by rw [own_tl (by omega), es1]; omega
        have es2 := own_shr (cp := cp) 6 6 (by decide)
        have eb2 : (((128 : Int32) ||| ((cp >>> ((6 : Int32) &&& 31)) &&& (63 : Int32)))).toInt = 128 + cp.toInt / 64 % 64 := by rw [own_tl (by omega), es2]; omega
        have eb3 : (((128 : Int32) ||| (cp &&& (63 : Int32)))).toInt = 128 + cp.toInt % 64 := own_tl hc0
        refine o_aload (pc' := 292) X774 hx (hb hby at_290) rfl rfl rfl ?_
        refine o_aload (pc' := 294) X774 hx (hb hby at_292) rfl rfl rfl ?_
        refine o_iconst (pc' := 295) (v := (0 : Int32)) X774 hx (hb hby at_294) rfl rfl ?_
        refine o_iaload (pc' := 296) (v := ((240 : Int32) ||| (cp >>> ((18 : Int32) &&& 31)))) X774 hx hZ e774 F768 (hb hby at_295) (by decide) rfl rfl ?_
        refine o_iconst (pc' := 297) (v := (0 : Int32)) X774 hx (hb hby at_296) rfl rfl ?_
        refine o_iload (pc' := 299) X774 hx (hb hby at_297) rfl rfl ?_
        refine o_iload (pc' := 301) X774 hx (hb hby at_299) rfl rfl ?_
        refine o_iload (pc' := 303) X774 hx (hb hby at_301) rfl rfl ?_
        obtain ⟨r775, T775, L775, X775, hq775, st775⟩ := o_callS X774 hx hZ hown (hw _ (List.mem_of_getElem? (i := 16) rfl)) (hw _ (List.mem_of_getElem? (i := 17) rfl)) (hw _ (List.mem_of_getElem? (i := 18) rfl)) (hw _ (List.mem_of_getElem? (i := 19) rfl)) (by decide) (rm4 l Z a0 hw b761 ((240 : Int32) ||| (cp >>> ((18 : Int32) &&& 31))) (0 : Int32) (4 : Int32) cp v758 (0 : Int32) (0 : Int32) (0 : Int32) (0 : Int32) r_LEAST h761_ n0 Z769 A761 F773 F770 F772 F771 ge763 own_inv0 F765 S_LEAST A_LEAST) e774 (pc' := 306) (Ls := #[.val (.int x0), .val (.int x1), .val (.int x2), .val (.int x3), .val (.int (4 : Int32)), .val (.int cp), .val (.ref b718), .val (.int (65536 : Int32)), .val (.int v758), .val (.int (1 : Int32)), .val (.ref b761), .unset, .unset, .unset, .unset]) (by rw [hml]; rfl) [(.ref b761), (.int ((240 : Int32) ||| (cp >>> ((18 : Int32) &&& 31)))), (.int (0 : Int32)), (.int (4 : Int32)), (.int cp), (.int v758)] [] rfl pd3 rfl rfl 0 (Nat.le_of_eq rfl) (hb hby at_303) rfl (by decide) (by decide) (by decide) (by decide)
        obtain ⟨rfl, N775, Kc775, E775_, F775_codePoint, F775_lacking, F775_given, F775_malformed⟩ := hq775
        obtain ⟨y776, hy776⟩ : ∃ z, z = (spec4 ((240 : Int32) ||| (cp >>> ((18 : Int32) &&& 31))) (0 : Int32) (4 : Int32) cp v758 (0 : Int32) (0 : Int32) (0 : Int32)) := ⟨_, rfl⟩
        rw [← hy776] at st775
        refine oGo.step (f' := (mkF m 306 #[.val (.int x0), .val (.int x1), .val (.int x2), .val (.int x3), .val (.int (4 : Int32)), .val (.int cp), .val (.ref b718), .val (.int (65536 : Int32)), .val (.int v758), .val (.int (1 : Int32)), .val (.ref b761), .unset, .unset, .unset, .unset] [(.int y776)])) st775 ?_
        have N775_ := Fr.app N746 N775
        have K777 := Kc775
        have F778 := F765.keep K777 (allS ge763 all0)
        have F781 := F768.keep K777 (ninS ne762 nin0)
        have F782 := A761.keep K777
        have Z788 := Nat.le_trans Z769 K777.1
        obtain ⟨y789, hy789⟩ : ∃ z, z = (fld5_codePoint ((240 : Int32) ||| (cp >>> ((18 : Int32) &&& 31))) (0 : Int32) (0 : Int32)) := ⟨_, rfl⟩
        rw [← hy789] at F775_codePoint
        obtain ⟨y790, hy790⟩ : ∃ z, z = (fld5_lacking ((240 : Int32) ||| (cp >>> ((18 : Int32) &&& 31))) (0 : Int32)) := ⟨_, rfl⟩
        rw [← hy790] at F775_lacking
        obtain ⟨y791, hy791⟩ : ∃ z, z = (fld5_given ((240 : Int32) ||| (cp >>> ((18 : Int32) &&& 31))) (0 : Int32) (0 : Int32)) := ⟨_, rfl⟩
        rw [← hy791] at F775_given
        obtain ⟨y792, hy792⟩ : ∃ z, z = (fld5_malformed ((240 : Int32) ||| (cp >>> ((18 : Int32) &&& 31))) (0 : Int32) (0 : Int32) (0 : Int32) (0 : Int32)) := ⟨_, rfl⟩
        rw [← hy792] at F775_malformed
        have hI775 : oInv y790 y791 y792 := by rw [hy790, hy791, hy792]; exact own_inv_next (0 : Int32) ((240 : Int32) ||| (cp >>> ((18 : Int32) &&& 31))) own_inv0
        have X775 := o_flat X775 rfl rfl
        have hS0 := st_lead (b := ((240 : Int32) ||| (cp >>> ((18 : Int32) &&& 31)))) (i := 0) (len := 4) (cp := cp) (vl := v758) (k := 3) (by omega) (by omega) (own_top3 (by omega)) (by decide)
        rw [← hy776, ← hy790, ← hy791, ← hy792, ← hy789] at hS0
        obtain ⟨q1, q2, q3, q4, hcc0⟩ := hS0
        subst q1 q2 q3 q4
        have hcn0 : y789.toInt = cp.toInt / 262144 := by rw [hcc0]; have m := (own_byte (x := ((240 : Int32) ||| (cp >>> ((18 : Int32) &&& 31)))) ⟨by omega, by omega⟩).2.2.2.2; rw [show ((63 : Int32) >>> ((3 : Int32) &&& 31)) = 7 from by decide]; omega
        refine o_istore (pc' := 308) (l' := #[.val (.int x0), .val (.int x1), .val (.int x2), .val (.int x3), .val (.int (4 : Int32)), .val (.int cp), .val (.ref b718), .val (.int (65536 : Int32)), .val (.int v758), .val (.int (1 : Int32)), .val (.ref b761), .val (.int (1 : Int32)), .unset, .unset, .unset]) X775 hx (hb hby at_306) rfl rfl ?_
        refine o_iload (pc' := 310) X775 hx (hb hby at_308) rfl rfl ?_
        refine o_iconst (pc' := 311) (v := (1 : Int32)) X775 hx (hb hby at_310) rfl rfl ?_
        refine o_icmpT (pc' := 335) X775 hx (hb hby at_311) (XT.ii_le_t (by decide)) (by decide) (by decide) ?_
        refine o_iload (pc' := 337) X775 hx (hb hby at_335) rfl rfl ?_
        refine o_iconst (pc' := 338) (v := (2 : Int32)) X775 hx (hb hby at_337) rfl rfl ?_
        refine o_icmpT (pc' := 362) X775 hx (hb hby at_338) (XT.ii_le_t (by decide)) (by decide) (by decide) ?_
        refine o_iload (pc' := 364) X775 hx (hb hby at_362) rfl rfl ?_
        refine o_iconst (pc' := 365) (v := (3 : Int32)) X775 hx (hb hby at_364) rfl rfl ?_
        refine o_icmpT (pc' := 389) X775 hx (hb hby at_365) (XT.ii_le_t (by decide)) (by decide) (by decide) ?_
        refine o_iload (pc' := 391) X775 hx (hb hby at_389) rfl rfl ?_
        refine o_iload (pc' := 393) X775 hx (hb hby at_391) rfl rfl ?_
        refine o_icmpT (pc' := 400) X775 hx (hb hby at_393) (XT.ii_ne_t (by decide)) (by decide) (by decide) ?_
        refine o_iconst (pc' := 401) (v := (0 : Int32)) X775 hx (hb hby at_400) rfl rfl ?_
        refine o_istore (pc' := 403) (l' := #[.val (.int x0), .val (.int x1), .val (.int x2), .val (.int x3), .val (.int (4 : Int32)), .val (.int cp), .val (.ref b718), .val (.int (65536 : Int32)), .val (.int v758), .val (.int (1 : Int32)), .val (.ref b761), .val (.int (1 : Int32)), .val (.int (0 : Int32)), .unset, .unset]) X775 hx (hb hby at_401) rfl rfl ?_
        refine o_iload (pc' := 405) X775 hx (hb hby at_403) rfl rfl ?_
        refine o_aload (pc' := 407) X775 hx (hb hby at_405) rfl rfl rfl ?_
        obtain ⟨r793, T793, L793, X793, hq793, st793⟩ := o_callV X775 hx hZ hown (hw _ (List.mem_of_getElem? (i := 33) rfl)) (hw _ (List.mem_of_getElem? (i := 34) rfl)) (hw _ (List.mem_of_getElem? (i := 36) rfl)) (hw _ (List.mem_of_getElem? (i := 35) rfl)) (hw _ (List.mem_of_getElem? (i := 9) rfl)) (hw _ (List.mem_of_getElem? (i := 37) rfl)) (by decide) E775_ (rm6 l Z a0 hw b761 (1 : Int32) T775.heap n0 Z788 E775_ F775_given) (rfl : T775.heap = _) (pc' := 410) (Ls := #[.val (.int x0), .val (.int x1), .val (.int x2), .val (.int x3), .val (.int (4 : Int32)), .val (.int cp), .val (.ref b718), .val (.int (65536 : Int32)), .val (.int v758), .val (.int (1 : Int32)), .val (.ref b761), .val (.int (1 : Int32)), .val (.int (0 : Int32)), .unset, .unset]) (by rw [hml]; rfl) [] [(.int (1 : Int32))] rfl pd4 rfl rfl 1 (Nat.le_of_eq rfl) (hb hby at_407) rfl (by decide) (by decide) (by decide) (by decide)
        obtain ⟨rfl, rfl, Kc793⟩ := hq793
        refine oGo.step (f' := (mkF m 410 #[.val (.int x0), .val (.int x1), .val (.int x2), .val (.int x3), .val (.int (4 : Int32)), .val (.int cp), .val (.ref b718), .val (.int (65536 : Int32)), .val (.int v758), .val (.int (1 : Int32)), .val (.ref b761), .val (.int (1 : Int32)), .val (.int (0 : Int32)), .unset, .unset] [(.int (1 : Int32)), (.int (1 : Int32))])) st793 ?_
        have e793 : T793.heap = T775.heap := Kc793
        have X793 := o_same X793 rfl rfl
        refine o_iload (pc' := 412) X793 hx (hb hby at_410) rfl rfl ?_
        refine o_ifT (pc' := 419) X793 hx (hb hby at_412) (XT.i0_eq_t (by decide)) (by decide) (by decide) ?_
        refine o_iload (pc' := 421) X793 hx (hb hby at_419) rfl rfl ?_
        refine o_icmpF (pc' := 424) X793 hx (hb hby at_421) (XT.ii_ne_f (by decide)) rfl ?_
        refine o_iconst (pc' := 425) (v := (1 : Int32)) X793 hx (hb hby at_424) rfl rfl ?_
        refine o_goto (pc' := 429) X793 hx (hb hby at_425) (by decide) (by decide) ?_
        refine o_iand (pc' := 430) X793 hx (hb hby at_429)  rfl ?_
        rw [show ((1 : Int32) &&& (1 : Int32)) = (1 : Int32) from by decide]
        refine o_istore (pc' := 432) (l' := #[.val (.int x0), .val (.int x1), .val (.int x2), .val (.int x3), .val (.int (4 : Int32)), .val (.int cp), .val (.ref b718), .val (.int (65536 : Int32)), .val (.int v758), .val (.int (1 : Int32)), .val (.ref b761), .val (.int (1 : Int32)), .val (.int (0 : Int32)), .unset, .unset]) X793 hx (hb hby at_430) rfl rfl ?_
        refine o_iloadN (pc' := 433) X793 hx (hb hby at_432) rfl rfl ?_
        refine o_bipush (pc' := 435) (v := (8 : Int32)) X793 hx (hb hby at_433) rfl rfl ?_
        refine o_iushr (pc' := 436) X793 hx (hb hby at_435)  rfl ?_
        refine o_iconst (pc' := 437) (v := (1 : Int32)) X793 hx (hb hby at_436) rfl rfl ?_
        refine o_iand (pc' := 438) X793 hx (hb hby at_437)  rfl ?_
        by_cases c794 : ((XT.ushr x3 (8 : Int32)) &&& (1 : Int32)) = 0
        · refine o_ifT (pc' := 573) X793 hx (hb hby at_438) (XT.i0_eq_t c794) (by decide) (by decide) ?_
          refine o_iload (pc' := 575) X793 hx (hb hby at_573) rfl rfl ?_
          refine o_ifT (pc' := 587) X793 hx (hb hby at_575) (XT.i0_eq_t (by decide)) (by decide) (by decide) ?_
          refine o_iconst (pc' := 588) (v := (0 : Int32)) X793 hx (hb hby at_587) rfl rfl ?_
          refine o_istore (pc' := 590) (l' := #[.val (.int x0), .val (.int x1), .val (.int x2), .val (.int x3), .val (.int (4 : Int32)), .val (.int cp), .val (.ref b718), .val (.int (65536 : Int32)), .val (.int v758), .val (.int (1 : Int32)), .val (.ref b761), .val (.int (1 : Int32)), .val (.int (0 : Int32)), .val (.int (0 : Int32)), .unset]) X793 hx (hb hby at_588) rfl rfl ?_
          refine o_iload (pc' := 592) X793 hx (hb hby at_590) rfl rfl ?_
          refine o_aload (pc' := 594) X793 hx (hb hby at_592) rfl rfl rfl ?_
          obtain ⟨r795, T795, L795, X795, hq795, st795⟩ := o_callV X793 hx hZ hown (hw _ (List.mem_of_getElem? (i := 38) rfl)) (hw _ (List.mem_of_getElem? (i := 39) rfl)) (hw _ (List.mem_of_getElem? (i := 41) rfl)) (hw _ (List.mem_of_getElem? (i := 40) rfl)) (hw _ (List.mem_of_getElem? (i := 9) rfl)) (hw _ (List.mem_of_getElem? (i := 42) rfl)) (by decide) E775_ (rm7 l Z a0 hw b761 y789 (3 : Int32) (1 : Int32) (0 : Int32) T775.heap n0 Z788 E775_ F775_codePoint F775_lacking F775_given F775_malformed ge763) e793 (pc' := 597) (Ls := #[.val (.int x0), .val (.int x1), .val (.int x2), .val (.int x3), .val (.int (4 : Int32)), .val (.int cp), .val (.ref b718), .val (.int (65536 : Int32)), .val (.int v758), .val (.int (1 : Int32)), .val (.ref b761), .val (.int (1 : Int32)), .val (.int (0 : Int32)), .val (.int (0 : Int32)), .unset]) (by rw [hml]; rfl) [] [(.int (1 : Int32))] rfl pd5 rfl rfl 1 (Nat.le_of_eq rfl) (hb hby at_594) rfl (by decide) (by decide) (by decide) (by decide)
          obtain ⟨rfl, N795, Kc795, E795_, F795_codePoint, F795_lacking, F795_given, F795_malformed⟩ := hq795
          obtain ⟨y796, hy796⟩ : ∃ z, z = (spec7 (3 : Int32) (0 : Int32)) := ⟨_, rfl⟩
          rw [← hy796] at st795
          refine oGo.step (f' := (mkF m 597 #[.val (.int x0), .val (.int x1), .val (.int x2), .val (.int x3), .val (.int (4 : Int32)), .val (.int cp), .val (.ref b718), .val (.int (65536 : Int32)), .val (.int v758), .val (.int (1 : Int32)), .val (.ref b761), .val (.int (1 : Int32)), .val (.int (0 : Int32)), .val (.int (0 : Int32)), .unset] [(.int y796), (.int (1 : Int32))])) st795 ?_
          have N795_ := Fr.app N775_ N795
          have K797 := Kc795
          have F798 := F778.keep K797 (allS ge763 all0)
          have F801 := F781.keep K797 (ninS ne762 nin0)
          have F802 := E775_.keep K797
          have Z808 := Nat.le_trans Z788 K797.1
          have X795 := o_flat X795 rfl rfl
          have hE : y796 = (0 : Int32) := by rw [hy796]; rfl
          refine o_iload (pc' := 599) X795 hx (hb hby at_597) rfl rfl ?_
          refine o_icmpF (pc' := 602) X795 hx (hb hby at_599) (XT.ii_ne_f hE) rfl ?_
          refine o_iconst (pc' := 603) (v := (1 : Int32)) X795 hx (hb hby at_602) rfl rfl ?_
          refine o_goto (pc' := 607) X795 hx (hb hby at_603) (by decide) (by decide) ?_
          refine o_iand (pc' := 608) X795 hx (hb hby at_607)  rfl ?_
          rw [show ((1 : Int32) &&& (1 : Int32)) = (1 : Int32) from by decide]
          refine o_istore (pc' := 610) (l' := #[.val (.int x0), .val (.int x1), .val (.int x2), .val (.int x3), .val (.int (4 : Int32)), .val (.int cp), .val (.ref b718), .val (.int (65536 : Int32)), .val (.int v758), .val (.int (1 : Int32)), .val (.ref b761), .val (.int (1 : Int32)), .val (.int (0 : Int32)), .val (.int (0 : Int32)), .unset]) X795 hx (hb hby at_608) rfl rfl ?_
          refine o_iload (pc' := 612) X795 hx (hb hby at_610) rfl rfl ?_
          refine o_retZ X795 hx hret hlk (hb hby at_612) (by decide) (by decide) (by decide) ?_
          exact ⟨rfl, N795_⟩
        · refine o_ifF (pc' := 441) X793 hx (hb hby at_438) (XT.i0_eq_f c794) rfl ?_
          refine o_iloadN (pc' := 442) X793 hx (hb hby at_441) rfl rfl ?_
          refine o_sipush (pc' := 445) (v := (255 : Int32)) X793 hx (hb hby at_442) rfl rfl ?_
          refine o_iand (pc' := 446) X793 hx (hb hby at_445)  rfl ?_
          refine o_istore (pc' := 448) (l' := #[.val (.int x0), .val (.int x1), .val (.int x2), .val (.int x3), .val (.int (4 : Int32)), .val (.int cp), .val (.ref b718), .val (.int (65536 : Int32)), .val (.int v758), .val (.int (1 : Int32)), .val (.ref b761), .val (.int (1 : Int32)), .val (.int (0 : Int32)), .unset, .val (.int (x3 &&& (255 : Int32)))]) X793 hx (hb hby at_446) rfl rfl ?_
          refine o_iload (pc' := 450) X793 hx (hb hby at_448) rfl rfl ?_
          refine o_ifF (pc' := 453) X793 hx (hb hby at_450) (XT.i0_ne_f (by decide)) rfl ?_
          refine o_iload (pc' := 455) X793 hx (hb hby at_453) rfl rfl ?_
          refine o_sipush (pc' := 458) (v := (192 : Int32)) X793 hx (hb hby at_455) rfl rfl ?_
          refine o_iand (pc' := 459) X793 hx (hb hby at_458)  rfl ?_
          refine o_sipush (pc' := 462) (v := (128 : Int32)) X793 hx (hb hby at_459) rfl rfl ?_
          have J810 : ∀ (v811 : Int32), v811 = (if ((x3 &&& (255 : Int32)) &&& (192 : Int32)) = (128 : Int32) then ((x3 &&& (255 : Int32)) ^^^ (64 : Int32)) else (x3 &&& (255 : Int32))) → oGo p e below (oG s (fun v h L => v = some (.int 1) ∧ Fr n0 L) room_1.cells room_1.slots) T793 (mkF m 472 #[.val (.int x0), .val (.int x1), .val (.int x2), .val (.int x3), .val (.int (4 : Int32)), .val (.int cp), .val (.ref b718), .val (.int (65536 : Int32)), .val (.int v758), .val (.int (1 : Int32)), .val (.ref b761), .val (.int (1 : Int32)), .val (.int (0 : Int32)), .unset, .val (.int v811)] []) := by
            intro v811 hv811
            refine o_iload (pc' := 474) X793 hx (hb hby at_472) rfl rfl ?_
            refine o_aload (pc' := 476) X793 hx (hb hby at_474) rfl rfl rfl ?_
            refine o_iload (pc' := 478) X793 hx (hb hby at_476) rfl rfl ?_
            have htB := own_tx (own_m255 x3) hv811
            obtain ⟨r812, T812, L812, X812, hq812, st812⟩ := o_callV X793 hx hZ hown (hw _ (List.mem_of_getElem? (i := 20) rfl)) (hw _ (List.mem_of_getElem? (i := 21) rfl)) (hw _ (List.mem_of_getElem? (i := 23) rfl)) (hw _ (List.mem_of_getElem? (i := 22) rfl)) (hw _ (List.mem_of_getElem? (i := 9) rfl)) (hw _ (List.mem_of_getElem? (i := 24) rfl)) (by decide) E775_ (rm5 l Z a0 hw b761 v811 y789 (3 : Int32) (1 : Int32) (0 : Int32) r_LEAST T775.heap n0 Z788 E775_ F775_codePoint F775_lacking F775_given F775_malformed ge763 hI775 F778 S_LEAST A_LEAST) e793 (pc' := 481) (Ls := #[.val (.int x0), .val (.int x1), .val (.int x2), .val (.int x3), .val (.int (4 : Int32)), .val (.int cp), .val (.ref b718), .val (.int (65536 : Int32)), .val (.int v758), .val (.int (1 : Int32)), .val (.ref b761), .val (.int (1 : Int32)), .val (.int (0 : Int32)), .unset, .val (.int v811)]) (by rw [hml]; rfl) [(.int v811)] [(.int (1 : Int32))] rfl pd0 rfl rfl 1 (Nat.le_of_eq rfl) (hb hby at_478) rfl (by decide) (by decide) (by decide) (by decide)
            obtain ⟨rfl, N812, Kc812, E812_, F812_codePoint, F812_lacking, F812_given, F812_malformed⟩ := hq812
            obtain ⟨y813, hy813⟩ : ∃ z, z = (spec5 v811 y789 (3 : Int32) (1 : Int32)) := ⟨_, rfl⟩
            rw [← hy813] at st812
            refine oGo.step (f' := (mkF m 481 #[.val (.int x0), .val (.int x1), .val (.int x2), .val (.int x3), .val (.int (4 : Int32)), .val (.int cp), .val (.ref b718), .val (.int (65536 : Int32)), .val (.int v758), .val (.int (1 : Int32)), .val (.ref b761), .val (.int (1 : Int32)), .val (.int (0 : Int32)), .unset, .val (.int v811)] [(.int y813), (.int (1 : Int32))])) st812 ?_
            have N812_ := Fr.app N775_ N812
            have K814 := Kc812
            have F815 := F778.keep K814 (allS ge763 all0)
            have F818 := F781.keep K814 (ninS ne762 nin0)
            have F819 := E775_.keep K814
            have Z825 := Nat.le_trans Z788 K814.1
            obtain ⟨y826, hy826⟩ : ∃ z, z = (fld5_codePoint v811 y789 (3 : Int32)) := ⟨_, rfl⟩
            rw [← hy826] at F812_codePoint
            obtain ⟨y827, hy827⟩ : ∃ z, z = (fld5_lacking v811 (3 : Int32)) := ⟨_, rfl⟩
            rw [← hy827] at F812_lacking
            obtain ⟨y828, hy828⟩ : ∃ z, z = (fld5_given v811 (3 : Int32) (1 : Int32)) := ⟨_, rfl⟩
            rw [← hy828] at F812_given
            obtain ⟨y829, hy829⟩ : ∃ z, z = (fld5_malformed v811 y789 (3 : Int32) (1 : Int32) (0 : Int32)) := ⟨_, rfl⟩
            rw [← hy829] at F812_malformed
            have hI812 : oInv y827 y828 y829 := by rw [hy827, hy828, hy829]; exact own_inv_next y789 v811 hI775
            have X812 := o_flat X812 rfl rfl
            have hA := nx_any (t := v811) (cp := y789) (k := (3 : Int32)) (g := (1 : Int32)) (z := (0 : Int32)) nz01 (Or.inr ⟨by decide, htB.2⟩)
            rw [← hy813, ← hy828] at hA
            refine o_iload (pc' := 483) X812 hx (hb hby at_481) rfl rfl ?_
            refine o_sipush (pc' := 486) (v := (128 : Int32)) X812 hx (hb hby at_483) rfl rfl ?_
            have J831 : ∀ (v832 : Int32), v832 = (if v811 < (128 : Int32) then v811 else (-1 : Int32)) → oGo p e below (oG s (fun v h L => v = some (.int 1) ∧ Fr n0 L) room_1.cells room_1.slots) T812 (mkF m 495 #[.val (.int x0), .val (.int x1), .val (.int x2), .val (.int x3), .val (.int (4 : Int32)), .val (.int cp), .val (.ref b718), .val (.int (65536 : Int32)), .val (.int v758), .val (.int (1 : Int32)), .val (.ref b761), .val (.int (1 : Int32)), .val (.int (0 : Int32)), .unset, .val (.int v811)] [(.int v832), (.int y813), (.int (1 : Int32))]) := by
              intro v832 hv832
              refine o_icmpF (pc' := 498) X812 hx (hb hby at_495) (XT.ii_ne_f (hA.1.trans hv832.symm)) rfl ?_
              refine o_iconst (pc' := 499) (v := (1 : Int32)) X812 hx (hb hby at_498) rfl rfl ?_
              refine o_goto (pc' := 503) X812 hx (hb hby at_499) (by decide) (by decide) ?_
              refine o_iand (pc' := 504) X812 hx (hb hby at_503)  rfl ?_
              rw [show ((1 : Int32) &&& (1 : Int32)) = (1 : Int32) from by decide]
              refine o_istore (pc' := 506) (l' := #[.val (.int x0), .val (.int x1), .val (.int x2), .val (.int x3), .val (.int (4 : Int32)), .val (.int cp), .val (.ref b718), .val (.int (65536 : Int32)), .val (.int v758), .val (.int (1 : Int32)), .val (.ref b761), .val (.int (1 : Int32)), .val (.int (0 : Int32)), .unset, .val (.int v811)]) X812 hx (hb hby at_504) rfl rfl ?_
              refine o_iload (pc' := 508) X812 hx (hb hby at_506) rfl rfl ?_
              refine o_aload (pc' := 510) X812 hx (hb hby at_508) rfl rfl rfl ?_
              obtain ⟨r833, T833, L833, X833, hq833, st833⟩ := o_callV X812 hx hZ hown (hw _ (List.mem_of_getElem? (i := 33) rfl)) (hw _ (List.mem_of_getElem? (i := 34) rfl)) (hw _ (List.mem_of_getElem? (i := 36) rfl)) (hw _ (List.mem_of_getElem? (i := 35) rfl)) (hw _ (List.mem_of_getElem? (i := 9) rfl)) (hw _ (List.mem_of_getElem? (i := 37) rfl)) (by decide) E812_ (rm6 l Z a0 hw b761 y828 T812.heap n0 Z825 E812_ F812_given) (rfl : T812.heap = _) (pc' := 513) (Ls := #[.val (.int x0), .val (.int x1), .val (.int x2), .val (.int x3), .val (.int (4 : Int32)), .val (.int cp), .val (.ref b718), .val (.int (65536 : Int32)), .val (.int v758), .val (.int (1 : Int32)), .val (.ref b761), .val (.int (1 : Int32)), .val (.int (0 : Int32)), .unset, .val (.int v811)]) (by rw [hml]; rfl) [] [(.int (1 : Int32))] rfl pd4 rfl rfl 1 (Nat.le_of_eq rfl) (hb hby at_510) rfl (by decide) (by decide) (by decide) (by decide)
              obtain ⟨rfl, rfl, Kc833⟩ := hq833
              refine oGo.step (f' := (mkF m 513 #[.val (.int x0), .val (.int x1), .val (.int x2), .val (.int x3), .val (.int (4 : Int32)), .val (.int cp), .val (.ref b718), .val (.int (65536 : Int32)), .val (.int v758), .val (.int (1 : Int32)), .val (.ref b761), .val (.int (1 : Int32)), .val (.int (0 : Int32)), .unset, .val (.int v811)] [(.int y828), (.int (1 : Int32))])) st833 ?_
              have e833 : T833.heap = T812.heap := Kc833
              have X833 := o_same X833 rfl rfl
              refine o_iload (pc' := 515) X833 hx (hb hby at_513) rfl rfl ?_
              refine o_sipush (pc' := 518) (v := (192 : Int32)) X833 hx (hb hby at_515) rfl rfl ?_
              have J835 : ∀ (v837 : Int32), v837 = (if v811 < (192 : Int32) then (0 : Int32) else (if (247 : Int32) < v811 then (0 : Int32) else (1 : Int32))) → oGo p e below (oG s (fun v h L => v = some (.int 1) ∧ Fr n0 L) room_1.cells room_1.slots) T833 (mkF m 534 #[.val (.int x0), .val (.int x1), .val (.int x2), .val (.int x3), .val (.int (4 : Int32)), .val (.int cp), .val (.ref b718), .val (.int (65536 : Int32)), .val (.int v758), .val (.int (1 : Int32)), .val (.ref b761), .val (.int (1 : Int32)), .val (.int (0 : Int32)), .unset, .val (.int v811)] [(.int v837), (.int y828), (.int (1 : Int32))]) := by
                intro v837 hv837
                refine o_icmpF (pc' := 537) X833 hx (hb hby at_534) (XT.ii_ne_f (hA.2.trans hv837.symm)) rfl ?_
                refine o_iconst (pc' := 538) (v := (1 : Int32)) X833 hx (hb hby at_537) rfl rfl ?_
                refine o_goto (pc' := 542) X833 hx (hb hby at_538) (by decide) (by decide) ?_
                refine o_iand (pc' := 543) X833 hx (hb hby at_542)  rfl ?_
                rw [show ((1 : Int32) &&& (1 : Int32)) = (1 : Int32) from by decide]
                refine o_istore (pc' := 545) (l' := #[.val (.int x0), .val (.int x1), .val (.int x2), .val (.int x3), .val (.int (4 : Int32)), .val (.int cp), .val (.ref b718), .val (.int (65536 : Int32)), .val (.int v758), .val (.int (1 : Int32)), .val (.ref b761), .val (.int (1 : Int32)), .val (.int (0 : Int32)), .unset, .val (.int v811)]) X833 hx (hb hby at_543) rfl rfl ?_
                refine o_iload (pc' := 547) X833 hx (hb hby at_545) rfl rfl ?_
                refine o_ifT (pc' := 567) X833 hx (hb hby at_547) (XT.i0_eq_t (by decide)) (by decide) (by decide) ?_
                refine o_iconst (pc' := 568) (v := (0 : Int32)) X833 hx (hb hby at_567) rfl rfl ?_
                refine o_istore (pc' := 570) (l' := #[.val (.int x0), .val (.int x1), .val (.int x2), .val (.int x3), .val (.int (4 : Int32)), .val (.int cp), .val (.ref b718), .val (.int (65536 : Int32)), .val (.int v758), .val (.int (1 : Int32)), .val (.ref b761), .val (.int (1 : Int32)), .val (.int (0 : Int32)), .val (.int (0 : Int32)), .val (.int v811)]) X833 hx (hb hby at_568) rfl rfl ?_
                refine o_goto (pc' := 590) X833 hx (hb hby at_570) (by decide) (by decide) ?_
                refine o_iload (pc' := 592) X833 hx (hb hby at_590) rfl rfl ?_
                refine o_aload (pc' := 594) X833 hx (hb hby at_592) rfl rfl rfl ?_
                obtain ⟨r838, T838, L838, X838, hq838, st838⟩ := o_callV X833 hx hZ hown (hw _ (List.mem_of_getElem? (i := 38) rfl)) (hw _ (List.mem_of_getElem? (i := 39) rfl)) (hw _ (List.mem_of_getElem? (i := 41) rfl)) (hw _ (List.mem_of_getElem? (i := 40) rfl)) (hw _ (List.mem_of_getElem? (i := 9) rfl)) (hw _ (List.mem_of_getElem? (i := 42) rfl)) (by decide) E812_ (rm7 l Z a0 hw b761 y826 y827 y828 y829 T812.heap n0 Z825 E812_ F812_codePoint F812_lacking F812_given F812_malformed ge763) e833 (pc' := 597) (Ls := #[.val (.int x0), .val (.int x1), .val (.int x2), .val (.int x3), .val (.int (4 : Int32)), .val (.int cp), .val (.ref b718), .val (.int (65536 : Int32)), .val (.int v758), .val (.int (1 : Int32)), .val (.ref b761), .val (.int (1 : Int32)), .val (.int (0 : Int32)), .val (.int (0 : Int32)), .val (.int v811)]) (by rw [hml]; rfl) [] [(.int (1 : Int32))] rfl pd5 rfl rfl 1 (Nat.le_of_eq rfl) (hb hby at_594) rfl (by decide) (by decide) (by decide) (by decide)
                obtain ⟨rfl, N838, Kc838, E838_, F838_codePoint, F838_lacking, F838_given, F838_malformed⟩ := hq838
                obtain ⟨y839, hy839⟩ : ∃ z, z = (spec7 y827 y829) := ⟨_, rfl⟩
                rw [← hy839] at st838
                refine oGo.step (f' := (mkF m 597 #[.val (.int x0), .val (.int x1), .val (.int x2), .val (.int x3), .val (.int (4 : Int32)), .val (.int cp), .val (.ref b718), .val (.int (65536 : Int32)), .val (.int v758), .val (.int (1 : Int32)), .val (.ref b761), .val (.int (1 : Int32)), .val (.int (0 : Int32)), .val (.int (0 : Int32)), .val (.int v811)] [(.int y839), (.int (1 : Int32))])) st838 ?_
                have N838_ := Fr.app N812_ N838
                have K840 := Kc838
                have F841 := F815.keep K840 (allS ge763 all0)
                have F844 := F818.keep K840 (ninS ne762 nin0)
                have F845 := E812_.keep K840
                have Z851 := Nat.le_trans Z825 K840.1
                have X838 := o_flat X838 rfl rfl
                have hE : y839 = (0 : Int32) := by rw [hy839, hy827, hy829]; exact end_cut (by decide) htB.2
                refine o_iload (pc' := 599) X838 hx (hb hby at_597) rfl rfl ?_
                refine o_icmpF (pc' := 602) X838 hx (hb hby at_599) (XT.ii_ne_f hE) rfl ?_
                refine o_iconst (pc' := 603) (v := (1 : Int32)) X838 hx (hb hby at_602) rfl rfl ?_
                refine o_goto (pc' := 607) X838 hx (hb hby at_603) (by decide) (by decide) ?_
                refine o_iand (pc' := 608) X838 hx (hb hby at_607)  rfl ?_
                rw [show ((1 : Int32) &&& (1 : Int32)) = (1 : Int32) from by decide]
                refine o_istore (pc' := 610) (l' := #[.val (.int x0), .val (.int x1), .val (.int x2), .val (.int x3), .val (.int (4 : Int32)), .val (.int cp), .val (.ref b718), .val (.int (65536 : Int32)), .val (.int v758), .val (.int (1 : Int32)), .val (.ref b761), .val (.int (1 : Int32)), .val (.int (0 : Int32)), .val (.int (0 : Int32)), .val (.int v811)]) X838 hx (hb hby at_608) rfl rfl ?_
                refine o_iload (pc' := 612) X838 hx (hb hby at_610) rfl rfl ?_
                refine o_retZ X838 hx hret hlk (hb hby at_612) (by decide) (by decide) (by decide) ?_
                exact ⟨rfl, N838_⟩
              by_cases c834 : v811 < (192 : Int32)
              · refine o_icmpT (pc' := 533) X833 hx (hb hby at_518) (XT.ii_lt_t c834) (by decide) (by decide) ?_
                refine o_iconst (pc' := 534) (v := (0 : Int32)) X833 hx (hb hby at_533) rfl rfl ?_
                exact J835 _ (if_pos c834).symm
              · refine o_icmpF (pc' := 521) X833 hx (hb hby at_518) (XT.ii_lt_f c834) rfl ?_
                refine o_iload (pc' := 523) X833 hx (hb hby at_521) rfl rfl ?_
                refine o_sipush (pc' := 526) (v := (247 : Int32)) X833 hx (hb hby at_523) rfl rfl ?_
                by_cases c836 : (247 : Int32) < v811
                · refine o_icmpT (pc' := 533) X833 hx (hb hby at_526) (XT.ii_gt_t c836) (by decide) (by decide) ?_
                  refine o_iconst (pc' := 534) (v := (0 : Int32)) X833 hx (hb hby at_533) rfl rfl ?_
                  exact J835 _ ((if_neg c834).trans (if_pos c836)).symm
                · refine o_icmpF (pc' := 529) X833 hx (hb hby at_526) (XT.ii_gt_f c836) rfl ?_
                  refine o_iconst (pc' := 530) (v := (1 : Int32)) X833 hx (hb hby at_529) rfl rfl ?_
                  refine o_goto (pc' := 534) X833 hx (hb hby at_530) (by decide) (by decide) ?_
                  exact J835 _ ((if_neg c834).trans (if_neg c836)).symm
            by_cases c830 : v811 < (128 : Int32)
            · refine o_icmpF (pc' := 489) X812 hx (hb hby at_486) (XT.ii_ge_f c830) rfl ?_
              refine o_iload (pc' := 491) X812 hx (hb hby at_489) rfl rfl ?_
              refine o_goto (pc' := 495) X812 hx (hb hby at_491) (by decide) (by decide) ?_
              exact J831 _ (if_pos c830).symm
            · refine o_icmpT (pc' := 494) X812 hx (hb hby at_486) (XT.ii_ge_t c830) (by decide) (by decide) ?_
              refine o_iconst (pc' := 495) (v := (-1 : Int32)) X812 hx (hb hby at_494) rfl rfl ?_
              exact J831 _ (if_neg c830).symm
          by_cases c809 : ((x3 &&& (255 : Int32)) &&& (192 : Int32)) = (128 : Int32)
          · refine o_icmpF (pc' := 465) X793 hx (hb hby at_462) (XT.ii_ne_f c809) rfl ?_
            refine o_iload (pc' := 467) X793 hx (hb hby at_465) rfl rfl ?_
            refine o_bipush (pc' := 469) (v := (64 : Int32)) X793 hx (hb hby at_467) rfl rfl ?_
            refine o_ixor (pc' := 470) X793 hx (hb hby at_469)  rfl ?_
            refine o_istore (pc' := 472) (l' := #[.val (.int x0), .val (.int x1), .val (.int x2), .val (.int x3), .val (.int (4 : Int32)), .val (.int cp), .val (.ref b718), .val (.int (65536 : Int32)), .val (.int v758), .val (.int (1 : Int32)), .val (.ref b761), .val (.int (1 : Int32)), .val (.int (0 : Int32)), .unset, .val (.int ((x3 &&& (255 : Int32)) ^^^ (64 : Int32)))]) X793 hx (hb hby at_470) rfl rfl ?_
            exact J810 _ (if_pos c809).symm
          · refine o_icmpT (pc' := 472) X793 hx (hb hby at_462) (XT.ii_ne_t c809) (by decide) (by decide) ?_
            exact J810 _ (if_neg c809).symm
      · obtain ⟨T852, h852_, X852, e852, E852, A852, D852, -, st852⟩ := newO X759 hx hZ hown (hw _ (List.mem_of_getElem? (i := 7) rfl)) (hw _ (List.mem_of_getElem? (i := 8) rfl)) (hw _ (List.mem_of_getElem? (i := 9) rfl)) e759 (g := (mkF m 281 #[.val (.int x0), .val (.int x1), .val (.int x2), .val (.int x3), .val (.int (4 : Int32)), .val (.int cp), .val (.ref b718), .val (.int (65536 : Int32)), .val (.int v758), .val (.int (2 : Int32)), .unset, .unset, .unset, .unset, .unset] [])) rfl (hb hby at_281) (by decide) (by decide)
        obtain ⟨b852, g852⟩ : ∃ z, z = h746_.size := ⟨_, rfl⟩
        rw [← g852] at A852 D852 st852
        have ne853 : b718 ≠ b852 := by rw [g852]; exact Nat.ne_of_lt F747.lt
        have ge854 : n0 ≤ b852 := by rw [g852]; exact Z752
        have K855 := (Keep.refl h746_ []).ext E852
        have F856 := F749.keep K855 all0
        have F859 := F747.keep K855 nin0
        have Z860 := Nat.le_trans Z752 K855.1
        have F861 : Fld Z h852_ b852 "com/example/harborlog/harborlog/Utf8Decoder" "lacking" "I" (.int (0 : Int32)) := D852 (Or.inl (hw _ (List.mem_of_getElem? (i := 26) rfl))) (ty := .int) (by decide)
        have F862 : Fld Z h852_ b852 "com/example/harborlog/harborlog/Utf8Decoder" "malformed" "Z" (.int (0 : Int32)) := D852 (Or.inl (hw _ (List.mem_of_getElem? (i := 28) rfl))) (ty := .boolean) (by decide)
        have F863 : Fld Z h852_ b852 "com/example/harborlog/harborlog/Utf8Decoder" "given" "I" (.int (0 : Int32)) := D852 (Or.inl (hw _ (List.mem_of_getElem? (i := 30) rfl))) (ty := .int) (by decide)
        have F864 : Fld Z h852_ b852 "com/example/harborlog/harborlog/Utf8Decoder" "codePoint" "I" (.int (0 : Int32)) := D852 (Or.inl (hw _ (List.mem_of_getElem? (i := 32) rfl))) (ty := .int) (by decide)
        refine oGo.step (f' := (mkF m 284 #[.val (.int x0), .val (.int x1), .val (.int x2), .val (.int x3), .val (.int (4 : Int32)), .val (.int cp), .val (.ref b718), .val (.int (65536 : Int32)), .val (.int v758), .val (.int (2 : Int32)), .unset, .unset, .unset, .unset, .unset] [(.ref b852)])) st852 ?_
        refine o_dup (pc' := 285) X852 hx (hb hby at_284) rfl rfl ?_
        obtain ⟨r865, T865, L865, X865, hq865, st865⟩ := o_callN X852 hx hZ hown rfl (hw _ (List.mem_of_getElem? (i := 10) rfl)) (hw _ (List.mem_of_getElem? (i := 11) rfl)) (hw _ (List.mem_of_getElem? (i := 9) rfl)) (hw _ (List.mem_of_getElem? (i := 12) rfl)) (by decide) (rm2 l Z a0 hw b852 h852_ n0 Z860 ) e852 (pc' := 288) (Ls := #[.val (.int x0), .val (.int x1), .val (.int x2), .val (.int x3), .val (.int (4 : Int32)), .val (.int cp), .val (.ref b718), .val (.int (65536 : Int32)), .val (.int v758), .val (.int (2 : Int32)), .unset, .unset, .unset, .unset, .unset]) (by rw [hml]; rfl) [] [(.ref b852)] rfl pd2 rfl rfl 1 (Nat.le_of_eq rfl) (hb hby at_285) rfl (by decide) (by decide) (by decide) (by decide)
        obtain ⟨rfl, rfl, Kc865⟩ := hq865
        refine oGo.step (f' := (mkF m 288 #[.val (.int x0), .val (.int x1), .val (.int x2), .val (.int x3), .val (.int (4 : Int32)), .val (.int cp), .val (.ref b718), .val (.int (65536 : Int32)), .val (.int v758), .val (.int (2 : Int32)), .unset, .unset, .unset, .unset, .unset] [(.ref b852)])) st865 ?_
        have e865 : T865.heap = h852_ := Kc865
        have X865 := o_same X865 rfl rfl
        refine o_astore (pc' := 290) (l' := #[.val (.int x0), .val (.int x1), .val (.int x2), .val (.int x3), .val (.int (4 : Int32)), .val (.int cp), .val (.ref b718), .val (.int (65536 : Int32)), .val (.int v758), .val (.int (2 : Int32)), .val (.ref b852), .unset, .unset, .unset, .unset]) X865 hx (hb hby at_288) rfl rfl rfl ?_
        have eb0 : (((240 : Int32) ||| (cp >>> ((18 : Int32) &&& 31)))).toInt = 240 + cp.toInt / 262144 := own_hd (K := 240) 18 18 (by decide) hc0 (j := 3) (by decide) 8 (by decide) (by decide) (by decide) (by decide) (by omega) (by decide)
        have es1 := own_shr (cp := cp) 12 12 (by decide)
        have eb1 : (((128 : Int32) ||| ((cp >>> ((12 : Int32) &&& 31)) &&& (63 : Int32)))).toInt = 128 + cp.toInt / 4096 % 64 := by rw [own_tl (by omega), es1]; omega
        have es2 := own_shr (cp := cp) 6 6 (by decide)
        have eb2 : (((128 : Int32) ||| ((cp >>> ((6 : Int32) &&& 31)) &&& (63 : Int32)))).toInt = 128 + cp.toInt / 64 % 64 := by rw [own_tl (by omega), es2]; omega
        have eb3 : (((128 : Int32) ||| (cp &&& (63 : Int32)))).toInt = 128 + cp.toInt % 64 := own_tl hc0
        refine o_aload (pc' := 292) X865 hx (hb hby at_290) rfl rfl rfl ?_
        refine o_aload (pc' := 294) X865 hx (hb hby at_292) rfl rfl rfl ?_
        refine o_iconst (pc' := 295) (v := (0 : Int32)) X865 hx (hb hby at_294) rfl rfl ?_
        refine o_iaload (pc' := 296) (v := ((240 : Int32) ||| (cp >>> ((18 : Int32) &&& 31)))) X865 hx hZ e865 F859 (hb hby at_295) (by decide) rfl rfl ?_
        refine o_iconst (pc' := 297) (v := (0 : Int32)) X865 hx (hb hby at_296) rfl rfl ?_
        refine o_iload (pc' := 299) X865 hx (hb hby at_297) rfl rfl ?_
        refine o_iload (pc' := 301) X865 hx (hb hby at_299) rfl rfl ?_
        refine o_iload (pc' := 303) X865 hx (hb hby at_301) rfl rfl ?_
        obtain ⟨r866, T866, L866, X866, hq866, st866⟩ := o_callS X865 hx hZ hown (hw _ (List.mem_of_getElem? (i := 16) rfl)) (hw _ (List.mem_of_getElem? (i := 17) rfl)) (hw _ (List.mem_of_getElem? (i := 18) rfl)) (hw _ (List.mem_of_getElem? (i := 19) rfl)) (by decide) (rm4 l Z a0 hw b852 ((240 : Int32) ||| (cp >>> ((18 : Int32) &&& 31))) (0 : Int32) (4 : Int32) cp v758 (0 : Int32) (0 : Int32) (0 : Int32) (0 : Int32) r_LEAST h852_ n0 Z860 A852 F864 F861 F863 F862 ge854 own_inv0 F856 S_LEAST A_LEAST) e865 (pc' := 306) (Ls := #[.val (.int x0), .val (.int x1), .val (.int x2), .val (.int x3), .val (.int (4 : Int32)), .val (.int cp), .val (.ref b718), .val (.int (65536 : Int32)), .val (.int v758), .val (.int (2 : Int32)), .val (.ref b852), .unset, .unset, .unset, .unset]) (by rw [hml]; rfl) [(.ref b852), (.int ((240 : Int32) ||| (cp >>> ((18 : Int32) &&& 31)))), (.int (0 : Int32)), (.int (4 : Int32)), (.int cp), (.int v758)] [] rfl pd3 rfl rfl 0 (Nat.le_of_eq rfl) (hb hby at_303) rfl (by decide) (by decide) (by decide) (by decide)
        obtain ⟨rfl, N866, Kc866, E866_, F866_codePoint, F866_lacking, F866_given, F866_malformed⟩ := hq866
        obtain ⟨y867, hy867⟩ : ∃ z, z = (spec4 ((240 : Int32) ||| (cp >>> ((18 : Int32) &&& 31))) (0 : Int32) (4 : Int32) cp v758 (0 : Int32) (0 : Int32) (0 : Int32)) := ⟨_, rfl⟩
        rw [← hy867] at st866
        refine oGo.step (f' := (mkF m 306 #[.val (.int x0), .val (.int x1), .val (.int x2), .val (.int x3), .val (.int (4 : Int32)), .val (.int cp), .val (.ref b718), .val (.int (65536 : Int32)), .val (.int v758), .val (.int (2 : Int32)), .val (.ref b852), .unset, .unset, .unset, .unset] [(.int y867)])) st866 ?_
        have N866_ := Fr.app N746 N866
        have K868 := Kc866
        have F869 := F856.keep K868 (allS ge854 all0)
        have F872 := F859.keep K868 (ninS ne853 nin0)
        have F873 := A852.keep K868
        have Z879 := Nat.le_trans Z860 K868.1
        obtain ⟨y880, hy880⟩ : ∃ z, z = (fld5_codePoint ((240 : Int32) ||| (cp >>> ((18 : Int32) &&& 31))) (0 : Int32) (0 : Int32)) := ⟨_, rfl⟩
        rw [← hy880] at F866_codePoint
        obtain ⟨y881, hy881⟩ : ∃ z, z = (fld5_lacking ((240 : Int32) ||| (cp >>> ((18 : Int32) &&& 31))) (0 : Int32)) := ⟨_, rfl⟩
        rw [← hy881] at F866_lacking
        obtain ⟨y882, hy882⟩ : ∃ z, z = (fld5_given ((240 : Int32) ||| (cp >>> ((18 : Int32) &&& 31))) (0 : Int32) (0 : Int32)) := ⟨_, rfl⟩
        rw [← hy882] at F866_given
        obtain ⟨y883, hy883⟩ : ∃ z, z = (fld5_malformed ((240 : Int32) ||| (cp >>> ((18 : Int32) &&& 31))) (0 : Int32) (0 : Int32) (0 : Int32) (0 : Int32)) := ⟨_, rfl⟩
        rw [← hy883] at F866_malformed
        have hI866 : oInv y881 y882 y883 := by rw [hy881, hy882, hy883]; exact own_inv_next (0 : Int32) ((240 : Int32) ||| (cp >>> ((18 : Int32) &&& 31))) own_inv0
        have X866 := o_flat X866 rfl rfl
        have hS0 := st_lead (b := ((240 : Int32) ||| (cp >>> ((18 : Int32) &&& 31)))) (i := 0) (len := 4) (cp := cp) (vl := v758) (k := 3) (by omega) (by omega) (own_top3 (by omega)) (by decide)
        rw [← hy867, ← hy881, ← hy882, ← hy883, ← hy880] at hS0
        obtain ⟨q1, q2, q3, q4, hcc0⟩ := hS0
        subst q1 q2 q3 q4
        have hcn0 : y880.toInt = cp.toInt / 262144 := by rw [hcc0]; have m := (own_byte (x := ((240 : Int32) ||| (cp >>> ((18 : Int32) &&& 31)))) ⟨by omega, by omega⟩).2.2.2.2; rw [show ((63 : Int32) >>> ((3 : Int32) &&& 31)) = 7 from by decide]; omega
        refine o_istore (pc' := 308) (l' := #[.val (.int x0), .val (.int x1), .val (.int x2), .val (.int x3), .val (.int (4 : Int32)), .val (.int cp), .val (.ref b718), .val (.int (65536 : Int32)), .val (.int v758), .val (.int (2 : Int32)), .val (.ref b852), .val (.int (1 : Int32)), .unset, .unset, .unset]) X866 hx (hb hby at_306) rfl rfl ?_
        refine o_iload (pc' := 310) X866 hx (hb hby at_308) rfl rfl ?_
        refine o_iconst (pc' := 311) (v := (1 : Int32)) X866 hx (hb hby at_310) rfl rfl ?_
        refine o_icmpF (pc' := 314) X866 hx (hb hby at_311) (XT.ii_le_f (by decide)) rfl ?_
        refine o_iload (pc' := 316) X866 hx (hb hby at_314) rfl rfl ?_
        refine o_aload (pc' := 318) X866 hx (hb hby at_316) rfl rfl rfl ?_
        refine o_aload (pc' := 320) X866 hx (hb hby at_318) rfl rfl rfl ?_
        refine o_iconst (pc' := 321) (v := (1 : Int32)) X866 hx (hb hby at_320) rfl rfl ?_
        refine o_iaload (pc' := 322) (v := ((128 : Int32) ||| ((cp >>> ((12 : Int32) &&& 31)) &&& (63 : Int32)))) X866 hx hZ (rfl : T866.heap = _) F872 (hb hby at_321) (by decide) rfl rfl ?_
        refine o_iconst (pc' := 323) (v := (1 : Int32)) X866 hx (hb hby at_322) rfl rfl ?_
        refine o_iload (pc' := 325) X866 hx (hb hby at_323) rfl rfl ?_
        refine o_iload (pc' := 327) X866 hx (hb hby at_325) rfl rfl ?_
        refine o_iload (pc' := 329) X866 hx (hb hby at_327) rfl rfl ?_
        obtain ⟨r884, T884, L884, X884, hq884, st884⟩ := o_callS X866 hx hZ hown (hw _ (List.mem_of_getElem? (i := 16) rfl)) (hw _ (List.mem_of_getElem? (i := 17) rfl)) (hw _ (List.mem_of_getElem? (i := 18) rfl)) (hw _ (List.mem_of_getElem? (i := 19) rfl)) (by decide) (rm4 l Z a0 hw b852 ((128 : Int32) ||| ((cp >>> ((12 : Int32) &&& 31)) &&& (63 : Int32))) (1 : Int32) (4 : Int32) cp v758 y880 (3 : Int32) (1 : Int32) (0 : Int32) r_LEAST T866.heap n0 Z879 E866_ F866_codePoint F866_lacking F866_given F866_malformed ge854 hI866 F869 S_LEAST A_LEAST) (rfl : T866.heap = _) (pc' := 332) (Ls := #[.val (.int x0), .val (.int x1), .val (.int x2), .val (.int x3), .val (.int (4 : Int32)), .val (.int cp), .val (.ref b718), .val (.int (65536 : Int32)), .val (.int v758), .val (.int (2 : Int32)), .val (.ref b852), .val (.int (1 : Int32)), .unset, .unset, .unset]) (by rw [hml]; rfl) [(.ref b852), (.int ((128 : Int32) ||| ((cp >>> ((12 : Int32) &&& 31)) &&& (63 : Int32)))), (.int (1 : Int32)), (.int (4 : Int32)), (.int cp), (.int v758)] [(.int (1 : Int32))] rfl pd3 rfl rfl 1 (Nat.le_of_eq rfl) (hb hby at_329) rfl (by decide) (by decide) (by decide) (by decide)
        obtain ⟨rfl, N884, Kc884, E884_, F884_codePoint, F884_lacking, F884_given, F884_malformed⟩ := hq884
        obtain ⟨y885, hy885⟩ : ∃ z, z = (spec4 ((128 : Int32) ||| ((cp >>> ((12 : Int32) &&& 31)) &&& (63 : Int32))) (1 : Int32) (4 : Int32) cp v758 y880 (3 : Int32) (1 : Int32)) := ⟨_, rfl⟩
        rw [← hy885] at st884
        refine oGo.step (f' := (mkF m 332 #[.val (.int x0), .val (.int x1), .val (.int x2), .val (.int x3), .val (.int (4 : Int32)), .val (.int cp), .val (.ref b718), .val (.int (65536 : Int32)), .val (.int v758), .val (.int (2 : Int32)), .val (.ref b852), .val (.int (1 : Int32)), .unset, .unset, .unset] [(.int y885), (.int (1 : Int32))])) st884 ?_
        have N884_ := Fr.app N866_ N884
        have K886 := Kc884
        have F887 := F869.keep K886 (allS ge854 all0)
        have F890 := F872.keep K886 (ninS ne853 nin0)
        have F891 := E866_.keep K886
        have Z897 := Nat.le_trans Z879 K886.1
        obtain ⟨y898, hy898⟩ : ∃ z, z = (fld5_codePoint ((128 : Int32) ||| ((cp >>> ((12 : Int32) &&& 31)) &&& (63 : Int32))) y880 (3 : Int32)) := ⟨_, rfl⟩
        rw [← hy898] at F884_codePoint
        obtain ⟨y899, hy899⟩ : ∃ z, z = (fld5_lacking ((128 : Int32) ||| ((cp >>> ((12 : Int32) &&& 31)) &&& (63 : Int32))) (3 : Int32)) := ⟨_, rfl⟩
        rw [← hy899] at F884_lacking
        obtain ⟨y900, hy900⟩ : ∃ z, z = (fld5_given ((128 : Int32) ||| ((cp >>> ((12 : Int32) &&& 31)) &&& (63 : Int32))) (3 : Int32) (1 : Int32)) := ⟨_, rfl⟩
        rw [← hy900] at F884_given
        obtain ⟨y901, hy901⟩ : ∃ z, z = (fld5_malformed ((128 : Int32) ||| ((cp >>> ((12 : Int32) &&& 31)) &&& (63 : Int32))) y880 (3 : Int32) (1 : Int32) (0 : Int32)) := ⟨_, rfl⟩
        rw [← hy901] at F884_malformed
        have hI884 : oInv y899 y900 y901 := by rw [hy899, hy900, hy901]; exact own_inv_next y880 ((128 : Int32) ||| ((cp >>> ((12 : Int32) &&& 31)) &&& (63 : Int32))) hI866
        have X884 := o_flat X884 rfl rfl
        have hS1 := st_more (b := ((128 : Int32) ||| ((cp >>> ((12 : Int32) &&& 31)) &&& (63 : Int32)))) (i := 1) (len := 4) (cp := cp) (vl := v758) (c := y880) (k := (3 : Int32)) (g := (1 : Int32)) (k' := 2) (g' := 2) ⟨by omega, by omega⟩ (by omega) (by omega) (by decide) rfl rfl (by decide) (by decide) (by omega) (by omega)
        rw [← hy885, ← hy899, ← hy900, ← hy901, ← hy898] at hS1
        obtain ⟨q1, q2, q3, q4, hcc1⟩ := hS1
        subst q1 q2 q3 q4
        have hcn1 : y898.toInt = cp.toInt / 4096 := by rw [hcc1]; omega
        refine o_iand (pc' := 333) X884 hx (hb hby at_332)  rfl ?_
        rw [show ((1 : Int32) &&& (1 : Int32)) = (1 : Int32) from by decide]
        refine o_istore (pc' := 335) (l' := #[.val (.int x0), .val (.int x1), .val (.int x2), .val (.int x3), .val (.int (4 : Int32)), .val (.int cp), .val (.ref b718), .val (.int (65536 : Int32)), .val (.int v758), .val (.int (2 : Int32)), .val (.ref b852), .val (.int (1 : Int32)), .unset, .unset, .unset]) X884 hx (hb hby at_333) rfl rfl ?_
        refine o_iload (pc' := 337) X884 hx (hb hby at_335) rfl rfl ?_
        refine o_iconst (pc' := 338) (v := (2 : Int32)) X884 hx (hb hby at_337) rfl rfl ?_
        refine o_icmpT (pc' := 362) X884 hx (hb hby at_338) (XT.ii_le_t (by decide)) (by decide) (by decide) ?_
        refine o_iload (pc' := 364) X884 hx (hb hby at_362) rfl rfl ?_
        refine o_iconst (pc' := 365) (v := (3 : Int32)) X884 hx (hb hby at_364) rfl rfl ?_
        refine o_icmpT (pc' := 389) X884 hx (hb hby at_365) (XT.ii_le_t (by decide)) (by decide) (by decide) ?_
        refine o_iload (pc' := 391) X884 hx (hb hby at_389) rfl rfl ?_
        refine o_iload (pc' := 393) X884 hx (hb hby at_391) rfl rfl ?_
        refine o_icmpT (pc' := 400) X884 hx (hb hby at_393) (XT.ii_ne_t (by decide)) (by decide) (by decide) ?_
        refine o_iconst (pc' := 401) (v := (0 : Int32)) X884 hx (hb hby at_400) rfl rfl ?_
        refine o_istore (pc' := 403) (l' := #[.val (.int x0), .val (.int x1), .val (.int x2), .val (.int x3), .val (.int (4 : Int32)), .val (.int cp), .val (.ref b718), .val (.int (65536 : Int32)), .val (.int v758), .val (.int (2 : Int32)), .val (.ref b852), .val (.int (1 : Int32)), .val (.int (0 : Int32)), .unset, .unset]) X884 hx (hb hby at_401) rfl rfl ?_
        refine o_iload (pc' := 405) X884 hx (hb hby at_403) rfl rfl ?_
        refine o_aload (pc' := 407) X884 hx (hb hby at_405) rfl rfl rfl ?_
        obtain ⟨r902, T902, L902, X902, hq902, st902⟩ := o_callV X884 hx hZ hown (hw _ (List.mem_of_getElem? (i := 33) rfl)) (hw _ (List.mem_of_getElem? (i := 34) rfl)) (hw _ (List.mem_of_getElem? (i := 36) rfl)) (hw _ (List.mem_of_getElem? (i := 35) rfl)) (hw _ (List.mem_of_getElem? (i := 9) rfl)) (hw _ (List.mem_of_getElem? (i := 37) rfl)) (by decide) E884_ (rm6 l Z a0 hw b852 (2 : Int32) T884.heap n0 Z897 E884_ F884_given) (rfl : T884.heap = _) (pc' := 410) (Ls := #[.val (.int x0), .val (.int x1), .val (.int x2), .val (.int x3), .val (.int (4 : Int32)), .val (.int cp), .val (.ref b718), .val (.int (65536 : Int32)), .val (.int v758), .val (.int (2 : Int32)), .val (.ref b852), .val (.int (1 : Int32)), .val (.int (0 : Int32)), .unset, .unset]) (by rw [hml]; rfl) [] [(.int (1 : Int32))] rfl pd4 rfl rfl 1 (Nat.le_of_eq rfl) (hb hby at_407) rfl (by decide) (by decide) (by decide) (by decide)
        obtain ⟨rfl, rfl, Kc902⟩ := hq902
        refine oGo.step (f' := (mkF m 410 #[.val (.int x0), .val (.int x1), .val (.int x2), .val (.int x3), .val (.int (4 : Int32)), .val (.int cp), .val (.ref b718), .val (.int (65536 : Int32)), .val (.int v758), .val (.int (2 : Int32)), .val (.ref b852), .val (.int (1 : Int32)), .val (.int (0 : Int32)), .unset, .unset] [(.int (2 : Int32)), (.int (1 : Int32))])) st902 ?_
        have e902 : T902.heap = T884.heap := Kc902
        have X902 := o_same X902 rfl rfl
        refine o_iload (pc' := 412) X902 hx (hb hby at_410) rfl rfl ?_
        refine o_ifT (pc' := 419) X902 hx (hb hby at_412) (XT.i0_eq_t (by decide)) (by decide) (by decide) ?_
        refine o_iload (pc' := 421) X902 hx (hb hby at_419) rfl rfl ?_
        refine o_icmpF (pc' := 424) X902 hx (hb hby at_421) (XT.ii_ne_f (by decide)) rfl ?_
        refine o_iconst (pc' := 425) (v := (1 : Int32)) X902 hx (hb hby at_424) rfl rfl ?_
        refine o_goto (pc' := 429) X902 hx (hb hby at_425) (by decide) (by decide) ?_
        refine o_iand (pc' := 430) X902 hx (hb hby at_429)  rfl ?_
        rw [show ((1 : Int32) &&& (1 : Int32)) = (1 : Int32) from by decide]
        refine o_istore (pc' := 432) (l' := #[.val (.int x0), .val (.int x1), .val (.int x2), .val (.int x3), .val (.int (4 : Int32)), .val (.int cp), .val (.ref b718), .val (.int (65536 : Int32)), .val (.int v758), .val (.int (2 : Int32)), .val (.ref b852), .val (.int (1 : Int32)), .val (.int (0 : Int32)), .unset, .unset]) X902 hx (hb hby at_430) rfl rfl ?_
        refine o_iloadN (pc' := 433) X902 hx (hb hby at_432) rfl rfl ?_
        refine o_bipush (pc' := 435) (v := (8 : Int32)) X902 hx (hb hby at_433) rfl rfl ?_
        refine o_iushr (pc' := 436) X902 hx (hb hby at_435)  rfl ?_
        refine o_iconst (pc' := 437) (v := (1 : Int32)) X902 hx (hb hby at_436) rfl rfl ?_
        refine o_iand (pc' := 438) X902 hx (hb hby at_437)  rfl ?_
        by_cases c903 : ((XT.ushr x3 (8 : Int32)) &&& (1 : Int32)) = 0
        · refine o_ifT (pc' := 573) X902 hx (hb hby at_438) (XT.i0_eq_t c903) (by decide) (by decide) ?_
          refine o_iload (pc' := 575) X902 hx (hb hby at_573) rfl rfl ?_
          refine o_ifT (pc' := 587) X902 hx (hb hby at_575) (XT.i0_eq_t (by decide)) (by decide) (by decide) ?_
          refine o_iconst (pc' := 588) (v := (0 : Int32)) X902 hx (hb hby at_587) rfl rfl ?_
          refine o_istore (pc' := 590) (l' := #[.val (.int x0), .val (.int x1), .val (.int x2), .val (.int x3), .val (.int (4 : Int32)), .val (.int cp), .val (.ref b718), .val (.int (65536 : Int32)), .val (.int v758), .val (.int (2 : Int32)), .val (.ref b852), .val (.int (1 : Int32)), .val (.int (0 : Int32)), .val (.int (0 : Int32)), .unset]) X902 hx (hb hby at_588) rfl rfl ?_
          refine o_iload (pc' := 592) X902 hx (hb hby at_590) rfl rfl ?_
          refine o_aload (pc' := 594) X902 hx (hb hby at_592) rfl rfl rfl ?_
          obtain ⟨r904, T904, L904, X904, hq904, st904⟩ := o_callV X902 hx hZ hown (hw _ (List.mem_of_getElem? (i := 38) rfl)) (hw _ (List.mem_of_getElem? (i := 39) rfl)) (hw _ (List.mem_of_getElem? (i := 41) rfl)) (hw _ (List.mem_of_getElem? (i := 40) rfl)) (hw _ (List.mem_of_getElem? (i := 9) rfl)) (hw _ (List.mem_of_getElem? (i := 42) rfl)) (by decide) E884_ (rm7 l Z a0 hw b852 y898 (2 : Int32) (2 : Int32) (0 : Int32) T884.heap n0 Z897 E884_ F884_codePoint F884_lacking F884_given F884_malformed ge854) e902 (pc' := 597) (Ls := #[.val (.int x0), .val (.int x1), .val (.int x2), .val (.int x3), .val (.int (4 : Int32)), .val (.int cp), .val (.ref b718), .val (.int (65536 : Int32)), .val (.int v758), .val (.int (2 : Int32)), .val (.ref b852), .val (.int (1 : Int32)), .val (.int (0 : Int32)), .val (.int (0 : Int32)), .unset]) (by rw [hml]; rfl) [] [(.int (1 : Int32))] rfl pd5 rfl rfl 1 (Nat.le_of_eq rfl) (hb hby at_594) rfl (by decide) (by decide) (by decide) (by decide)
          obtain ⟨rfl, N904, Kc904, E904_, F904_codePoint, F904_lacking, F904_given, F904_malformed⟩ := hq904
          obtain ⟨y905, hy905⟩ : ∃ z, z = (spec7 (2 : Int32) (0 : Int32)) := ⟨_, rfl⟩
          rw [← hy905] at st904
          refine oGo.step (f' := (mkF m 597 #[.val (.int x0), .val (.int x1), .val (.int x2), .val (.int x3), .val (.int (4 : Int32)), .val (.int cp), .val (.ref b718), .val (.int (65536 : Int32)), .val (.int v758), .val (.int (2 : Int32)), .val (.ref b852), .val (.int (1 : Int32)), .val (.int (0 : Int32)), .val (.int (0 : Int32)), .unset] [(.int y905), (.int (1 : Int32))])) st904 ?_
          have N904_ := Fr.app N884_ N904
          have K906 := Kc904
          have F907 := F887.keep K906 (allS ge854 all0)
          have F910 := F890.keep K906 (ninS ne853 nin0)
          have F911 := E884_.keep K906
          have Z917 := Nat.le_trans Z897 K906.1
          have X904 := o_flat X904 rfl rfl
          have hE : y905 = (0 : Int32) := by rw [hy905]; rfl
          refine o_iload (pc' := 599) X904 hx (hb hby at_597) rfl rfl ?_
          refine o_icmpF (pc' := 602) X904 hx (hb hby at_599) (XT.ii_ne_f hE) rfl ?_
          refine o_iconst (pc' := 603) (v := (1 : Int32)) X904 hx (hb hby at_602) rfl rfl ?_
          refine o_goto (pc' := 607) X904 hx (hb hby at_603) (by decide) (by decide) ?_
          refine o_iand (pc' := 608) X904 hx (hb hby at_607)  rfl ?_
          rw [show ((1 : Int32) &&& (1 : Int32)) = (1 : Int32) from by decide]
          refine o_istore (pc' := 610) (l' := #[.val (.int x0), .val (.int x1), .val (.int x2), .val (.int x3), .val (.int (4 : Int32)), .val (.int cp), .val (.ref b718), .val (.int (65536 : Int32)), .val (.int v758), .val (.int (2 : Int32)), .val (.ref b852), .val (.int (1 : Int32)), .val (.int (0 : Int32)), .val (.int (0 : Int32)), .unset]) X904 hx (hb hby at_608) rfl rfl ?_
          refine o_iload (pc' := 612) X904 hx (hb hby at_610) rfl rfl ?_
          refine o_retZ X904 hx hret hlk (hb hby at_612) (by decide) (by decide) (by decide) ?_
          exact ⟨rfl, N904_⟩
        · refine o_ifF (pc' := 441) X902 hx (hb hby at_438) (XT.i0_eq_f c903) rfl ?_
          refine o_iloadN (pc' := 442) X902 hx (hb hby at_441) rfl rfl ?_
          refine o_sipush (pc' := 445) (v := (255 : Int32)) X902 hx (hb hby at_442) rfl rfl ?_
          refine o_iand (pc' := 446) X902 hx (hb hby at_445)  rfl ?_
          refine o_istore (pc' := 448) (l' := #[.val (.int x0), .val (.int x1), .val (.int x2), .val (.int x3), .val (.int (4 : Int32)), .val (.int cp), .val (.ref b718), .val (.int (65536 : Int32)), .val (.int v758), .val (.int (2 : Int32)), .val (.ref b852), .val (.int (1 : Int32)), .val (.int (0 : Int32)), .unset, .val (.int (x3 &&& (255 : Int32)))]) X902 hx (hb hby at_446) rfl rfl ?_
          refine o_iload (pc' := 450) X902 hx (hb hby at_448) rfl rfl ?_
          refine o_ifF (pc' := 453) X902 hx (hb hby at_450) (XT.i0_ne_f (by decide)) rfl ?_
          refine o_iload (pc' := 455) X902 hx (hb hby at_453) rfl rfl ?_
          refine o_sipush (pc' := 458) (v := (192 : Int32)) X902 hx (hb hby at_455) rfl rfl ?_
          refine o_iand (pc' := 459) X902 hx (hb hby at_458)  rfl ?_
          refine o_sipush (pc' := 462) (v := (128 : Int32)) X902 hx (hb hby at_459) rfl rfl ?_
          have J919 : ∀ (v920 : Int32), v920 = (if ((x3 &&& (255 : Int32)) &&& (192 : Int32)) = (128 : Int32) then ((x3 &&& (255 : Int32)) ^^^ (64 : Int32)) else (x3 &&& (255 : Int32))) → oGo p e below (oG s (fun v h L => v = some (.int 1) ∧ Fr n0 L) room_1.cells room_1.slots) T902 (mkF m 472 #[.val (.int x0), .val (.int x1), .val (.int x2), .val (.int x3), .val (.int (4 : Int32)), .val (.int cp), .val (.ref b718), .val (.int (65536 : Int32)), .val (.int v758), .val (.int (2 : Int32)), .val (.ref b852), .val (.int (1 : Int32)), .val (.int (0 : Int32)), .unset, .val (.int v920)] []) := by
            intro v920 hv920
            refine o_iload (pc' := 474) X902 hx (hb hby at_472) rfl rfl ?_
            refine o_aload (pc' := 476) X902 hx (hb hby at_474) rfl rfl rfl ?_
            refine o_iload (pc' := 478) X902 hx (hb hby at_476) rfl rfl ?_
            have htB := own_tx (own_m255 x3) hv920
            obtain ⟨r921, T921, L921, X921, hq921, st921⟩ := o_callV X902 hx hZ hown (hw _ (List.mem_of_getElem? (i := 20) rfl)) (hw _ (List.mem_of_getElem? (i := 21) rfl)) (hw _ (List.mem_of_getElem? (i := 23) rfl)) (hw _ (List.mem_of_getElem? (i := 22) rfl)) (hw _ (List.mem_of_getElem? (i := 9) rfl)) (hw _ (List.mem_of_getElem? (i := 24) rfl)) (by decide) E884_ (rm5 l Z a0 hw b852 v920 y898 (2 : Int32) (2 : Int32) (0 : Int32) r_LEAST T884.heap n0 Z897 E884_ F884_codePoint F884_lacking F884_given F884_malformed ge854 hI884 F887 S_LEAST A_LEAST) e902 (pc' := 481) (Ls := #[.val (.int x0), .val (.int x1), .val (.int x2), .val (.int x3), .val (.int (4 : Int32)), .val (.int cp), .val (.ref b718), .val (.int (65536 : Int32)), .val (.int v758), .val (.int (2 : Int32)), .val (.ref b852), .val (.int (1 : Int32)), .val (.int (0 : Int32)), .unset, .val (.int v920)]) (by rw [hml]; rfl) [(.int v920)] [(.int (1 : Int32))] rfl pd0 rfl rfl 1 (Nat.le_of_eq rfl) (hb hby at_478) rfl (by decide) (by decide) (by decide) (by decide)
            obtain ⟨rfl, N921, Kc921, E921_, F921_codePoint, F921_lacking, F921_given, F921_malformed⟩ := hq921
            obtain ⟨y922, hy922⟩ : ∃ z, z = (spec5 v920 y898 (2 : Int32) (2 : Int32)) := ⟨_, rfl⟩
            rw [← hy922] at st921
            refine oGo.step (f' := (mkF m 481 #[.val (.int x0), .val (.int x1), .val (.int x2), .val (.int x3), .val (.int (4 : Int32)), .val (.int cp), .val (.ref b718), .val (.int (65536 : Int32)), .val (.int v758), .val (.int (2 : Int32)), .val (.ref b852), .val (.int (1 : Int32)), .val (.int (0 : Int32)), .unset, .val (.int v920)] [(.int y922), (.int (1 : Int32))])) st921 ?_
            have N921_ := Fr.app N884_ N921
            have K923 := Kc921
            have F924 := F887.keep K923 (allS ge854 all0)
            have F927 := F890.keep K923 (ninS ne853 nin0)
            have F928 := E884_.keep K923
            have Z934 := Nat.le_trans Z897 K923.1
            obtain ⟨y935, hy935⟩ : ∃ z, z = (fld5_codePoint v920 y898 (2 : Int32)) := ⟨_, rfl⟩
            rw [← hy935] at F921_codePoint
            obtain ⟨y936, hy936⟩ : ∃ z, z = (fld5_lacking v920 (2 : Int32)) := ⟨_, rfl⟩
            rw [← hy936] at F921_lacking
            obtain ⟨y937, hy937⟩ : ∃ z, z = (fld5_given v920 (2 : Int32) (2 : Int32)) := ⟨_, rfl⟩
            rw [← hy937] at F921_given
            obtain ⟨y938, hy938⟩ : ∃ z, z = (fld5_malformed v920 y898 (2 : Int32) (2 : Int32) (0 : Int32)) := ⟨_, rfl⟩
            rw [← hy938] at F921_malformed
            have hI921 : oInv y936 y937 y938 := by rw [hy936, hy937, hy938]; exact own_inv_next y898 v920 hI884
            have X921 := o_flat X921 rfl rfl
            have hA := nx_any (t := v920) (cp := y898) (k := (2 : Int32)) (g := (2 : Int32)) (z := (0 : Int32)) nz01 (Or.inr ⟨by decide, htB.2⟩)
            rw [← hy922, ← hy937] at hA
            refine o_iload (pc' := 483) X921 hx (hb hby at_481) rfl rfl ?_
            refine o_sipush (pc' := 486) (v := (128 : Int32)) X921 hx (hb hby at_483) rfl rfl ?_
            have J940 : ∀ (v941 : Int32), v941 = (if v920 < (128 : Int32) then v920 else (-1 : Int32)) → oGo p e below (oG s (fun v h L => v = some (.int 1) ∧ Fr n0 L) room_1.cells room_1.slots) T921 (mkF m 495 #[.val (.int x0), .val (.int x1), .val (.int x2), .val (.int x3), .val (.int (4 : Int32)), .val (.int cp), .val (.ref b718), .val (.int (65536 : Int32)), .val (.int v758), .val (.int (2 : Int32)), .val (.ref b852), .val (.int (1 : Int32)), .val (.int (0 : Int32)), .unset, .val (.int v920)] [(.int v941), (.int y922), (.int (1 : Int32))]) := by
              intro v941 hv941
              refine o_icmpF (pc' := 498) X921 hx (hb hby at_495) (XT.ii_ne_f (hA.1.trans hv941.symm)) rfl ?_
              refine o_iconst (pc' := 499) (v := (1 : Int32)) X921 hx (hb hby at_498) rfl rfl ?_
              refine o_goto (pc' := 503) X921 hx (hb hby at_499) (by decide) (by decide) ?_
              refine o_iand (pc' := 504) X921 hx (hb hby at_503)  rfl ?_
              rw [show ((1 : Int32) &&& (1 : Int32)) = (1 : Int32) from by decide]
              refine o_istore (pc' := 506) (l' := #[.val (.int x0), .val (.int x1), .val (.int x2), .val (.int x3), .val (.int (4 : Int32)), .val (.int cp), .val (.ref b718), .val (.int (65536 : Int32)), .val (.int v758), .val (.int (2 : Int32)), .val (.ref b852), .val (.int (1 : Int32)), .val (.int (0 : Int32)), .unset, .val (.int v920)]) X921 hx (hb hby at_504) rfl rfl ?_
              refine o_iload (pc' := 508) X921 hx (hb hby at_506) rfl rfl ?_
              refine o_aload (pc' := 510) X921 hx (hb hby at_508) rfl rfl rfl ?_
              obtain ⟨r942, T942, L942, X942, hq942, st942⟩ := o_callV X921 hx hZ hown (hw _ (List.mem_of_getElem? (i := 33) rfl)) (hw _ (List.mem_of_getElem? (i := 34) rfl)) (hw _ (List.mem_of_getElem? (i := 36) rfl)) (hw _ (List.mem_of_getElem? (i := 35) rfl)) (hw _ (List.mem_of_getElem? (i := 9) rfl)) (hw _ (List.mem_of_getElem? (i := 37) rfl)) (by decide) E921_ (rm6 l Z a0 hw b852 y937 T921.heap n0 Z934 E921_ F921_given) (rfl : T921.heap = _) (pc' := 513) (Ls := #[.val (.int x0), .val (.int x1), .val (.int x2), .val (.int x3), .val (.int (4 : Int32)), .val (.int cp), .val (.ref b718), .val (.int (65536 : Int32)), .val (.int v758), .val (.int (2 : Int32)), .val (.ref b852), .val (.int (1 : Int32)), .val (.int (0 : Int32)), .unset, .val (.int v920)]) (by rw [hml]; rfl) [] [(.int (1 : Int32))] rfl pd4 rfl rfl 1 (Nat.le_of_eq rfl) (hb hby at_510) rfl (by decide) (by decide) (by decide) (by decide)
              obtain ⟨rfl, rfl, Kc942⟩ := hq942
              refine oGo.step (f' := (mkF m 513 #[.val (.int x0), .val (.int x1), .val (.int x2), .val (.int x3), .val (.int (4 : Int32)), .val (.int cp), .val (.ref b718), .val (.int (65536 : Int32)), .val (.int v758), .val (.int (2 : Int32)), .val (.ref b852), .val (.int (1 : Int32)), .val (.int (0 : Int32)), .unset, .val (.int v920)] [(.int y937), (.int (1 : Int32))])) st942 ?_
              have e942 : T942.heap = T921.heap := Kc942
              have X942 := o_same X942 rfl rfl
              refine o_iload (pc' := 515) X942 hx (hb hby at_513) rfl rfl ?_
              refine o_sipush (pc' := 518) (v := (192 : Int32)) X942 hx (hb hby at_515) rfl rfl ?_
              have J944 : ∀ (v946 : Int32), v946 = (if v920 < (192 : Int32) then (0 : Int32) else (if (247 : Int32) < v920 then (0 : Int32) else (1 : Int32))) → oGo p e below (oG s (fun v h L => v = some (.int 1) ∧ Fr n0 L) room_1.cells room_1.slots) T942 (mkF m 534 #[.val (.int x0), .val (.int x1), .val (.int x2), .val (.int x3), .val (.int (4 : Int32)), .val (.int cp), .val (.ref b718), .val (.int (65536 : Int32)), .val (.int v758), .val (.int (2 : Int32)), .val (.ref b852), .val (.int (1 : Int32)), .val (.int (0 : Int32)), .unset, .val (.int v920)] [(.int v946), (.int y937), (.int (1 : Int32))]) := by
                intro v946 hv946
                refine o_icmpF (pc' := 537) X942 hx (hb hby at_534) (XT.ii_ne_f (hA.2.trans hv946.symm)) rfl ?_
                refine o_iconst (pc' := 538) (v := (1 : Int32)) X942 hx (hb hby at_537) rfl rfl ?_
                refine o_goto (pc' := 542) X942 hx (hb hby at_538) (by decide) (by decide) ?_
                refine o_iand (pc' := 543) X942 hx (hb hby at_542)  rfl ?_
                rw [show ((1 : Int32) &&& (1 : Int32)) = (1 : Int32) from by decide]
                refine o_istore (pc' := 545) (l' := #[.val (.int x0), .val (.int x1), .val (.int x2), .val (.int x3), .val (.int (4 : Int32)), .val (.int cp), .val (.ref b718), .val (.int (65536 : Int32)), .val (.int v758), .val (.int (2 : Int32)), .val (.ref b852), .val (.int (1 : Int32)), .val (.int (0 : Int32)), .unset, .val (.int v920)]) X942 hx (hb hby at_543) rfl rfl ?_
                refine o_iload (pc' := 547) X942 hx (hb hby at_545) rfl rfl ?_
                refine o_ifT (pc' := 567) X942 hx (hb hby at_547) (XT.i0_eq_t (by decide)) (by decide) (by decide) ?_
                refine o_iconst (pc' := 568) (v := (0 : Int32)) X942 hx (hb hby at_567) rfl rfl ?_
                refine o_istore (pc' := 570) (l' := #[.val (.int x0), .val (.int x1), .val (.int x2), .val (.int x3), .val (.int (4 : Int32)), .val (.int cp), .val (.ref b718), .val (.int (65536 : Int32)), .val (.int v758), .val (.int (2 : Int32)), .val (.ref b852), .val (.int (1 : Int32)), .val (.int (0 : Int32)), .val (.int (0 : Int32)), .val (.int v920)]) X942 hx (hb hby at_568) rfl rfl ?_
                refine o_goto (pc' := 590) X942 hx (hb hby at_570) (by decide) (by decide) ?_
                refine o_iload (pc' := 592) X942 hx (hb hby at_590) rfl rfl ?_
                refine o_aload (pc' := 594) X942 hx (hb hby at_592) rfl rfl rfl ?_
                obtain ⟨r947, T947, L947, X947, hq947, st947⟩ := o_callV X942 hx hZ hown (hw _ (List.mem_of_getElem? (i := 38) rfl)) (hw _ (List.mem_of_getElem? (i := 39) rfl)) (hw _ (List.mem_of_getElem? (i := 41) rfl)) (hw _ (List.mem_of_getElem? (i := 40) rfl)) (hw _ (List.mem_of_getElem? (i := 9) rfl)) (hw _ (List.mem_of_getElem? (i := 42) rfl)) (by decide) E921_ (rm7 l Z a0 hw b852 y935 y936 y937 y938 T921.heap n0 Z934 E921_ F921_codePoint F921_lacking F921_given F921_malformed ge854) e942 (pc' := 597) (Ls := #[.val (.int x0), .val (.int x1), .val (.int x2), .val (.int x3), .val (.int (4 : Int32)), .val (.int cp), .val (.ref b718), .val (.int (65536 : Int32)), .val (.int v758), .val (.int (2 : Int32)), .val (.ref b852), .val (.int (1 : Int32)), .val (.int (0 : Int32)), .val (.int (0 : Int32)), .val (.int v920)]) (by rw [hml]; rfl) [] [(.int (1 : Int32))] rfl pd5 rfl rfl 1 (Nat.le_of_eq rfl) (hb hby at_594) rfl (by decide) (by decide) (by decide) (by decide)
                obtain ⟨rfl, N947, Kc947, E947_, F947_codePoint, F947_lacking, F947_given, F947_malformed⟩ := hq947
                obtain ⟨y948, hy948⟩ : ∃ z, z = (spec7 y936 y938) := ⟨_, rfl⟩
                rw [← hy948] at st947
                refine oGo.step (f' := (mkF m 597 #[.val (.int x0), .val (.int x1), .val (.int x2), .val (.int x3), .val (.int (4 : Int32)), .val (.int cp), .val (.ref b718), .val (.int (65536 : Int32)), .val (.int v758), .val (.int (2 : Int32)), .val (.ref b852), .val (.int (1 : Int32)), .val (.int (0 : Int32)), .val (.int (0 : Int32)), .val (.int v920)] [(.int y948), (.int (1 : Int32))])) st947 ?_
                have N947_ := Fr.app N921_ N947
                have K949 := Kc947
                have F950 := F924.keep K949 (allS ge854 all0)
                have F953 := F927.keep K949 (ninS ne853 nin0)
                have F954 := E921_.keep K949
                have Z960 := Nat.le_trans Z934 K949.1
                have X947 := o_flat X947 rfl rfl
                have hE : y948 = (0 : Int32) := by rw [hy948, hy936, hy938]; exact end_cut (by decide) htB.2
                refine o_iload (pc' := 599) X947 hx (hb hby at_597) rfl rfl ?_
                refine o_icmpF (pc' := 602) X947 hx (hb hby at_599) (XT.ii_ne_f hE) rfl ?_
                refine o_iconst (pc' := 603) (v := (1 : Int32)) X947 hx (hb hby at_602) rfl rfl ?_
                refine o_goto (pc' := 607) X947 hx (hb hby at_603) (by decide) (by decide) ?_
                refine o_iand (pc' := 608) X947 hx (hb hby at_607)  rfl ?_
                rw [show ((1 : Int32) &&& (1 : Int32)) = (1 : Int32) from by decide]
                refine o_istore (pc' := 610) (l' := #[.val (.int x0), .val (.int x1), .val (.int x2), .val (.int x3), .val (.int (4 : Int32)), .val (.int cp), .val (.ref b718), .val (.int (65536 : Int32)), .val (.int v758), .val (.int (2 : Int32)), .val (.ref b852), .val (.int (1 : Int32)), .val (.int (0 : Int32)), .val (.int (0 : Int32)), .val (.int v920)]) X947 hx (hb hby at_608) rfl rfl ?_
                refine o_iload (pc' := 612) X947 hx (hb hby at_610) rfl rfl ?_
                refine o_retZ X947 hx hret hlk (hb hby at_612) (by decide) (by decide) (by decide) ?_
                exact ⟨rfl, N947_⟩
              by_cases c943 : v920 < (192 : Int32)
              · refine o_icmpT (pc' := 533) X942 hx (hb hby at_518) (XT.ii_lt_t c943) (by decide) (by decide) ?_
                refine o_iconst (pc' := 534) (v := (0 : Int32)) X942 hx (hb hby at_533) rfl rfl ?_
                exact J944 _ (if_pos c943).symm
              · refine o_icmpF (pc' := 521) X942 hx (hb hby at_518) (XT.ii_lt_f c943) rfl ?_
                refine o_iload (pc' := 523) X942 hx (hb hby at_521) rfl rfl ?_
                refine o_sipush (pc' := 526) (v := (247 : Int32)) X942 hx (hb hby at_523) rfl rfl ?_
                by_cases c945 : (247 : Int32) < v920
                · refine o_icmpT (pc' := 533) X942 hx (hb hby at_526) (XT.ii_gt_t c945) (by decide) (by decide) ?_
                  refine o_iconst (pc' := 534) (v := (0 : Int32)) X942 hx (hb hby at_533) rfl rfl ?_
                  exact J944 _ ((if_neg c943).trans (if_pos c945)).symm
                · refine o_icmpF (pc' := 529) X942 hx (hb hby at_526) (XT.ii_gt_f c945) rfl ?_
                  refine o_iconst (pc' := 530) (v := (1 : Int32)) X942 hx (hb hby at_529) rfl rfl ?_
                  refine o_goto (pc' := 534) X942 hx (hb hby at_530) (by decide) (by decide) ?_
                  exact J944 _ ((if_neg c943).trans (if_neg c945)).symm
            by_cases c939 : v920 < (128 : Int32)
            · refine o_icmpF (pc' := 489) X921 hx (hb hby at_486) (XT.ii_ge_f c939) rfl ?_
              refine o_iload (pc' := 491) X921 hx (hb hby at_489) rfl rfl ?_
              refine o_goto (pc' := 495) X921 hx (hb hby at_491) (by decide) (by decide) ?_
              exact J940 _ (if_pos c939).symm
            · refine o_icmpT (pc' := 494) X921 hx (hb hby at_486) (XT.ii_ge_t c939) (by decide) (by decide) ?_
              refine o_iconst (pc' := 495) (v := (-1 : Int32)) X921 hx (hb hby at_494) rfl rfl ?_
              exact J940 _ (if_neg c939).symm
          by_cases c918 : ((x3 &&& (255 : Int32)) &&& (192 : Int32)) = (128 : Int32)
          · refine o_icmpF (pc' := 465) X902 hx (hb hby at_462) (XT.ii_ne_f c918) rfl ?_
            refine o_iload (pc' := 467) X902 hx (hb hby at_465) rfl rfl ?_
            refine o_bipush (pc' := 469) (v := (64 : Int32)) X902 hx (hb hby at_467) rfl rfl ?_
            refine o_ixor (pc' := 470) X902 hx (hb hby at_469)  rfl ?_
            refine o_istore (pc' := 472) (l' := #[.val (.int x0), .val (.int x1), .val (.int x2), .val (.int x3), .val (.int (4 : Int32)), .val (.int cp), .val (.ref b718), .val (.int (65536 : Int32)), .val (.int v758), .val (.int (2 : Int32)), .val (.ref b852), .val (.int (1 : Int32)), .val (.int (0 : Int32)), .unset, .val (.int ((x3 &&& (255 : Int32)) ^^^ (64 : Int32)))]) X902 hx (hb hby at_470) rfl rfl ?_
            exact J919 _ (if_pos c918).symm
          · refine o_icmpT (pc' := 472) X902 hx (hb hby at_462) (XT.ii_ne_t c918) (by decide) (by decide) ?_
            exact J919 _ (if_neg c918).symm
      · obtain ⟨T961, h961_, X961, e961, E961, A961, D961, -, st961⟩ := newO X759 hx hZ hown (hw _ (List.mem_of_getElem? (i := 7) rfl)) (hw _ (List.mem_of_getElem? (i := 8) rfl)) (hw _ (List.mem_of_getElem? (i := 9) rfl)) e759 (g := (mkF m 281 #[.val (.int x0), .val (.int x1), .val (.int x2), .val (.int x3), .val (.int (4 : Int32)), .val (.int cp), .val (.ref b718), .val (.int (65536 : Int32)), .val (.int v758), .val (.int (3 : Int32)), .unset, .unset, .unset, .unset, .unset] [])) rfl (hb hby at_281) (by decide) (by decide)
        obtain ⟨b961, g961⟩ : ∃ z, z = h746_.size := ⟨_, rfl⟩
        rw [← g961] at A961 D961 st961
        have ne962 : b718 ≠ b961 := by rw [g961]; exact Nat.ne_of_lt F747.lt
        have ge963 : n0 ≤ b961 := by rw [g961]; exact Z752
        have K964 := (Keep.refl h746_ []).ext E961
        have F965 := F749.keep K964 all0
        have F968 := F747.keep K964 nin0
        have Z969 := Nat.le_trans Z752 K964.1
        have F970 : Fld Z h961_ b961 "com/example/harborlog/harborlog/Utf8Decoder" "lacking" "I" (.int (0 : Int32)) := D961 (Or.inl (hw _ (List.mem_of_getElem? (i := 26) rfl))) (ty := .int) (by decide)
        have F971 : Fld Z h961_ b961 "com/example/harborlog/harborlog/Utf8Decoder" "malformed" "Z" (.int (0 : Int32)) := D961 (Or.inl (hw _ (List.mem_of_getElem? (i := 28) rfl))) (ty := .boolean) (by decide)
        have F972 : Fld Z h961_ b961 "com/example/harborlog/harborlog/Utf8Decoder" "given" "I" (.int (0 : Int32)) := D961 (Or.inl (hw _ (List.mem_of_getElem? (i := 30) rfl))) (ty := .int) (by decide)
        have F973 : Fld Z h961_ b961 "com/example/harborlog/harborlog/Utf8Decoder" "codePoint" "I" (.int (0 : Int32)) := D961 (Or.inl (hw _ (List.mem_of_getElem? (i := 32) rfl))) (ty := .int) (by decide)
        refine oGo.step (f' := (mkF m 284 #[.val (.int x0), .val (.int x1), .val (.int x2), .val (.int x3), .val (.int (4 : Int32)), .val (.int cp), .val (.ref b718), .val (.int (65536 : Int32)), .val (.int v758), .val (.int (3 : Int32)), .unset, .unset, .unset, .unset, .unset] [(.ref b961)])) st961 ?_
        refine o_dup (pc' := 285) X961 hx (hb hby at_284) rfl rfl ?_
        obtain ⟨r974, T974, L974, X974, hq974, st974⟩ := o_callN X961 hx hZ hown rfl (hw _ (List.mem_of_getElem? (i := 10) rfl)) (hw _ (List.mem_of_getElem? (i := 11) rfl)) (hw _ (List.mem_of_getElem? (i := 9) rfl)) (hw _ (List.mem_of_getElem? (i := 12) rfl)) (by decide) (rm2 l Z a0 hw b961 h961_ n0 Z969 ) e961 (pc' := 288) (Ls := #[.val (.int x0), .val (.int x1), .val (.int x2), .val (.int x3), .val (.int (4 : Int32)), .val (.int cp), .val (.ref b718), .val (.int (65536 : Int32)), .val (.int v758), .val (.int (3 : Int32)), .unset, .unset, .unset, .unset, .unset]) (by rw [hml]; rfl) [] [(.ref b961)] rfl pd2 rfl rfl 1 (Nat.le_of_eq rfl) (hb hby at_285) rfl (by decide) (by decide) (by decide) (by decide)
        obtain ⟨rfl, rfl, Kc974⟩ := hq974
        refine oGo.step (f' := (mkF m 288 #[.val (.int x0), .val (.int x1), .val (.int x2), .val (.int x3), .val (.int (4 : Int32)), .val (.int cp), .val (.ref b718), .val (.int (65536 : Int32)), .val (.int v758), .val (.int (3 : Int32)), .unset, .unset, .unset, .unset, .unset] [(.ref b961)])) st974 ?_
        have e974 : T974.heap = h961_ := Kc974
        have X974 := o_same X974 rfl rfl
        refine o_astore (pc' := 290) (l' := #[.val (.int x0), .val (.int x1), .val (.int x2), .val (.int x3), .val (.int (4 : Int32)), .val (.int cp), .val (.ref b718), .val (.int (65536 : Int32)), .val (.int v758), .val (.int (3 : Int32)), .val (.ref b961), .unset, .unset, .unset, .unset]) X974 hx (hb hby at_288) rfl rfl rfl ?_
        have eb0 : (((240 : Int32) ||| (cp >>> ((18 : Int32) &&& 31)))).toInt = 240 + cp.toInt / 262144 := own_hd (K := 240) 18 18 (by decide) hc0 (j := 3) (by decide) 8 (by decide) (by decide) (by decide) (by decide) (by omega) (by decide)
        have es1 := own_shr (cp := cp) 12 12 (by decide)
        have eb1 : (((128 : Int32) ||| ((cp >>> ((12 : Int32) &&& 31)) &&& (63 : Int32)))).toInt = 128 + cp.toInt / 4096 % 64 := by rw [own_tl (by omega), es1]; omega
        have es2 := own_shr (cp := cp) 6 6 (by decide)
        have eb2 : (((128 : Int32) ||| ((cp >>> ((6 : Int32) &&& 31)) &&& (63 : Int32)))).toInt = 128 + cp.toInt / 64 % 64 := by rw [own_tl (by omega), es2]; omega
        have eb3 : (((128 : Int32) ||| (cp &&& (63 : Int32)))).toInt = 128 + cp.toInt % 64 := own_tl hc0
        refine o_aload (pc' := 292) X974 hx (hb hby at_290) rfl rfl rfl ?_
        refine o_aload (pc' := 294) X974 hx (hb hby at_292) rfl rfl rfl ?_
        refine o_iconst (pc' := 295) (v := (0 : Int32)) X974 hx (hb hby at_294) rfl rfl ?_
        refine o_iaload (pc' := 296) (v := ((240 : Int32) ||| (cp >>> ((18 : Int32) &&& 31)))) X974 hx hZ e974 F968 (hb hby at_295) (by decide) rfl rfl ?_
        refine o_iconst (pc' := 297) (v := (0 : Int32)) X974 hx (hb hby at_296) rfl rfl ?_
        refine o_iload (pc' := 299) X974 hx (hb hby at_297) rfl rfl ?_
        refine o_iload (pc' := 301) X974 hx (hb hby at_299) rfl rfl ?_
        refine o_iload (pc' := 303) X974 hx (hb hby at_301) rfl rfl ?_
        obtain ⟨r975, T975, L975, X975, hq975, st975⟩ := o_callS X974 hx hZ hown (hw _ (List.mem_of_getElem? (i := 16) rfl)) (hw _ (List.mem_of_getElem? (i := 17) rfl)) (hw _ (List.mem_of_getElem? (i := 18) rfl)) (hw _ (List.mem_of_getElem? (i := 19) rfl)) (by decide) (rm4 l Z a0 hw b961 ((240 : Int32) ||| (cp >>> ((18 : Int32) &&& 31))) (0 : Int32) (4 : Int32) cp v758 (0 : Int32) (0 : Int32) (0 : Int32) (0 : Int32) r_LEAST h961_ n0 Z969 A961 F973 F970 F972 F971 ge963 own_inv0 F965 S_LEAST A_LEAST) e974 (pc' := 306) (Ls := #[.val (.int x0), .val (.int x1), .val (.int x2), .val (.int x3), .val (.int (4 : Int32)), .val (.int cp), .val (.ref b718), .val (.int (65536 : Int32)), .val (.int v758), .val (.int (3 : Int32)), .val (.ref b961), .unset, .unset, .unset, .unset]) (by rw [hml]; rfl) [(.ref b961), (.int ((240 : Int32) ||| (cp >>> ((18 : Int32) &&& 31)))), (.int (0 : Int32)), (.int (4 : Int32)), (.int cp), (.int v758)] [] rfl pd3 rfl rfl 0 (Nat.le_of_eq rfl) (hb hby at_303) rfl (by decide) (by decide) (by decide) (by decide)
        obtain ⟨rfl, N975, Kc975, E975_, F975_codePoint, F975_lacking, F975_given, F975_malformed⟩ := hq975
        obtain ⟨y976, hy976⟩ : ∃ z, z = (spec4 ((240 : Int32) ||| (cp >>> ((18 : Int32) &&& 31))) (0 : Int32) (4 : Int32) cp v758 (0 : Int32) (0 : Int32) (0 : Int32)) := ⟨_, rfl⟩
        rw [← hy976] at st975
        refine oGo.step (f' := (mkF m 306 #[.val (.int x0), .val (.int x1), .val (.int x2), .val (.int x3), .val (.int (4 : Int32)), .val (.int cp), .val (.ref b718), .val (.int (65536 : Int32)), .val (.int v758), .val (.int (3 : Int32)), .val (.ref b961), .unset, .unset, .unset, .unset] [(.int y976)])) st975 ?_
        have N975_ := Fr.app N746 N975
        have K977 := Kc975
        have F978 := F965.keep K977 (allS ge963 all0)
        have F981 := F968.keep K977 (ninS ne962 nin0)
        have F982 := A961.keep K977
        have Z988 := Nat.le_trans Z969 K977.1
        obtain ⟨y989, hy989⟩ : ∃ z, z = (fld5_codePoint ((240 : Int32) ||| (cp >>> ((18 : Int32) &&& 31))) (0 : Int32) (0 : Int32)) := ⟨_, rfl⟩
        rw [← hy989] at F975_codePoint
        obtain ⟨y990, hy990⟩ : ∃ z, z = (fld5_lacking ((240 : Int32) ||| (cp >>> ((18 : Int32) &&& 31))) (0 : Int32)) := ⟨_, rfl⟩
        rw [← hy990] at F975_lacking
        obtain ⟨y991, hy991⟩ : ∃ z, z = (fld5_given ((240 : Int32) ||| (cp >>> ((18 : Int32) &&& 31))) (0 : Int32) (0 : Int32)) := ⟨_, rfl⟩
        rw [← hy991] at F975_given
        obtain ⟨y992, hy992⟩ : ∃ z, z = (fld5_malformed ((240 : Int32) ||| (cp >>> ((18 : Int32) &&& 31))) (0 : Int32) (0 : Int32) (0 : Int32) (0 : Int32)) := ⟨_, rfl⟩
        rw [← hy992] at F975_malformed
        have hI975 : oInv y990 y991 y992 := by rw [hy990, hy991, hy992]; exact own_inv_next (0 : Int32) ((240 : Int32) ||| (cp >>> ((18 : Int32) &&& 31))) own_inv0
        have X975 := o_flat X975 rfl rfl
        have hS0 := st_lead (b := ((240 : Int32) ||| (cp >>> ((18 : Int32) &&& 31)))) (i := 0) (len := 4) (cp := cp) (vl := v758) (k := 3) (by omega) (by omega) (own_top3 (by omega)) (by decide)
        rw [← hy976, ← hy990, ← hy991, ← hy992, ← hy989] at hS0
        obtain ⟨q1, q2, q3, q4, hcc0⟩ := hS0
        subst q1 q2 q3 q4
        have hcn0 : y989.toInt = cp.toInt / 262144 := by rw [hcc0]; have m := (own_byte (x := ((240 : Int32) ||| (cp >>> ((18 : Int32) &&& 31)))) ⟨by omega, by omega⟩).2.2.2.2; rw [show ((63 : Int32) >>> ((3 : Int32) &&& 31)) = 7 from by decide]; omega
        refine o_istore (pc' := 308) (l' := #[.val (.int x0), .val (.int x1), .val (.int x2), .val (.int x3), .val (.int (4 : Int32)), .val (.int cp), .val (.ref b718), .val (.int (65536 : Int32)), .val (.int v758), .val (.int (3 : Int32)), .val (.ref b961), .val (.int (1 : Int32)), .unset, .unset, .unset]) X975 hx (hb hby at_306) rfl rfl ?_
        refine o_iload (pc' := 310) X975 hx (hb hby at_308) rfl rfl ?_
        refine o_iconst (pc' := 311) (v := (1 : Int32)) X975 hx (hb hby at_310) rfl rfl ?_
        refine o_icmpF (pc' := 314) X975 hx (hb hby at_311) (XT.ii_le_f (by decide)) rfl ?_
        refine o_iload (pc' := 316) X975 hx (hb hby at_314) rfl rfl ?_
        refine o_aload (pc' := 318) X975 hx (hb hby at_316) rfl rfl rfl ?_
        refine o_aload (pc' := 320) X975 hx (hb hby at_318) rfl rfl rfl ?_
        refine o_iconst (pc' := 321) (v := (1 : Int32)) X975 hx (hb hby at_320) rfl rfl ?_
        refine o_iaload (pc' := 322) (v := ((128 : Int32) ||| ((cp >>> ((12 : Int32) &&& 31)) &&& (63 : Int32)))) X975 hx hZ (rfl : T975.heap = _) F981 (hb hby at_321) (by decide) rfl rfl ?_
        refine o_iconst (pc' := 323) (v := (1 : Int32)) X975 hx (hb hby at_322) rfl rfl ?_
        refine o_iload (pc' := 325) X975 hx (hb hby at_323) rfl rfl ?_
        refine o_iload (pc' := 327) X975 hx (hb hby at_325) rfl rfl ?_
        refine o_iload (pc' := 329) X975 hx (hb hby at_327) rfl rfl ?_
        obtain ⟨r993, T993, L993, X993, hq993, st993⟩ := o_callS X975 hx hZ hown (hw _ (List.mem_of_getElem? (i := 16) rfl)) (hw _ (List.mem_of_getElem? (i := 17) rfl)) (hw _ (List.mem_of_getElem? (i := 18) rfl)) (hw _ (List.mem_of_getElem? (i := 19) rfl)) (by decide) (rm4 l Z a0 hw b961 ((128 : Int32) ||| ((cp >>> ((12 : Int32) &&& 31)) &&& (63 : Int32))) (1 : Int32) (4 : Int32) cp v758 y989 (3 : Int32) (1 : Int32) (0 : Int32) r_LEAST T975.heap n0 Z988 E975_ F975_codePoint F975_lacking F975_given F975_malformed ge963 hI975 F978 S_LEAST A_LEAST) (rfl : T975.heap = _) (pc' := 332) (Ls := #[.val (.int x0), .val (.int x1), .val (.int x2), .val (.int x3), .val (.int (4 : Int32)), .val (.int cp), .val (.ref b718), .val (.int (65536 : Int32)), .val (.int v758), .val (.int (3 : Int32)), .val (.ref b961), .val (.int (1 : Int32)), .unset, .unset, .unset]) (by rw [hml]; rfl) [(.ref b961), (.int ((128 : Int32) ||| ((cp >>> ((12 : Int32) &&& 31)) &&& (63 : Int32)))), (.int (1 : Int32)), (.int (4 : Int32)), (.int cp), (.int v758)] [(.int (1 : Int32))] rfl pd3 rfl rfl 1 (Nat.le_of_eq rfl) (hb hby at_329) rfl (by decide) (by decide) (by decide) (by decide)
        obtain ⟨rfl, N993, Kc993, E993_, F993_codePoint, F993_lacking, F993_given, F993_malformed⟩ := hq993
        obtain ⟨y994, hy994⟩ : ∃ z, z = (spec4 ((128 : Int32) ||| ((cp >>> ((12 : Int32) &&& 31)) &&& (63 : Int32))) (1 : Int32) (4 : Int32) cp v758 y989 (3 : Int32) (1 : Int32)) := ⟨_, rfl⟩
        rw [← hy994] at st993
        refine oGo.step (f' := (mkF m 332 #[.val (.int x0), .val (.int x1), .val (.int x2), .val (.int x3), .val (.int (4 : Int32)), .val (.int cp), .val (.ref b718), .val (.int (65536 : Int32)), .val (.int v758), .val (.int (3 : Int32)), .val (.ref b961), .val (.int (1 : Int32)), .unset, .unset, .unset] [(.int y994), (.int (1 : Int32))])) st993 ?_
        have N993_ := Fr.app N975_ N993
        have K995 := Kc993
        have F996 := F978.keep K995 (allS ge963 all0)
        have F999 := F981.keep K995 (ninS ne962 nin0)
        have F1000 := E975_.keep K995
        have Z1006 := Nat.le_trans Z988 K995.1
        obtain ⟨y1007, hy1007⟩ : ∃ z, z = (fld5_codePoint ((128 : Int32) ||| ((cp >>> ((12 : Int32) &&& 31)) &&& (63 : Int32))) y989 (3 : Int32)) := ⟨_, rfl⟩
        rw [← hy1007] at F993_codePoint
        obtain ⟨y1008, hy1008⟩ : ∃ z, z = (fld5_lacking ((128 : Int32) ||| ((cp >>> ((12 : Int32) &&& 31)) &&& (63 : Int32))) (3 : Int32)) := ⟨_, rfl⟩
        rw [← hy1008] at F993_lacking
        obtain ⟨y1009, hy1009⟩ : ∃ z, z = (fld5_given ((128 : Int32) ||| ((cp >>> ((12 : Int32) &&& 31)) &&& (63 : Int32))) (3 : Int32) (1 : Int32)) := ⟨_, rfl⟩
        rw [← hy1009] at F993_given
        obtain ⟨y1010, hy1010⟩ : ∃ z, z = (fld5_malformed ((128 : Int32) ||| ((cp >>> ((12 : Int32) &&& 31)) &&& (63 : Int32))) y989 (3 : Int32) (1 : Int32) (0 : Int32)) := ⟨_, rfl⟩
        rw [← hy1010] at F993_malformed
        have hI993 : oInv y1008 y1009 y1010 := by rw [hy1008, hy1009, hy1010]; exact own_inv_next y989 ((128 : Int32) ||| ((cp >>> ((12 : Int32) &&& 31)) &&& (63 : Int32))) hI975
        have X993 := o_flat X993 rfl rfl
        have hS1 := st_more (b := ((128 : Int32) ||| ((cp >>> ((12 : Int32) &&& 31)) &&& (63 : Int32)))) (i := 1) (len := 4) (cp := cp) (vl := v758) (c := y989) (k := (3 : Int32)) (g := (1 : Int32)) (k' := 2) (g' := 2) ⟨by omega, by omega⟩ (by omega) (by omega) (by decide) rfl rfl (by decide) (by decide) (by omega) (by omega)
        rw [← hy994, ← hy1008, ← hy1009, ← hy1010, ← hy1007] at hS1
        obtain ⟨q1, q2, q3, q4, hcc1⟩ := hS1
        subst q1 q2 q3 q4
        have hcn1 : y1007.toInt = cp.toInt / 4096 := by rw [hcc1]; omega
        refine o_iand (pc' := 333) X993 hx (hb hby at_332)  rfl ?_
        rw [show ((1 : Int32) &&& (1 : Int32)) = (1 : Int32) from by decide]
        refine o_istore (pc' := 335) (l' := #[.val (.int x0), .val (.int x1), .val (.int x2), .val (.int x3), .val (.int (4 : Int32)), .val (.int cp), .val (.ref b718), .val (.int (65536 : Int32)), .val (.int v758), .val (.int (3 : Int32)), .val (.ref b961), .val (.int (1 : Int32)), .unset, .unset, .unset]) X993 hx (hb hby at_333) rfl rfl ?_
        refine o_iload (pc' := 337) X993 hx (hb hby at_335) rfl rfl ?_
        refine o_iconst (pc' := 338) (v := (2 : Int32)) X993 hx (hb hby at_337) rfl rfl ?_
        refine o_icmpF (pc' := 341) X993 hx (hb hby at_338) (XT.ii_le_f (by decide)) rfl ?_
        refine o_iload (pc' := 343) X993 hx (hb hby at_341) rfl rfl ?_
        refine o_aload (pc' := 345) X993 hx (hb hby at_343) rfl rfl rfl ?_
        refine o_aload (pc' := 347) X993 hx (hb hby at_345) rfl rfl rfl ?_
        refine o_iconst (pc' := 348) (v := (2 : Int32)) X993 hx (hb hby at_347) rfl rfl ?_
        refine o_iaload (pc' := 349) (v := ((128 : Int32) ||| ((cp >>> ((6 : Int32) &&& 31)) &&& (63 : Int32)))) X993 hx hZ (rfl : T993.heap = _) F999 (hb hby at_348) (by decide) rfl rfl ?_
        refine o_iconst (pc' := 350) (v := (2 : Int32)) X993 hx (hb hby at_349) rfl rfl ?_
        refine o_iload (pc' := 352) X993 hx (hb hby at_350) rfl rfl ?_
        refine o_iload (pc' := 354) X993 hx (hb hby at_352) rfl rfl ?_
        refine o_iload (pc' := 356) X993 hx (hb hby at_354) rfl rfl ?_
        obtain ⟨r1011, T1011, L1011, X1011, hq1011, st1011⟩ := o_callS X993 hx hZ hown (hw _ (List.mem_of_getElem? (i := 16) rfl)) (hw _ (List.mem_of_getElem? (i := 17) rfl)) (hw _ (List.mem_of_getElem? (i := 18) rfl)) (hw _ (List.mem_of_getElem? (i := 19) rfl)) (by decide) (rm4 l Z a0 hw b961 ((128 : Int32) ||| ((cp >>> ((6 : Int32) &&& 31)) &&& (63 : Int32))) (2 : Int32) (4 : Int32) cp v758 y1007 (2 : Int32) (2 : Int32) (0 : Int32) r_LEAST T993.heap n0 Z1006 E993_ F993_codePoint F993_lacking F993_given F993_malformed ge963 hI993 F996 S_LEAST A_LEAST) (rfl : T993.heap = _) (pc' := 359) (Ls := #[.val (.int x0), .val (.int x1), .val (.int x2), .val (.int x3), .val (.int (4 : Int32)), .val (.int cp), .val (.ref b718), .val (.int (65536 : Int32)), .val (.int v758), .val (.int (3 : Int32)), .val (.ref b961), .val (.int (1 : Int32)), .unset, .unset, .unset]) (by rw [hml]; rfl) [(.ref b961), (.int ((128 : Int32) ||| ((cp >>> ((6 : Int32) &&& 31)) &&& (63 : Int32)))), (.int (2 : Int32)), (.int (4 : Int32)), (.int cp), (.int v758)] [(.int (1 : Int32))] rfl pd3 rfl rfl 1 (Nat.le_of_eq rfl) (hb hby at_356) rfl (by decide) (by decide) (by decide) (by decide)
        obtain ⟨rfl, N1011, Kc1011, E1011_, F1011_codePoint, F1011_lacking, F1011_given, F1011_malformed⟩ := hq1011
        obtain ⟨y1012, hy1012⟩ : ∃ z, z = (spec4 ((128 : Int32) ||| ((cp >>> ((6 : Int32) &&& 31)) &&& (63 : Int32))) (2 : Int32) (4 : Int32) cp v758 y1007 (2 : Int32) (2 : Int32)) := ⟨_, rfl⟩
        rw [← hy1012] at st1011
        refine oGo.step (f' := (mkF m 359 #[.val (.int x0), .val (.int x1), .val (.int x2), .val (.int x3), .val (.int (4 : Int32)), .val (.int cp), .val (.ref b718), .val (.int (65536 : Int32)), .val (.int v758), .val (.int (3 : Int32)), .val (.ref b961), .val (.int (1 : Int32)), .unset, .unset, .unset] [(.int y1012), (.int (1 : Int32))])) st1011 ?_
        have N1011_ := Fr.app N993_ N1011
        have K1013 := Kc1011
        have F1014 := F996.keep K1013 (allS ge963 all0)
        have F1017 := F999.keep K1013 (ninS ne962 nin0)
        have F1018 := E993_.keep K1013
        have Z1024 := Nat.le_trans Z1006 K1013.1
        obtain ⟨y1025, hy1025⟩ : ∃ z, z = (fld5_codePoint ((128 : Int32) ||| ((cp >>> ((6 : Int32) &&& 31)) &&& (63 : Int32))) y1007 (2 : Int32)) := ⟨_, rfl⟩
        rw [← hy1025] at F1011_codePoint
        obtain ⟨y1026, hy1026⟩ : ∃ z, z = (fld5_lacking ((128 : Int32) ||| ((cp >>> ((6 : Int32) &&& 31)) &&& (63 : Int32))) (2 : Int32)) := ⟨_, rfl⟩
        rw [← hy1026] at F1011_lacking
        obtain ⟨y1027, hy1027⟩ : ∃ z, z = (fld5_given ((128 : Int32) ||| ((cp >>> ((6 : Int32) &&& 31)) &&& (63 : Int32))) (2 : Int32) (2 : Int32)) := ⟨_, rfl⟩
        rw [← hy1027] at F1011_given
        obtain ⟨y1028, hy1028⟩ : ∃ z, z = (fld5_malformed ((128 : Int32) ||| ((cp >>> ((6 : Int32) &&& 31)) &&& (63 : Int32))) y1007 (2 : Int32) (2 : Int32) (0 : Int32)) := ⟨_, rfl⟩
        rw [← hy1028] at F1011_malformed
        have hI1011 : oInv y1026 y1027 y1028 := by rw [hy1026, hy1027, hy1028]; exact own_inv_next y1007 ((128 : Int32) ||| ((cp >>> ((6 : Int32) &&& 31)) &&& (63 : Int32))) hI993
        have X1011 := o_flat X1011 rfl rfl
        have hS2 := st_more (b := ((128 : Int32) ||| ((cp >>> ((6 : Int32) &&& 31)) &&& (63 : Int32)))) (i := 2) (len := 4) (cp := cp) (vl := v758) (c := y1007) (k := (2 : Int32)) (g := (2 : Int32)) (k' := 1) (g' := 3) ⟨by omega, by omega⟩ (by omega) (by omega) (by decide) rfl rfl (by decide) (by decide) (by omega) (by omega)
        rw [← hy1012, ← hy1026, ← hy1027, ← hy1028, ← hy1025] at hS2
        obtain ⟨q1, q2, q3, q4, hcc2⟩ := hS2
        subst q1 q2 q3 q4
        have hcn2 : y1025.toInt = cp.toInt / 64 := by rw [hcc2]; omega
        refine o_iand (pc' := 360) X1011 hx (hb hby at_359)  rfl ?_
        rw [show ((1 : Int32) &&& (1 : Int32)) = (1 : Int32) from by decide]
        refine o_istore (pc' := 362) (l' := #[.val (.int x0), .val (.int x1), .val (.int x2), .val (.int x3), .val (.int (4 : Int32)), .val (.int cp), .val (.ref b718), .val (.int (65536 : Int32)), .val (.int v758), .val (.int (3 : Int32)), .val (.ref b961), .val (.int (1 : Int32)), .unset, .unset, .unset]) X1011 hx (hb hby at_360) rfl rfl ?_
        refine o_iload (pc' := 364) X1011 hx (hb hby at_362) rfl rfl ?_
        refine o_iconst (pc' := 365) (v := (3 : Int32)) X1011 hx (hb hby at_364) rfl rfl ?_
        refine o_icmpT (pc' := 389) X1011 hx (hb hby at_365) (XT.ii_le_t (by decide)) (by decide) (by decide) ?_
        refine o_iload (pc' := 391) X1011 hx (hb hby at_389) rfl rfl ?_
        refine o_iload (pc' := 393) X1011 hx (hb hby at_391) rfl rfl ?_
        refine o_icmpT (pc' := 400) X1011 hx (hb hby at_393) (XT.ii_ne_t (by decide)) (by decide) (by decide) ?_
        refine o_iconst (pc' := 401) (v := (0 : Int32)) X1011 hx (hb hby at_400) rfl rfl ?_
        refine o_istore (pc' := 403) (l' := #[.val (.int x0), .val (.int x1), .val (.int x2), .val (.int x3), .val (.int (4 : Int32)), .val (.int cp), .val (.ref b718), .val (.int (65536 : Int32)), .val (.int v758), .val (.int (3 : Int32)), .val (.ref b961), .val (.int (1 : Int32)), .val (.int (0 : Int32)), .unset, .unset]) X1011 hx (hb hby at_401) rfl rfl ?_
        refine o_iload (pc' := 405) X1011 hx (hb hby at_403) rfl rfl ?_
        refine o_aload (pc' := 407) X1011 hx (hb hby at_405) rfl rfl rfl ?_
        obtain ⟨r1029, T1029, L1029, X1029, hq1029, st1029⟩ := o_callV X1011 hx hZ hown (hw _ (List.mem_of_getElem? (i := 33) rfl)) (hw _ (List.mem_of_getElem? (i := 34) rfl)) (hw _ (List.mem_of_getElem? (i := 36) rfl)) (hw _ (List.mem_of_getElem? (i := 35) rfl)) (hw _ (List.mem_of_getElem? (i := 9) rfl)) (hw _ (List.mem_of_getElem? (i := 37) rfl)) (by decide) E1011_ (rm6 l Z a0 hw b961 (3 : Int32) T1011.heap n0 Z1024 E1011_ F1011_given) (rfl : T1011.heap = _) (pc' := 410) (Ls := #[.val (.int x0), .val (.int x1), .val (.int x2), .val (.int x3), .val (.int (4 : Int32)), .val (.int cp), .val (.ref b718), .val (.int (65536 : Int32)), .val (.int v758), .val (.int (3 : Int32)), .val (.ref b961), .val (.int (1 : Int32)), .val (.int (0 : Int32)), .unset, .unset]) (by rw [hml]; rfl) [] [(.int (1 : Int32))] rfl pd4 rfl rfl 1 (Nat.le_of_eq rfl) (hb hby at_407) rfl (by decide) (by decide) (by decide) (by decide)
        obtain ⟨rfl, rfl, Kc1029⟩ := hq1029
        refine oGo.step (f' := (mkF m 410 #[.val (.int x0), .val (.int x1), .val (.int x2), .val (.int x3), .val (.int (4 : Int32)), .val (.int cp), .val (.ref b718), .val (.int (65536 : Int32)), .val (.int v758), .val (.int (3 : Int32)), .val (.ref b961), .val (.int (1 : Int32)), .val (.int (0 : Int32)), .unset, .unset] [(.int (3 : Int32)), (.int (1 : Int32))])) st1029 ?_
        have e1029 : T1029.heap = T1011.heap := Kc1029
        have X1029 := o_same X1029 rfl rfl
        refine o_iload (pc' := 412) X1029 hx (hb hby at_410) rfl rfl ?_
        refine o_ifT (pc' := 419) X1029 hx (hb hby at_412) (XT.i0_eq_t (by decide)) (by decide) (by decide) ?_
        refine o_iload (pc' := 421) X1029 hx (hb hby at_419) rfl rfl ?_
        refine o_icmpF (pc' := 424) X1029 hx (hb hby at_421) (XT.ii_ne_f (by decide)) rfl ?_
        refine o_iconst (pc' := 425) (v := (1 : Int32)) X1029 hx (hb hby at_424) rfl rfl ?_
        refine o_goto (pc' := 429) X1029 hx (hb hby at_425) (by decide) (by decide) ?_
        refine o_iand (pc' := 430) X1029 hx (hb hby at_429)  rfl ?_
        rw [show ((1 : Int32) &&& (1 : Int32)) = (1 : Int32) from by decide]
        refine o_istore (pc' := 432) (l' := #[.val (.int x0), .val (.int x1), .val (.int x2), .val (.int x3), .val (.int (4 : Int32)), .val (.int cp), .val (.ref b718), .val (.int (65536 : Int32)), .val (.int v758), .val (.int (3 : Int32)), .val (.ref b961), .val (.int (1 : Int32)), .val (.int (0 : Int32)), .unset, .unset]) X1029 hx (hb hby at_430) rfl rfl ?_
        refine o_iloadN (pc' := 433) X1029 hx (hb hby at_432) rfl rfl ?_
        refine o_bipush (pc' := 435) (v := (8 : Int32)) X1029 hx (hb hby at_433) rfl rfl ?_
        refine o_iushr (pc' := 436) X1029 hx (hb hby at_435)  rfl ?_
        refine o_iconst (pc' := 437) (v := (1 : Int32)) X1029 hx (hb hby at_436) rfl rfl ?_
        refine o_iand (pc' := 438) X1029 hx (hb hby at_437)  rfl ?_
        by_cases c1030 : ((XT.ushr x3 (8 : Int32)) &&& (1 : Int32)) = 0
        · refine o_ifT (pc' := 573) X1029 hx (hb hby at_438) (XT.i0_eq_t c1030) (by decide) (by decide) ?_
          refine o_iload (pc' := 575) X1029 hx (hb hby at_573) rfl rfl ?_
          refine o_ifT (pc' := 587) X1029 hx (hb hby at_575) (XT.i0_eq_t (by decide)) (by decide) (by decide) ?_
          refine o_iconst (pc' := 588) (v := (0 : Int32)) X1029 hx (hb hby at_587) rfl rfl ?_
          refine o_istore (pc' := 590) (l' := #[.val (.int x0), .val (.int x1), .val (.int x2), .val (.int x3), .val (.int (4 : Int32)), .val (.int cp), .val (.ref b718), .val (.int (65536 : Int32)), .val (.int v758), .val (.int (3 : Int32)), .val (.ref b961), .val (.int (1 : Int32)), .val (.int (0 : Int32)), .val (.int (0 : Int32)), .unset]) X1029 hx (hb hby at_588) rfl rfl ?_
          refine o_iload (pc' := 592) X1029 hx (hb hby at_590) rfl rfl ?_
          refine o_aload (pc' := 594) X1029 hx (hb hby at_592) rfl rfl rfl ?_
          obtain ⟨r1031, T1031, L1031, X1031, hq1031, st1031⟩ := o_callV X1029 hx hZ hown (hw _ (List.mem_of_getElem? (i := 38) rfl)) (hw _ (List.mem_of_getElem? (i := 39) rfl)) (hw _ (List.mem_of_getElem? (i := 41) rfl)) (hw _ (List.mem_of_getElem? (i := 40) rfl)) (hw _ (List.mem_of_getElem? (i := 9) rfl)) (hw _ (List.mem_of_getElem? (i := 42) rfl)) (by decide) E1011_ (rm7 l Z a0 hw b961 y1025 (1 : Int32) (3 : Int32) (0 : Int32) T1011.heap n0 Z1024 E1011_ F1011_codePoint F1011_lacking F1011_given F1011_malformed ge963) e1029 (pc' := 597) (Ls := #[.val (.int x0), .val (.int x1), .val (.int x2), .val (.int x3), .val (.int (4 : Int32)), .val (.int cp), .val (.ref b718), .val (.int (65536 : Int32)), .val (.int v758), .val (.int (3 : Int32)), .val (.ref b961), .val (.int (1 : Int32)), .val (.int (0 : Int32)), .val (.int (0 : Int32)), .unset]) (by rw [hml]; rfl) [] [(.int (1 : Int32))] rfl pd5 rfl rfl 1 (Nat.le_of_eq rfl) (hb hby at_594) rfl (by decide) (by decide) (by decide) (by decide)
          obtain ⟨rfl, N1031, Kc1031, E1031_, F1031_codePoint, F1031_lacking, F1031_given, F1031_malformed⟩ := hq1031
          obtain ⟨y1032, hy1032⟩ : ∃ z, z = (spec7 (1 : Int32) (0 : Int32)) := ⟨_, rfl⟩
          rw [← hy1032] at st1031
          refine oGo.step (f' := (mkF m 597 #[.val (.int x0), .val (.int x1), .val (.int x2), .val (.int x3), .val (.int (4 : Int32)), .val (.int cp), .val (.ref b718), .val (.int (65536 : Int32)), .val (.int v758), .val (.int (3 : Int32)), .val (.ref b961), .val (.int (1 : Int32)), .val (.int (0 : Int32)), .val (.int (0 : Int32)), .unset] [(.int y1032), (.int (1 : Int32))])) st1031 ?_
          have N1031_ := Fr.app N1011_ N1031
          have K1033 := Kc1031
          have F1034 := F1014.keep K1033 (allS ge963 all0)
          have F1037 := F1017.keep K1033 (ninS ne962 nin0)
          have F1038 := E1011_.keep K1033
          have Z1044 := Nat.le_trans Z1024 K1033.1
          have X1031 := o_flat X1031 rfl rfl
          have hE : y1032 = (0 : Int32) := by rw [hy1032]; rfl
          refine o_iload (pc' := 599) X1031 hx (hb hby at_597) rfl rfl ?_
          refine o_icmpF (pc' := 602) X1031 hx (hb hby at_599) (XT.ii_ne_f hE) rfl ?_
          refine o_iconst (pc' := 603) (v := (1 : Int32)) X1031 hx (hb hby at_602) rfl rfl ?_
          refine o_goto (pc' := 607) X1031 hx (hb hby at_603) (by decide) (by decide) ?_
          refine o_iand (pc' := 608) X1031 hx (hb hby at_607)  rfl ?_
          rw [show ((1 : Int32) &&& (1 : Int32)) = (1 : Int32) from by decide]
          refine o_istore (pc' := 610) (l' := #[.val (.int x0), .val (.int x1), .val (.int x2), .val (.int x3), .val (.int (4 : Int32)), .val (.int cp), .val (.ref b718), .val (.int (65536 : Int32)), .val (.int v758), .val (.int (3 : Int32)), .val (.ref b961), .val (.int (1 : Int32)), .val (.int (0 : Int32)), .val (.int (0 : Int32)), .unset]) X1031 hx (hb hby at_608) rfl rfl ?_
          refine o_iload (pc' := 612) X1031 hx (hb hby at_610) rfl rfl ?_
          refine o_retZ X1031 hx hret hlk (hb hby at_612) (by decide) (by decide) (by decide) ?_
          exact ⟨rfl, N1031_⟩
        · refine o_ifF (pc' := 441) X1029 hx (hb hby at_438) (XT.i0_eq_f c1030) rfl ?_
          refine o_iloadN (pc' := 442) X1029 hx (hb hby at_441) rfl rfl ?_
          refine o_sipush (pc' := 445) (v := (255 : Int32)) X1029 hx (hb hby at_442) rfl rfl ?_
          refine o_iand (pc' := 446) X1029 hx (hb hby at_445)  rfl ?_
          refine o_istore (pc' := 448) (l' := #[.val (.int x0), .val (.int x1), .val (.int x2), .val (.int x3), .val (.int (4 : Int32)), .val (.int cp), .val (.ref b718), .val (.int (65536 : Int32)), .val (.int v758), .val (.int (3 : Int32)), .val (.ref b961), .val (.int (1 : Int32)), .val (.int (0 : Int32)), .unset, .val (.int (x3 &&& (255 : Int32)))]) X1029 hx (hb hby at_446) rfl rfl ?_
          refine o_iload (pc' := 450) X1029 hx (hb hby at_448) rfl rfl ?_
          refine o_ifF (pc' := 453) X1029 hx (hb hby at_450) (XT.i0_ne_f (by decide)) rfl ?_
          refine o_iload (pc' := 455) X1029 hx (hb hby at_453) rfl rfl ?_
          refine o_sipush (pc' := 458) (v := (192 : Int32)) X1029 hx (hb hby at_455) rfl rfl ?_
          refine o_iand (pc' := 459) X1029 hx (hb hby at_458)  rfl ?_
          refine o_sipush (pc' := 462) (v := (128 : Int32)) X1029 hx (hb hby at_459) rfl rfl ?_
          have J1046 : ∀ (v1047 : Int32), v1047 = (if ((x3 &&& (255 : Int32)) &&& (192 : Int32)) = (128 : Int32) then ((x3 &&& (255 : Int32)) ^^^ (64 : Int32)) else (x3 &&& (255 : Int32))) → oGo p e below (oG s (fun v h L => v = some (.int 1) ∧ Fr n0 L) room_1.cells room_1.slots) T1029 (mkF m 472 #[.val (.int x0), .val (.int x1), .val (.int x2), .val (.int x3), .val (.int (4 : Int32)), .val (.int cp), .val (.ref b718), .val (.int (65536 : Int32)), .val (.int v758), .val (.int (3 : Int32)), .val (.ref b961), .val (.int (1 : Int32)), .val (.int (0 : Int32)), .unset, .val (.int v1047)] []) := by
            intro v1047 hv1047
            refine o_iload (pc' := 474) X1029 hx (hb hby at_472) rfl rfl ?_
            refine o_aload (pc' := 476) X1029 hx (hb hby at_474) rfl rfl rfl ?_
            refine o_iload (pc' := 478) X1029 hx (hb hby at_476) rfl rfl ?_
            have htB := own_tx (own_m255 x3) hv1047
            obtain ⟨r1048, T1048, L1048, X1048, hq1048, st1048⟩ := o_callV X1029 hx hZ hown (hw _ (List.mem_of_getElem? (i := 20) rfl)) (hw _ (List.mem_of_getElem? (i := 21) rfl)) (hw _ (List.mem_of_getElem? (i := 23) rfl)) (hw _ (List.mem_of_getElem? (i := 22) rfl)) (hw _ (List.mem_of_getElem? (i := 9) rfl)) (hw _ (List.mem_of_getElem? (i := 24) rfl)) (by decide) E1011_ (rm5 l Z a0 hw b961 v1047 y1025 (1 : Int32) (3 : Int32) (0 : Int32) r_LEAST T1011.heap n0 Z1024 E1011_ F1011_codePoint F1011_lacking F1011_given F1011_malformed ge963 hI1011 F1014 S_LEAST A_LEAST) e1029 (pc' := 481) (Ls := #[.val (.int x0), .val (.int x1), .val (.int x2), .val (.int x3), .val (.int (4 : Int32)), .val (.int cp), .val (.ref b718), .val (.int (65536 : Int32)), .val (.int v758), .val (.int (3 : Int32)), .val (.ref b961), .val (.int (1 : Int32)), .val (.int (0 : Int32)), .unset, .val (.int v1047)]) (by rw [hml]; rfl) [(.int v1047)] [(.int (1 : Int32))] rfl pd0 rfl rfl 1 (Nat.le_of_eq rfl) (hb hby at_478) rfl (by decide) (by decide) (by decide) (by decide)
            obtain ⟨rfl, N1048, Kc1048, E1048_, F1048_codePoint, F1048_lacking, F1048_given, F1048_malformed⟩ := hq1048
            obtain ⟨y1049, hy1049⟩ : ∃ z, z = (spec5 v1047 y1025 (1 : Int32) (3 : Int32)) := ⟨_, rfl⟩
            rw [← hy1049] at st1048
            refine oGo.step (f' := (mkF m 481 #[.val (.int x0), .val (.int x1), .val (.int x2), .val (.int x3), .val (.int (4 : Int32)), .val (.int cp), .val (.ref b718), .val (.int (65536 : Int32)), .val (.int v758), .val (.int (3 : Int32)), .val (.ref b961), .val (.int (1 : Int32)), .val (.int (0 : Int32)), .unset, .val (.int v1047)] [(.int y1049), (.int (1 : Int32))])) st1048 ?_
            have N1048_ := Fr.app N1011_ N1048
            have K1050 := Kc1048
            have F1051 := F1014.keep K1050 (allS ge963 all0)
            have F1054 := F1017.keep K1050 (ninS ne962 nin0)
            have F1055 := E1011_.keep K1050
            have Z1061 := Nat.le_trans Z1024 K1050.1
            obtain ⟨y1062, hy1062⟩ : ∃ z, z = (fld5_codePoint v1047 y1025 (1 : Int32)) := ⟨_, rfl⟩
            rw [← hy1062] at F1048_codePoint
            obtain ⟨y1063, hy1063⟩ : ∃ z, z = (fld5_lacking v1047 (1 : Int32)) := ⟨_, rfl⟩
            rw [← hy1063] at F1048_lacking
            obtain ⟨y1064, hy1064⟩ : ∃ z, z = (fld5_given v1047 (1 : Int32) (3 : Int32)) := ⟨_, rfl⟩
            rw [← hy1064] at F1048_given
            obtain ⟨y1065, hy1065⟩ : ∃ z, z = (fld5_malformed v1047 y1025 (1 : Int32) (3 : Int32) (0 : Int32)) := ⟨_, rfl⟩
            rw [← hy1065] at F1048_malformed
            have hI1048 : oInv y1063 y1064 y1065 := by rw [hy1063, hy1064, hy1065]; exact own_inv_next y1025 v1047 hI1011
            have X1048 := o_flat X1048 rfl rfl
            have hA := nx_any (t := v1047) (cp := y1025) (k := (1 : Int32)) (g := (3 : Int32)) (z := (0 : Int32)) nz01 (Or.inr ⟨by decide, htB.2⟩)
            rw [← hy1049, ← hy1064] at hA
            refine o_iload (pc' := 483) X1048 hx (hb hby at_481) rfl rfl ?_
            refine o_sipush (pc' := 486) (v := (128 : Int32)) X1048 hx (hb hby at_483) rfl rfl ?_
            have J1067 : ∀ (v1068 : Int32), v1068 = (if v1047 < (128 : Int32) then v1047 else (-1 : Int32)) → oGo p e below (oG s (fun v h L => v = some (.int 1) ∧ Fr n0 L) room_1.cells room_1.slots) T1048 (mkF m 495 #[.val (.int x0), .val (.int x1), .val (.int x2), .val (.int x3), .val (.int (4 : Int32)), .val (.int cp), .val (.ref b718), .val (.int (65536 : Int32)), .val (.int v758), .val (.int (3 : Int32)), .val (.ref b961), .val (.int (1 : Int32)), .val (.int (0 : Int32)), .unset, .val (.int v1047)] [(.int v1068), (.int y1049), (.int (1 : Int32))]) := by
              intro v1068 hv1068
              refine o_icmpF (pc' := 498) X1048 hx (hb hby at_495) (XT.ii_ne_f (hA.1.trans hv1068.symm)) rfl ?_
              refine o_iconst (pc' := 499) (v := (1 : Int32)) X1048 hx (hb hby at_498) rfl rfl ?_
              refine o_goto (pc' := 503) X1048 hx (hb hby at_499) (by decide) (by decide) ?_
              refine o_iand (pc' := 504) X1048 hx (hb hby at_503)  rfl ?_
              rw [show ((1 : Int32) &&& (1 : Int32)) = (1 : Int32) from by decide]
              refine o_istore (pc' := 506) (l' := #[.val (.int x0), .val (.int x1), .val (.int x2), .val (.int x3), .val (.int (4 : Int32)), .val (.int cp), .val (.ref b718), .val (.int (65536 : Int32)), .val (.int v758), .val (.int (3 : Int32)), .val (.ref b961), .val (.int (1 : Int32)), .val (.int (0 : Int32)), .unset, .val (.int v1047)]) X1048 hx (hb hby at_504) rfl rfl ?_
              refine o_iload (pc' := 508) X1048 hx (hb hby at_506) rfl rfl ?_
              refine o_aload (pc' := 510) X1048 hx (hb hby at_508) rfl rfl rfl ?_
              obtain ⟨r1069, T1069, L1069, X1069, hq1069, st1069⟩ := o_callV X1048 hx hZ hown (hw _ (List.mem_of_getElem? (i := 33) rfl)) (hw _ (List.mem_of_getElem? (i := 34) rfl)) (hw _ (List.mem_of_getElem? (i := 36) rfl)) (hw _ (List.mem_of_getElem? (i := 35) rfl)) (hw _ (List.mem_of_getElem? (i := 9) rfl)) (hw _ (List.mem_of_getElem? (i := 37) rfl)) (by decide) E1048_ (rm6 l Z a0 hw b961 y1064 T1048.heap n0 Z1061 E1048_ F1048_given) (rfl : T1048.heap = _) (pc' := 513) (Ls := #[.val (.int x0), .val (.int x1), .val (.int x2), .val (.int x3), .val (.int (4 : Int32)), .val (.int cp), .val (.ref b718), .val (.int (65536 : Int32)), .val (.int v758), .val (.int (3 : Int32)), .val (.ref b961), .val (.int (1 : Int32)), .val (.int (0 : Int32)), .unset, .val (.int v1047)]) (by rw [hml]; rfl) [] [(.int (1 : Int32))] rfl pd4 rfl rfl 1 (Nat.le_of_eq rfl) (hb hby at_510) rfl (by decide) (by decide) (by decide) (by decide)
              obtain ⟨rfl, rfl, Kc1069⟩ := hq1069
              refine oGo.step (f' := (mkF m 513 #[.val (.int x0), .val (.int x1), .val (.int x2), .val (.int x3), .val (.int (4 : Int32)), .val (.int cp), .val (.ref b718), .val (.int (65536 : Int32)), .val (.int v758), .val (.int (3 : Int32)), .val (.ref b961), .val (.int (1 : Int32)), .val (.int (0 : Int32)), .unset, .val (.int v1047)] [(.int y1064), (.int (1 : Int32))])) st1069 ?_
              have e1069 : T1069.heap = T1048.heap := Kc1069
              have X1069 := o_same X1069 rfl rfl
              refine o_iload (pc' := 515) X1069 hx (hb hby at_513) rfl rfl ?_
              refine o_sipush (pc' := 518) (v := (192 : Int32)) X1069 hx (hb hby at_515) rfl rfl ?_
              have J1071 : ∀ (v1073 : Int32), v1073 = (if v1047 < (192 : Int32) then (0 : Int32) else (if (247 : Int32) < v1047 then (0 : Int32) else (1 : Int32))) → oGo p e below (oG s (fun v h L => v = some (.int 1) ∧ Fr n0 L) room_1.cells room_1.slots) T1069 (mkF m 534 #[.val (.int x0), .val (.int x1), .val (.int x2), .val (.int x3), .val (.int (4 : Int32)), .val (.int cp), .val (.ref b718), .val (.int (65536 : Int32)), .val (.int v758), .val (.int (3 : Int32)), .val (.ref b961), .val (.int (1 : Int32)), .val (.int (0 : Int32)), .unset, .val (.int v1047)] [(.int v1073), (.int y1064), (.int (1 : Int32))]) := by
                intro v1073 hv1073
                refine o_icmpF (pc' := 537) X1069 hx (hb hby at_534) (XT.ii_ne_f (hA.2.trans hv1073.symm)) rfl ?_
                refine o_iconst (pc' := 538) (v := (1 : Int32)) X1069 hx (hb hby at_537) rfl rfl ?_
                refine o_goto (pc' := 542) X1069 hx (hb hby at_538) (by decide) (by decide) ?_
                refine o_iand (pc' := 543) X1069 hx (hb hby at_542)  rfl ?_
                rw [show ((1 : Int32) &&& (1 : Int32)) = (1 : Int32) from by decide]
                refine o_istore (pc' := 545) (l' := #[.val (.int x0), .val (.int x1), .val (.int x2), .val (.int x3), .val (.int (4 : Int32)), .val (.int cp), .val (.ref b718), .val (.int (65536 : Int32)), .val (.int v758), .val (.int (3 : Int32)), .val (.ref b961), .val (.int (1 : Int32)), .val (.int (0 : Int32)), .unset, .val (.int v1047)]) X1069 hx (hb hby at_543) rfl rfl ?_
                refine o_iload (pc' := 547) X1069 hx (hb hby at_545) rfl rfl ?_
                refine o_ifT (pc' := 567) X1069 hx (hb hby at_547) (XT.i0_eq_t (by decide)) (by decide) (by decide) ?_
                refine o_iconst (pc' := 568) (v := (0 : Int32)) X1069 hx (hb hby at_567) rfl rfl ?_
                refine o_istore (pc' := 570) (l' := #[.val (.int x0), .val (.int x1), .val (.int x2), .val (.int x3), .val (.int (4 : Int32)), .val (.int cp), .val (.ref b718), .val (.int (65536 : Int32)), .val (.int v758), .val (.int (3 : Int32)), .val (.ref b961), .val (.int (1 : Int32)), .val (.int (0 : Int32)), .val (.int (0 : Int32)), .val (.int v1047)]) X1069 hx (hb hby at_568) rfl rfl ?_
                refine o_goto (pc' := 590) X1069 hx (hb hby at_570) (by decide) (by decide) ?_
                refine o_iload (pc' := 592) X1069 hx (hb hby at_590) rfl rfl ?_
                refine o_aload (pc' := 594) X1069 hx (hb hby at_592) rfl rfl rfl ?_
                obtain ⟨r1074, T1074, L1074, X1074, hq1074, st1074⟩ := o_callV X1069 hx hZ hown (hw _ (List.mem_of_getElem? (i := 38) rfl)) (hw _ (List.mem_of_getElem? (i := 39) rfl)) (hw _ (List.mem_of_getElem? (i := 41) rfl)) (hw _ (List.mem_of_getElem? (i := 40) rfl)) (hw _ (List.mem_of_getElem? (i := 9) rfl)) (hw _ (List.mem_of_getElem? (i := 42) rfl)) (by decide) E1048_ (rm7 l Z a0 hw b961 y1062 y1063 y1064 y1065 T1048.heap n0 Z1061 E1048_ F1048_codePoint F1048_lacking F1048_given F1048_malformed ge963) e1069 (pc' := 597) (Ls := #[.val (.int x0), .val (.int x1), .val (.int x2), .val (.int x3), .val (.int (4 : Int32)), .val (.int cp), .val (.ref b718), .val (.int (65536 : Int32)), .val (.int v758), .val (.int (3 : Int32)), .val (.ref b961), .val (.int (1 : Int32)), .val (.int (0 : Int32)), .val (.int (0 : Int32)), .val (.int v1047)]) (by rw [hml]; rfl) [] [(.int (1 : Int32))] rfl pd5 rfl rfl 1 (Nat.le_of_eq rfl) (hb hby at_594) rfl (by decide) (by decide) (by decide) (by decide)
                obtain ⟨rfl, N1074, Kc1074, E1074_, F1074_codePoint, F1074_lacking, F1074_given, F1074_malformed⟩ := hq1074
                obtain ⟨y1075, hy1075⟩ : ∃ z, z = (spec7 y1063 y1065) := ⟨_, rfl⟩
                rw [← hy1075] at st1074
                refine oGo.step (f' := (mkF m 597 #[.val (.int x0), .val (.int x1), .val (.int x2), .val (.int x3), .val (.int (4 : Int32)), .val (.int cp), .val (.ref b718), .val (.int (65536 : Int32)), .val (.int v758), .val (.int (3 : Int32)), .val (.ref b961), .val (.int (1 : Int32)), .val (.int (0 : Int32)), .val (.int (0 : Int32)), .val (.int v1047)] [(.int y1075), (.int (1 : Int32))])) st1074 ?_
                have N1074_ := Fr.app N1048_ N1074
                have K1076 := Kc1074
                have F1077 := F1051.keep K1076 (allS ge963 all0)
                have F1080 := F1054.keep K1076 (ninS ne962 nin0)
                have F1081 := E1048_.keep K1076
                have Z1087 := Nat.le_trans Z1061 K1076.1
                have X1074 := o_flat X1074 rfl rfl
                have hE : y1075 = (0 : Int32) := by rw [hy1075, hy1063, hy1065]; exact end_cut (by decide) htB.2
                refine o_iload (pc' := 599) X1074 hx (hb hby at_597) rfl rfl ?_
                refine o_icmpF (pc' := 602) X1074 hx (hb hby at_599) (XT.ii_ne_f hE) rfl ?_
                refine o_iconst (pc' := 603) (v := (1 : Int32)) X1074 hx (hb hby at_602) rfl rfl ?_
                refine o_goto (pc' := 607) X1074 hx (hb hby at_603) (by decide) (by decide) ?_
                refine o_iand (pc' := 608) X1074 hx (hb hby at_607)  rfl ?_
                rw [show ((1 : Int32) &&& (1 : Int32)) = (1 : Int32) from by decide]
                refine o_istore (pc' := 610) (l' := #[.val (.int x0), .val (.int x1), .val (.int x2), .val (.int x3), .val (.int (4 : Int32)), .val (.int cp), .val (.ref b718), .val (.int (65536 : Int32)), .val (.int v758), .val (.int (3 : Int32)), .val (.ref b961), .val (.int (1 : Int32)), .val (.int (0 : Int32)), .val (.int (0 : Int32)), .val (.int v1047)]) X1074 hx (hb hby at_608) rfl rfl ?_
                refine o_iload (pc' := 612) X1074 hx (hb hby at_610) rfl rfl ?_
                refine o_retZ X1074 hx hret hlk (hb hby at_612) (by decide) (by decide) (by decide) ?_
                exact ⟨rfl, N1074_⟩
              by_cases c1070 : v1047 < (192 : Int32)
              · refine o_icmpT (pc' := 533) X1069 hx (hb hby at_518) (XT.ii_lt_t c1070) (by decide) (by decide) ?_
                refine o_iconst (pc' := 534) (v := (0 : Int32)) X1069 hx (hb hby at_533) rfl rfl ?_
                exact J1071 _ (if_pos c1070).symm
              · refine o_icmpF (pc' := 521) X1069 hx (hb hby at_518) (XT.ii_lt_f c1070) rfl ?_
                refine o_iload (pc' := 523) X1069 hx (hb hby at_521) rfl rfl ?_
                refine o_sipush (pc' := 526) (v := (247 : Int32)) X1069 hx (hb hby at_523) rfl rfl ?_
                by_cases c1072 : (247 : Int32) < v1047
                · refine o_icmpT (pc' := 533) X1069 hx (hb hby at_526) (XT.ii_gt_t c1072) (by decide) (by decide) ?_
                  refine o_iconst (pc' := 534) (v := (0 : Int32)) X1069 hx (hb hby at_533) rfl rfl ?_
                  exact J1071 _ ((if_neg c1070).trans (if_pos c1072)).symm
                · refine o_icmpF (pc' := 529) X1069 hx (hb hby at_526) (XT.ii_gt_f c1072) rfl ?_
                  refine o_iconst (pc' := 530) (v := (1 : Int32)) X1069 hx (hb hby at_529) rfl rfl ?_
                  refine o_goto (pc' := 534) X1069 hx (hb hby at_530) (by decide) (by decide) ?_
                  exact J1071 _ ((if_neg c1070).trans (if_neg c1072)).symm
            by_cases c1066 : v1047 < (128 : Int32)
            · refine o_icmpF (pc' := 489) X1048 hx (hb hby at_486) (XT.ii_ge_f c1066) rfl ?_
              refine o_iload (pc' := 491) X1048 hx (hb hby at_489) rfl rfl ?_
              refine o_goto (pc' := 495) X1048 hx (hb hby at_491) (by decide) (by decide) ?_
              exact J1067 _ (if_pos c1066).symm
            · refine o_icmpT (pc' := 494) X1048 hx (hb hby at_486) (XT.ii_ge_t c1066) (by decide) (by decide) ?_
              refine o_iconst (pc' := 495) (v := (-1 : Int32)) X1048 hx (hb hby at_494) rfl rfl ?_
              exact J1067 _ (if_neg c1066).symm
          by_cases c1045 : ((x3 &&& (255 : Int32)) &&& (192 : Int32)) = (128 : Int32)
          · refine o_icmpF (pc' := 465) X1029 hx (hb hby at_462) (XT.ii_ne_f c1045) rfl ?_
            refine o_iload (pc' := 467) X1029 hx (hb hby at_465) rfl rfl ?_
            refine o_bipush (pc' := 469) (v := (64 : Int32)) X1029 hx (hb hby at_467) rfl rfl ?_
            refine o_ixor (pc' := 470) X1029 hx (hb hby at_469)  rfl ?_
            refine o_istore (pc' := 472) (l' := #[.val (.int x0), .val (.int x1), .val (.int x2), .val (.int x3), .val (.int (4 : Int32)), .val (.int cp), .val (.ref b718), .val (.int (65536 : Int32)), .val (.int v758), .val (.int (3 : Int32)), .val (.ref b961), .val (.int (1 : Int32)), .val (.int (0 : Int32)), .unset, .val (.int ((x3 &&& (255 : Int32)) ^^^ (64 : Int32)))]) X1029 hx (hb hby at_470) rfl rfl ?_
            exact J1046 _ (if_pos c1045).symm
          · refine o_icmpT (pc' := 472) X1029 hx (hb hby at_462) (XT.ii_ne_t c1045) (by decide) (by decide) ?_
            exact J1046 _ (if_neg c1045).symm
      · obtain ⟨T1088, h1088_, X1088, e1088, E1088, A1088, D1088, -, st1088⟩ := newO X759 hx hZ hown (hw _ (List.mem_of_getElem? (i := 7) rfl)) (hw _ (List.mem_of_getElem? (i := 8) rfl)) (hw _ (List.mem_of_getElem? (i := 9) rfl)) e759 (g := (mkF m 281 #[.val (.int x0), .val (.int x1), .val (.int x2), .val (.int x3), .val (.int (4 : Int32)), .val (.int cp), .val (.ref b718), .val (.int (65536 : Int32)), .val (.int v758), .val (.int (4 : Int32)), .unset, .unset, .unset, .unset, .unset] [])) rfl (hb hby at_281) (by decide) (by decide)
        obtain ⟨b1088, g1088⟩ : ∃ z, z = h746_.size := ⟨_, rfl⟩
        rw [← g1088] at A1088 D1088 st1088
        have ne1089 : b718 ≠ b1088 := by rw [g1088]; exact Nat.ne_of_lt F747.lt
        have ge1090 : n0 ≤ b1088 := by rw [g1088]; exact Z752
        have K1091 := (Keep.refl h746_ []).ext E1088
        have F1092 := F749.keep K1091 all0
        have F1095 := F747.keep K1091 nin0
        have Z1096 := Nat.le_trans Z752 K1091.1
        have F1097 : Fld Z h1088_ b1088 "com/example/harborlog/harborlog/Utf8Decoder" "lacking" "I" (.int (0 : Int32)) := D1088 (Or.inl (hw _ (List.mem_of_getElem? (i := 26) rfl))) (ty := .int) (by decide)
        have F1098 : Fld Z h1088_ b1088 "com/example/harborlog/harborlog/Utf8Decoder" "malformed" "Z" (.int (0 : Int32)) := D1088 (Or.inl (hw _ (List.mem_of_getElem? (i := 28) rfl))) (ty := .boolean) (by decide)
        have F1099 : Fld Z h1088_ b1088 "com/example/harborlog/harborlog/Utf8Decoder" "given" "I" (.int (0 : Int32)) := D1088 (Or.inl (hw _ (List.mem_of_getElem? (i := 30) rfl))) (ty := .int) (by decide)
        have F1100 : Fld Z h1088_ b1088 "com/example/harborlog/harborlog/Utf8Decoder" "codePoint" "I" (.int (0 : Int32)) := D1088 (Or.inl (hw _ (List.mem_of_getElem? (i := 32) rfl))) (ty := .int) (by decide)
        refine oGo.step (f' := (mkF m 284 #[.val (.int x0), .val (.int x1), .val (.int x2), .val (.int x3), .val (.int (4 : Int32)), .val (.int cp), .val (.ref b718), .val (.int (65536 : Int32)), .val (.int v758), .val (.int (4 : Int32)), .unset, .unset, .unset, .unset, .unset] [(.ref b1088)])) st1088 ?_
        refine o_dup (pc' := 285) X1088 hx (hb hby at_284) rfl rfl ?_
        obtain ⟨r1101, T1101, L1101, X1101, hq1101, st1101⟩ := o_callN X1088 hx hZ hown rfl (hw _ (List.mem_of_getElem? (i := 10) rfl)) (hw _ (List.mem_of_getElem? (i := 11) rfl)) (hw _ (List.mem_of_getElem? (i := 9) rfl)) (hw _ (List.mem_of_getElem? (i := 12) rfl)) (by decide) (rm2 l Z a0 hw b1088 h1088_ n0 Z1096 ) e1088 (pc' := 288) (Ls := #[.val (.int x0), .val (.int x1), .val (.int x2), .val (.int x3), .val (.int (4 : Int32)), .val (.int cp), .val (.ref b718), .val (.int (65536 : Int32)), .val (.int v758), .val (.int (4 : Int32)), .unset, .unset, .unset, .unset, .unset]) (by rw [hml]; rfl) [] [(.ref b1088)] rfl pd2 rfl rfl 1 (Nat.le_of_eq rfl) (hb hby at_285) rfl (by decide) (by decide) (by decide) (by decide)
        obtain ⟨rfl, rfl, Kc1101⟩ := hq1101
        refine oGo.step (f' := (mkF m 288 #[.val (.int x0), .val (.int x1), .val (.int x2), .val (.int x3), .val (.int (4 : Int32)), .val (.int cp), .val (.ref b718), .val (.int (65536 : Int32)), .val (.int v758), .val (.int (4 : Int32)), .unset, .unset, .unset, .unset, .unset] [(.ref b1088)])) st1101 ?_
        have e1101 : T1101.heap = h1088_ := Kc1101
        have X1101 := o_same X1101 rfl rfl
        refine o_astore (pc' := 290) (l' := #[.val (.int x0), .val (.int x1), .val (.int x2), .val (.int x3), .val (.int (4 : Int32)), .val (.int cp), .val (.ref b718), .val (.int (65536 : Int32)), .val (.int v758), .val (.int (4 : Int32)), .val (.ref b1088), .unset, .unset, .unset, .unset]) X1101 hx (hb hby at_288) rfl rfl rfl ?_
        have eb0 : (((240 : Int32) ||| (cp >>> ((18 : Int32) &&& 31)))).toInt = 240 + cp.toInt / 262144 := own_hd (K := 240) 18 18 (by decide) hc0 (j := 3) (by decide) 8 (by decide) (by decide) (by decide) (by decide) (by omega) (by decide)
        have es1 := own_shr (cp := cp) 12 12 (by decide)
        have eb1 : (((128 : Int32) ||| ((cp >>> ((12 : Int32) &&& 31)) &&& (63 : Int32)))).toInt = 128 + cp.toInt / 4096 % 64 := by rw [own_tl (by omega), es1]; omega
        have es2 := own_shr (cp := cp) 6 6 (by decide)
        have eb2 : (((128 : Int32) ||| ((cp >>> ((6 : Int32) &&& 31)) &&& (63 : Int32)))).toInt = 128 + cp.toInt / 64 % 64 := by rw [own_tl (by omega), es2]; omega
        have eb3 : (((128 : Int32) ||| (cp &&& (63 : Int32)))).toInt = 128 + cp.toInt % 64 := own_tl hc0
        refine o_aload (pc' := 292) X1101 hx (hb hby at_290) rfl rfl rfl ?_
        refine o_aload (pc' := 294) X1101 hx (hb hby at_292) rfl rfl rfl ?_
        refine o_iconst (pc' := 295) (v := (0 : Int32)) X1101 hx (hb hby at_294) rfl rfl ?_
        refine o_iaload (pc' := 296) (v := ((240 : Int32) ||| (cp >>> ((18 : Int32) &&& 31)))) X1101 hx hZ e1101 F1095 (hb hby at_295) (by decide) rfl rfl ?_
        refine o_iconst (pc' := 297) (v := (0 : Int32)) X1101 hx (hb hby at_296) rfl rfl ?_
        refine o_iload (pc' := 299) X1101 hx (hb hby at_297) rfl rfl ?_
        refine o_iload (pc' := 301) X1101 hx (hb hby at_299) rfl rfl ?_
        refine o_iload (pc' := 303) X1101 hx (hb hby at_301) rfl rfl ?_
        obtain ⟨r1102, T1102, L1102, X1102, hq1102, st1102⟩ := o_callS X1101 hx hZ hown (hw _ (List.mem_of_getElem? (i := 16) rfl)) (hw _ (List.mem_of_getElem? (i := 17) rfl)) (hw _ (List.mem_of_getElem? (i := 18) rfl)) (hw _ (List.mem_of_getElem? (i := 19) rfl)) (by decide) (rm4 l Z a0 hw b1088 ((240 : Int32) ||| (cp >>> ((18 : Int32) &&& 31))) (0 : Int32) (4 : Int32) cp v758 (0 : Int32) (0 : Int32) (0 : Int32) (0 : Int32) r_LEAST h1088_ n0 Z1096 A1088 F1100 F1097 F1099 F1098 ge1090 own_inv0 F1092 S_LEAST A_LEAST) e1101 (pc' := 306) (Ls := #[.val (.int x0), .val (.int x1), .val (.int x2), .val (.int x3), .val (.int (4 : Int32)), .val (.int cp), .val (.ref b718), .val (.int (65536 : Int32)), .val (.int v758), .val (.int (4 : Int32)), .val (.ref b1088), .unset, .unset, .unset, .unset]) (by rw [hml]; rfl) [(.ref b1088), (.int ((240 : Int32) ||| (cp >>> ((18 : Int32) &&& 31)))), (.int (0 : Int32)), (.int (4 : Int32)), (.int cp), (.int v758)] [] rfl pd3 rfl rfl 0 (Nat.le_of_eq rfl) (hb hby at_303) rfl (by decide) (by decide) (by decide) (by decide)
        obtain ⟨rfl, N1102, Kc1102, E1102_, F1102_codePoint, F1102_lacking, F1102_given, F1102_malformed⟩ := hq1102
        obtain ⟨y1103, hy1103⟩ : ∃ z, z = (spec4 ((240 : Int32) ||| (cp >>> ((18 : Int32) &&& 31))) (0 : Int32) (4 : Int32) cp v758 (0 : Int32) (0 : Int32) (0 : Int32)) := ⟨_, rfl⟩
        rw [← hy1103] at st1102
        refine oGo.step (f' := (mkF m 306 #[.val (.int x0), .val (.int x1), .val (.int x2), .val (.int x3), .val (.int (4 : Int32)), .val (.int cp), .val (.ref b718), .val (.int (65536 : Int32)), .val (.int v758), .val (.int (4 : Int32)), .val (.ref b1088), .unset, .unset, .unset, .unset] [(.int y1103)])) st1102 ?_
        have N1102_ := Fr.app N746 N1102
        have K1104 := Kc1102
        have F1105 := F1092.keep K1104 (allS ge1090 all0)
        have F1108 := F1095.keep K1104 (ninS ne1089 nin0)
        have F1109 := A1088.keep K1104
        have Z1115 := Nat.le_trans Z1096 K1104.1
        obtain ⟨y1116, hy1116⟩ : ∃ z, z = (fld5_codePoint ((240 : Int32) ||| (cp >>> ((18 : Int32) &&& 31))) (0 : Int32) (0 : Int32)) := ⟨_, rfl⟩
        rw [← hy1116] at F1102_codePoint
        obtain ⟨y1117, hy1117⟩ : ∃ z, z = (fld5_lacking ((240 : Int32) ||| (cp >>> ((18 : Int32) &&& 31))) (0 : Int32)) := ⟨_, rfl⟩
        rw [← hy1117] at F1102_lacking
        obtain ⟨y1118, hy1118⟩ : ∃ z, z = (fld5_given ((240 : Int32) ||| (cp >>> ((18 : Int32) &&& 31))) (0 : Int32) (0 : Int32)) := ⟨_, rfl⟩
        rw [← hy1118] at F1102_given
        obtain ⟨y1119, hy1119⟩ : ∃ z, z = (fld5_malformed ((240 : Int32) ||| (cp >>> ((18 : Int32) &&& 31))) (0 : Int32) (0 : Int32) (0 : Int32) (0 : Int32)) := ⟨_, rfl⟩
        rw [← hy1119] at F1102_malformed
        have hI1102 : oInv y1117 y1118 y1119 := by rw [hy1117, hy1118, hy1119]; exact own_inv_next (0 : Int32) ((240 : Int32) ||| (cp >>> ((18 : Int32) &&& 31))) own_inv0
        have X1102 := o_flat X1102 rfl rfl
        have hS0 := st_lead (b := ((240 : Int32) ||| (cp >>> ((18 : Int32) &&& 31)))) (i := 0) (len := 4) (cp := cp) (vl := v758) (k := 3) (by omega) (by omega) (own_top3 (by omega)) (by decide)
        rw [← hy1103, ← hy1117, ← hy1118, ← hy1119, ← hy1116] at hS0
        obtain ⟨q1, q2, q3, q4, hcc0⟩ := hS0
        subst q1 q2 q3 q4
        have hcn0 : y1116.toInt = cp.toInt / 262144 := by rw [hcc0]; have m := (own_byte (x := ((240 : Int32) ||| (cp >>> ((18 : Int32) &&& 31)))) ⟨by omega, by omega⟩).2.2.2.2; rw [show ((63 : Int32) >>> ((3 : Int32) &&& 31)) = 7 from by decide]; omega
        refine o_istore (pc' := 308) (l' := #[.val (.int x0), .val (.int x1), .val (.int x2), .val (.int x3), .val (.int (4 : Int32)), .val (.int cp), .val (.ref b718), .val (.int (65536 : Int32)), .val (.int v758), .val (.int (4 : Int32)), .val (.ref b1088), .val (.int (1 : Int32)), .unset, .unset, .unset]) X1102 hx (hb hby at_306) rfl rfl ?_
        refine o_iload (pc' := 310) X1102 hx (hb hby at_308) rfl rfl ?_
        refine o_iconst (pc' := 311) (v := (1 : Int32)) X1102 hx (hb hby at_310) rfl rfl ?_
        refine o_icmpF (pc' := 314) X1102 hx (hb hby at_311) (XT.ii_le_f (by decide)) rfl ?_
        refine o_iload (pc' := 316) X1102 hx (hb hby at_314) rfl rfl ?_
        refine o_aload (pc' := 318) X1102 hx (hb hby at_316) rfl rfl rfl ?_
        refine o_aload (pc' := 320) X1102 hx (hb hby at_318) rfl rfl rfl ?_
        refine o_iconst (pc' := 321) (v := (1 : Int32)) X1102 hx (hb hby at_320) rfl rfl ?_
        refine o_iaload (pc' := 322) (v := ((128 : Int32) ||| ((cp >>> ((12 : Int32) &&& 31)) &&& (63 : Int32)))) X1102 hx hZ (rfl : T1102.heap = _) F1108 (hb hby at_321) (by decide) rfl rfl ?_
        refine o_iconst (pc' := 323) (v := (1 : Int32)) X1102 hx (hb hby at_322) rfl rfl ?_
        refine o_iload (pc' := 325) X1102 hx (hb hby at_323) rfl rfl ?_
        refine o_iload (pc' := 327) X1102 hx (hb hby at_325) rfl rfl ?_
        refine o_iload (pc' := 329) X1102 hx (hb hby at_327) rfl rfl ?_
        obtain ⟨r1120, T1120, L1120, X1120, hq1120, st1120⟩ := o_callS X1102 hx hZ hown (hw _ (List.mem_of_getElem? (i := 16) rfl)) (hw _ (List.mem_of_getElem? (i := 17) rfl)) (hw _ (List.mem_of_getElem? (i := 18) rfl)) (hw _ (List.mem_of_getElem? (i := 19) rfl)) (by decide) (rm4 l Z a0 hw b1088 ((128 : Int32) ||| ((cp >>> ((12 : Int32) &&& 31)) &&& (63 : Int32))) (1 : Int32) (4 : Int32) cp v758 y1116 (3 : Int32) (1 : Int32) (0 : Int32) r_LEAST T1102.heap n0 Z1115 E1102_ F1102_codePoint F1102_lacking F1102_given F1102_malformed ge1090 hI1102 F1105 S_LEAST A_LEAST) (rfl : T1102.heap = _) (pc' := 332) (Ls := #[.val (.int x0), .val (.int x1), .val (.int x2), .val (.int x3), .val (.int (4 : Int32)), .val (.int cp), .val (.ref b718), .val (.int (65536 : Int32)), .val (.int v758), .val (.int (4 : Int32)), .val (.ref b1088), .val (.int (1 : Int32)), .unset, .unset, .unset]) (by rw [hml]; rfl) [(.ref b1088), (.int ((128 : Int32) ||| ((cp >>> ((12 : Int32) &&& 31)) &&& (63 : Int32)))), (.int (1 : Int32)), (.int (4 : Int32)), (.int cp), (.int v758)] [(.int (1 : Int32))] rfl pd3 rfl rfl 1 (Nat.le_of_eq rfl) (hb hby at_329) rfl (by decide) (by decide) (by decide) (by decide)
        obtain ⟨rfl, N1120, Kc1120, E1120_, F1120_codePoint, F1120_lacking, F1120_given, F1120_malformed⟩ := hq1120
        obtain ⟨y1121, hy1121⟩ : ∃ z, z = (spec4 ((128 : Int32) ||| ((cp >>> ((12 : Int32) &&& 31)) &&& (63 : Int32))) (1 : Int32) (4 : Int32) cp v758 y1116 (3 : Int32) (1 : Int32)) := ⟨_, rfl⟩
        rw [← hy1121] at st1120
        refine oGo.step (f' := (mkF m 332 #[.val (.int x0), .val (.int x1), .val (.int x2), .val (.int x3), .val (.int (4 : Int32)), .val (.int cp), .val (.ref b718), .val (.int (65536 : Int32)), .val (.int v758), .val (.int (4 : Int32)), .val (.ref b1088), .val (.int (1 : Int32)), .unset, .unset, .unset] [(.int y1121), (.int (1 : Int32))])) st1120 ?_
        have N1120_ := Fr.app N1102_ N1120
        have K1122 := Kc1120
        have F1123 := F1105.keep K1122 (allS ge1090 all0)
        have F1126 := F1108.keep K1122 (ninS ne1089 nin0)
        have F1127 := E1102_.keep K1122
        have Z1133 := Nat.le_trans Z1115 K1122.1
        obtain ⟨y1134, hy1134⟩ : ∃ z, z = (fld5_codePoint ((128 : Int32) ||| ((cp >>> ((12 : Int32) &&& 31)) &&& (63 : Int32))) y1116 (3 : Int32)) := ⟨_, rfl⟩
        rw [← hy1134] at F1120_codePoint
        obtain ⟨y1135, hy1135⟩ : ∃ z, z = (fld5_lacking ((128 : Int32) ||| ((cp >>> ((12 : Int32) &&& 31)) &&& (63 : Int32))) (3 : Int32)) := ⟨_, rfl⟩
        rw [← hy1135] at F1120_lacking
        obtain ⟨y1136, hy1136⟩ : ∃ z, z = (fld5_given ((128 : Int32) ||| ((cp >>> ((12 : Int32) &&& 31)) &&& (63 : Int32))) (3 : Int32) (1 : Int32)) := ⟨_, rfl⟩
        rw [← hy1136] at F1120_given
        obtain ⟨y1137, hy1137⟩ : ∃ z, z = (fld5_malformed ((128 : Int32) ||| ((cp >>> ((12 : Int32) &&& 31)) &&& (63 : Int32))) y1116 (3 : Int32) (1 : Int32) (0 : Int32)) := ⟨_, rfl⟩
        rw [← hy1137] at F1120_malformed
        have hI1120 : oInv y1135 y1136 y1137 := by rw [hy1135, hy1136, hy1137]; exact own_inv_next y1116 ((128 : Int32) ||| ((cp >>> ((12 : Int32) &&& 31)) &&& (63 : Int32))) hI1102
        have X1120 := o_flat X1120 rfl rfl
        have hS1 := st_more (b := ((128 : Int32) ||| ((cp >>> ((12 : Int32) &&& 31)) &&& (63 : Int32)))) (i := 1) (len := 4) (cp := cp) (vl := v758) (c := y1116) (k := (3 : Int32)) (g := (1 : Int32)) (k' := 2) (g' := 2) ⟨by omega, by omega⟩ (by omega) (by omega) (by decide) rfl rfl (by decide) (by decide) (by omega) (by omega)
        rw [← hy1121, ← hy1135, ← hy1136, ← hy1137, ← hy1134] at hS1
        obtain ⟨q1, q2, q3, q4, hcc1⟩ := hS1
        subst q1 q2 q3 q4
        have hcn1 : y1134.toInt = cp.toInt / 4096 := by rw [hcc1]; omega
        refine o_iand (pc' := 333) X1120 hx (hb hby at_332)  rfl ?_
        rw [show ((1 : Int32) &&& (1 : Int32)) = (1 : Int32) from by decide]
        refine o_istore (pc' := 335) (l' := #[.val (.int x0), .val (.int x1), .val (.int x2), .val (.int x3), .val (.int (4 : Int32)), .val (.int cp), .val (.ref b718), .val (.int (65536 : Int32)), .val (.int v758), .val (.int (4 : Int32)), .val (.ref b1088), .val (.int (1 : Int32)), .unset, .unset, .unset]) X1120 hx (hb hby at_333) rfl rfl ?_
        refine o_iload (pc' := 337) X1120 hx (hb hby at_335) rfl rfl ?_
        refine o_iconst (pc' := 338) (v := (2 : Int32)) X1120 hx (hb hby at_337) rfl rfl ?_
        refine o_icmpF (pc' := 341) X1120 hx (hb hby at_338) (XT.ii_le_f (by decide)) rfl ?_
        refine o_iload (pc' := 343) X1120 hx (hb hby at_341) rfl rfl ?_
        refine o_aload (pc' := 345) X1120 hx (hb hby at_343) rfl rfl rfl ?_
        refine o_aload (pc' := 347) X1120 hx (hb hby at_345) rfl rfl rfl ?_
        refine o_iconst (pc' := 348) (v := (2 : Int32)) X1120 hx (hb hby at_347) rfl rfl ?_
        refine o_iaload (pc' := 349) (v := ((128 : Int32) ||| ((cp >>> ((6 : Int32) &&& 31)) &&& (63 : Int32)))) X1120 hx hZ (rfl : T1120.heap = _) F1126 (hb hby at_348) (by decide) rfl rfl ?_
        refine o_iconst (pc' := 350) (v := (2 : Int32)) X1120 hx (hb hby at_349) rfl rfl ?_
        refine o_iload (pc' := 352) X1120 hx (hb hby at_350) rfl rfl ?_
        refine o_iload (pc' := 354) X1120 hx (hb hby at_352) rfl rfl ?_
        refine o_iload (pc' := 356) X1120 hx (hb hby at_354) rfl rfl ?_
        obtain ⟨r1138, T1138, L1138, X1138, hq1138, st1138⟩ := o_callS X1120 hx hZ hown (hw _ (List.mem_of_getElem? (i := 16) rfl)) (hw _ (List.mem_of_getElem? (i := 17) rfl)) (hw _ (List.mem_of_getElem? (i := 18) rfl)) (hw _ (List.mem_of_getElem? (i := 19) rfl)) (by decide) (rm4 l Z a0 hw b1088 ((128 : Int32) ||| ((cp >>> ((6 : Int32) &&& 31)) &&& (63 : Int32))) (2 : Int32) (4 : Int32) cp v758 y1134 (2 : Int32) (2 : Int32) (0 : Int32) r_LEAST T1120.heap n0 Z1133 E1120_ F1120_codePoint F1120_lacking F1120_given F1120_malformed ge1090 hI1120 F1123 S_LEAST A_LEAST) (rfl : T1120.heap = _) (pc' := 359) (Ls := #[.val (.int x0), .val (.int x1), .val (.int x2), .val (.int x3), .val (.int (4 : Int32)), .val (.int cp), .val (.ref b718), .val (.int (65536 : Int32)), .val (.int v758), .val (.int (4 : Int32)), .val (.ref b1088), .val (.int (1 : Int32)), .unset, .unset, .unset]) (by rw [hml]; rfl) [(.ref b1088), (.int ((128 : Int32) ||| ((cp >>> ((6 : Int32) &&& 31)) &&& (63 : Int32)))), (.int (2 : Int32)), (.int (4 : Int32)), (.int cp), (.int v758)] [(.int (1 : Int32))] rfl pd3 rfl rfl 1 (Nat.le_of_eq rfl) (hb hby at_356) rfl (by decide) (by decide) (by decide) (by decide)
        obtain ⟨rfl, N1138, Kc1138, E1138_, F1138_codePoint, F1138_lacking, F1138_given, F1138_malformed⟩ := hq1138
        obtain ⟨y1139, hy1139⟩ : ∃ z, z = (spec4 ((128 : Int32) ||| ((cp >>> ((6 : Int32) &&& 31)) &&& (63 : Int32))) (2 : Int32) (4 : Int32) cp v758 y1134 (2 : Int32) (2 : Int32)) := ⟨_, rfl⟩
        rw [← hy1139] at st1138
        refine oGo.step (f' := (mkF m 359 #[.val (.int x0), .val (.int x1), .val (.int x2), .val (.int x3), .val (.int (4 : Int32)), .val (.int cp), .val (.ref b718), .val (.int (65536 : Int32)), .val (.int v758), .val (.int (4 : Int32)), .val (.ref b1088), .val (.int (1 : Int32)), .unset, .unset, .unset] [(.int y1139), (.int (1 : Int32))])) st1138 ?_
        have N1138_ := Fr.app N1120_ N1138
        have K1140 := Kc1138
        have F1141 := F1123.keep K1140 (allS ge1090 all0)
        have F1144 := F1126.keep K1140 (ninS ne1089 nin0)
        have F1145 := E1120_.keep K1140
        have Z1151 := Nat.le_trans Z1133 K1140.1
        obtain ⟨y1152, hy1152⟩ : ∃ z, z = (fld5_codePoint ((128 : Int32) ||| ((cp >>> ((6 : Int32) &&& 31)) &&& (63 : Int32))) y1134 (2 : Int32)) := ⟨_, rfl⟩
        rw [← hy1152] at F1138_codePoint
        obtain ⟨y1153, hy1153⟩ : ∃ z, z = (fld5_lacking ((128 : Int32) ||| ((cp >>> ((6 : Int32) &&& 31)) &&& (63 : Int32))) (2 : Int32)) := ⟨_, rfl⟩
        rw [← hy1153] at F1138_lacking
        obtain ⟨y1154, hy1154⟩ : ∃ z, z = (fld5_given ((128 : Int32) ||| ((cp >>> ((6 : Int32) &&& 31)) &&& (63 : Int32))) (2 : Int32) (2 : Int32)) := ⟨_, rfl⟩
        rw [← hy1154] at F1138_given
        obtain ⟨y1155, hy1155⟩ : ∃ z, z = (fld5_malformed ((128 : Int32) ||| ((cp >>> ((6 : Int32) &&& 31)) &&& (63 : Int32))) y1134 (2 : Int32) (2 : Int32) (0 : Int32)) := ⟨_, rfl⟩
        rw [← hy1155] at F1138_malformed
        have hI1138 : oInv y1153 y1154 y1155 := by rw [hy1153, hy1154, hy1155]; exact own_inv_next y1134 ((128 : Int32) ||| ((cp >>> ((6 : Int32) &&& 31)) &&& (63 : Int32))) hI1120
        have X1138 := o_flat X1138 rfl rfl
        have hS2 := st_more (b := ((128 : Int32) ||| ((cp >>> ((6 : Int32) &&& 31)) &&& (63 : Int32)))) (i := 2) (len := 4) (cp := cp) (vl := v758) (c := y1134) (k := (2 : Int32)) (g := (2 : Int32)) (k' := 1) (g' := 3) ⟨by omega, by omega⟩ (by omega) (by omega) (by decide) rfl rfl (by decide) (by decide) (by omega) (by omega)
        rw [← hy1139, ← hy1153, ← hy1154, ← hy1155, ← hy1152] at hS2
        obtain ⟨q1, q2, q3, q4, hcc2⟩ := hS2
        subst q1 q2 q3 q4
        have hcn2 : y1152.toInt = cp.toInt / 64 := by rw [hcc2]; omega
        refine o_iand (pc' := 360) X1138 hx (hb hby at_359)  rfl ?_
        rw [show ((1 : Int32) &&& (1 : Int32)) = (1 : Int32) from by decide]
        refine o_istore (pc' := 362) (l' := #[.val (.int x0), .val (.int x1), .val (.int x2), .val (.int x3), .val (.int (4 : Int32)), .val (.int cp), .val (.ref b718), .val (.int (65536 : Int32)), .val (.int v758), .val (.int (4 : Int32)), .val (.ref b1088), .val (.int (1 : Int32)), .unset, .unset, .unset]) X1138 hx (hb hby at_360) rfl rfl ?_
        refine o_iload (pc' := 364) X1138 hx (hb hby at_362) rfl rfl ?_
        refine o_iconst (pc' := 365) (v := (3 : Int32)) X1138 hx (hb hby at_364) rfl rfl ?_
        refine o_icmpF (pc' := 368) X1138 hx (hb hby at_365) (XT.ii_le_f (by decide)) rfl ?_
        refine o_iload (pc' := 370) X1138 hx (hb hby at_368) rfl rfl ?_
        refine o_aload (pc' := 372) X1138 hx (hb hby at_370) rfl rfl rfl ?_
        refine o_aload (pc' := 374) X1138 hx (hb hby at_372) rfl rfl rfl ?_
        refine o_iconst (pc' := 375) (v := (3 : Int32)) X1138 hx (hb hby at_374) rfl rfl ?_
        refine o_iaload (pc' := 376) (v := ((128 : Int32) ||| (cp &&& (63 : Int32)))) X1138 hx hZ (rfl : T1138.heap = _) F1144 (hb hby at_375) (by decide) rfl rfl ?_
        refine o_iconst (pc' := 377) (v := (3 : Int32)) X1138 hx (hb hby at_376) rfl rfl ?_
        refine o_iload (pc' := 379) X1138 hx (hb hby at_377) rfl rfl ?_
        refine o_iload (pc' := 381) X1138 hx (hb hby at_379) rfl rfl ?_
        refine o_iload (pc' := 383) X1138 hx (hb hby at_381) rfl rfl ?_
        obtain ⟨r1156, T1156, L1156, X1156, hq1156, st1156⟩ := o_callS X1138 hx hZ hown (hw _ (List.mem_of_getElem? (i := 16) rfl)) (hw _ (List.mem_of_getElem? (i := 17) rfl)) (hw _ (List.mem_of_getElem? (i := 18) rfl)) (hw _ (List.mem_of_getElem? (i := 19) rfl)) (by decide) (rm4 l Z a0 hw b1088 ((128 : Int32) ||| (cp &&& (63 : Int32))) (3 : Int32) (4 : Int32) cp v758 y1152 (1 : Int32) (3 : Int32) (0 : Int32) r_LEAST T1138.heap n0 Z1151 E1138_ F1138_codePoint F1138_lacking F1138_given F1138_malformed ge1090 hI1138 F1141 S_LEAST A_LEAST) (rfl : T1138.heap = _) (pc' := 386) (Ls := #[.val (.int x0), .val (.int x1), .val (.int x2), .val (.int x3), .val (.int (4 : Int32)), .val (.int cp), .val (.ref b718), .val (.int (65536 : Int32)), .val (.int v758), .val (.int (4 : Int32)), .val (.ref b1088), .val (.int (1 : Int32)), .unset, .unset, .unset]) (by rw [hml]; rfl) [(.ref b1088), (.int ((128 : Int32) ||| (cp &&& (63 : Int32)))), (.int (3 : Int32)), (.int (4 : Int32)), (.int cp), (.int v758)] [(.int (1 : Int32))] rfl pd3 rfl rfl 1 (Nat.le_of_eq rfl) (hb hby at_383) rfl (by decide) (by decide) (by decide) (by decide)
        obtain ⟨rfl, N1156, Kc1156, E1156_, F1156_codePoint, F1156_lacking, F1156_given, F1156_malformed⟩ := hq1156
        obtain ⟨y1157, hy1157⟩ : ∃ z, z = (spec4 ((128 : Int32) ||| (cp &&& (63 : Int32))) (3 : Int32) (4 : Int32) cp v758 y1152 (1 : Int32) (3 : Int32)) := ⟨_, rfl⟩
        rw [← hy1157] at st1156
        refine oGo.step (f' := (mkF m 386 #[.val (.int x0), .val (.int x1), .val (.int x2), .val (.int x3), .val (.int (4 : Int32)), .val (.int cp), .val (.ref b718), .val (.int (65536 : Int32)), .val (.int v758), .val (.int (4 : Int32)), .val (.ref b1088), .val (.int (1 : Int32)), .unset, .unset, .unset] [(.int y1157), (.int (1 : Int32))])) st1156 ?_
        have N1156_ := Fr.app N1138_ N1156
        have K1158 := Kc1156
        have F1159 := F1141.keep K1158 (allS ge1090 all0)
        have F1162 := F1144.keep K1158 (ninS ne1089 nin0)
        have F1163 := E1138_.keep K1158
        have Z1169 := Nat.le_trans Z1151 K1158.1
        obtain ⟨y1170, hy1170⟩ : ∃ z, z = (fld5_codePoint ((128 : Int32) ||| (cp &&& (63 : Int32))) y1152 (1 : Int32)) := ⟨_, rfl⟩
        rw [← hy1170] at F1156_codePoint
        obtain ⟨y1171, hy1171⟩ : ∃ z, z = (fld5_lacking ((128 : Int32) ||| (cp &&& (63 : Int32))) (1 : Int32)) := ⟨_, rfl⟩
        rw [← hy1171] at F1156_lacking
        obtain ⟨y1172, hy1172⟩ : ∃ z, z = (fld5_given ((128 : Int32) ||| (cp &&& (63 : Int32))) (1 : Int32) (3 : Int32)) := ⟨_, rfl⟩
        rw [← hy1172] at F1156_given
        obtain ⟨y1173, hy1173⟩ : ∃ z, z = (fld5_malformed ((128 : Int32) ||| (cp &&& (63 : Int32))) y1152 (1 : Int32) (3 : Int32) (0 : Int32)) := ⟨_, rfl⟩
        rw [← hy1173] at F1156_malformed
        have hI1156 : oInv y1171 y1172 y1173 := by rw [hy1171, hy1172, hy1173]; exact own_inv_next y1152 ((128 : Int32) ||| (cp &&& (63 : Int32))) hI1138
        have X1156 := o_flat X1156 rfl rfl
        have hS3 := st_last (b := ((128 : Int32) ||| (cp &&& (63 : Int32)))) (i := 3) (len := 4) (cp := cp) (vl := v758) (c := y1152) (k := (1 : Int32)) (g := (3 : Int32)) ⟨by omega, by omega⟩ (by omega) (by omega) (by decide) rfl rfl (by omega) (by omega) (by omega) hcn hval
        rw [← hy1157, ← hy1171, ← hy1172, ← hy1173] at hS3
        obtain ⟨q1, q2, q3, hzz⟩ := hS3
        subst q1 q2 q3
        refine o_iand (pc' := 387) X1156 hx (hb hby at_386)  rfl ?_
        rw [show ((1 : Int32) &&& (1 : Int32)) = (1 : Int32) from by decide]
        refine o_istore (pc' := 389) (l' := #[.val (.int x0), .val (.int x1), .val (.int x2), .val (.int x3), .val (.int (4 : Int32)), .val (.int cp), .val (.ref b718), .val (.int (65536 : Int32)), .val (.int v758), .val (.int (4 : Int32)), .val (.ref b1088), .val (.int (1 : Int32)), .unset, .unset, .unset]) X1156 hx (hb hby at_387) rfl rfl ?_
        refine o_iload (pc' := 391) X1156 hx (hb hby at_389) rfl rfl ?_
        refine o_iload (pc' := 393) X1156 hx (hb hby at_391) rfl rfl ?_
        refine o_icmpF (pc' := 396) X1156 hx (hb hby at_393) (XT.ii_ne_f (by decide)) rfl ?_
        refine o_iconst (pc' := 397) (v := (1 : Int32)) X1156 hx (hb hby at_396) rfl rfl ?_
        refine o_goto (pc' := 401) X1156 hx (hb hby at_397) (by decide) (by decide) ?_
        refine o_istore (pc' := 403) (l' := #[.val (.int x0), .val (.int x1), .val (.int x2), .val (.int x3), .val (.int (4 : Int32)), .val (.int cp), .val (.ref b718), .val (.int (65536 : Int32)), .val (.int v758), .val (.int (4 : Int32)), .val (.ref b1088), .val (.int (1 : Int32)), .val (.int (1 : Int32)), .unset, .unset]) X1156 hx (hb hby at_401) rfl rfl ?_
        refine o_iload (pc' := 405) X1156 hx (hb hby at_403) rfl rfl ?_
        refine o_aload (pc' := 407) X1156 hx (hb hby at_405) rfl rfl rfl ?_
        obtain ⟨r1174, T1174, L1174, X1174, hq1174, st1174⟩ := o_callV X1156 hx hZ hown (hw _ (List.mem_of_getElem? (i := 33) rfl)) (hw _ (List.mem_of_getElem? (i := 34) rfl)) (hw _ (List.mem_of_getElem? (i := 36) rfl)) (hw _ (List.mem_of_getElem? (i := 35) rfl)) (hw _ (List.mem_of_getElem? (i := 9) rfl)) (hw _ (List.mem_of_getElem? (i := 37) rfl)) (by decide) E1156_ (rm6 l Z a0 hw b1088 (0 : Int32) T1156.heap n0 Z1169 E1156_ F1156_given) (rfl : T1156.heap = _) (pc' := 410) (Ls := #[.val (.int x0), .val (.int x1), .val (.int x2), .val (.int x3), .val (.int (4 : Int32)), .val (.int cp), .val (.ref b718), .val (.int (65536 : Int32)), .val (.int v758), .val (.int (4 : Int32)), .val (.ref b1088), .val (.int (1 : Int32)), .val (.int (1 : Int32)), .unset, .unset]) (by rw [hml]; rfl) [] [(.int (1 : Int32))] rfl pd4 rfl rfl 1 (Nat.le_of_eq rfl) (hb hby at_407) rfl (by decide) (by decide) (by decide) (by decide)
        obtain ⟨rfl, rfl, Kc1174⟩ := hq1174
        refine oGo.step (f' := (mkF m 410 #[.val (.int x0), .val (.int x1), .val (.int x2), .val (.int x3), .val (.int (4 : Int32)), .val (.int cp), .val (.ref b718), .val (.int (65536 : Int32)), .val (.int v758), .val (.int (4 : Int32)), .val (.ref b1088), .val (.int (1 : Int32)), .val (.int (1 : Int32)), .unset, .unset] [(.int (0 : Int32)), (.int (1 : Int32))])) st1174 ?_
        have e1174 : T1174.heap = T1156.heap := Kc1174
        have X1174 := o_same X1174 rfl rfl
        refine o_iload (pc' := 412) X1174 hx (hb hby at_410) rfl rfl ?_
        refine o_ifF (pc' := 415) X1174 hx (hb hby at_412) (XT.i0_eq_f (by decide)) rfl ?_
        refine o_iconst (pc' := 416) (v := (0 : Int32)) X1174 hx (hb hby at_415) rfl rfl ?_
        refine o_goto (pc' := 421) X1174 hx (hb hby at_416) (by decide) (by decide) ?_
        refine o_icmpF (pc' := 424) X1174 hx (hb hby at_421) (XT.ii_ne_f (by decide)) rfl ?_
        refine o_iconst (pc' := 425) (v := (1 : Int32)) X1174 hx (hb hby at_424) rfl rfl ?_
        refine o_goto (pc' := 429) X1174 hx (hb hby at_425) (by decide) (by decide) ?_
        refine o_iand (pc' := 430) X1174 hx (hb hby at_429)  rfl ?_
        rw [show ((1 : Int32) &&& (1 : Int32)) = (1 : Int32) from by decide]
        refine o_istore (pc' := 432) (l' := #[.val (.int x0), .val (.int x1), .val (.int x2), .val (.int x3), .val (.int (4 : Int32)), .val (.int cp), .val (.ref b718), .val (.int (65536 : Int32)), .val (.int v758), .val (.int (4 : Int32)), .val (.ref b1088), .val (.int (1 : Int32)), .val (.int (1 : Int32)), .unset, .unset]) X1174 hx (hb hby at_430) rfl rfl ?_
        refine o_iloadN (pc' := 433) X1174 hx (hb hby at_432) rfl rfl ?_
        refine o_bipush (pc' := 435) (v := (8 : Int32)) X1174 hx (hb hby at_433) rfl rfl ?_
        refine o_iushr (pc' := 436) X1174 hx (hb hby at_435)  rfl ?_
        refine o_iconst (pc' := 437) (v := (1 : Int32)) X1174 hx (hb hby at_436) rfl rfl ?_
        refine o_iand (pc' := 438) X1174 hx (hb hby at_437)  rfl ?_
        by_cases c1175 : ((XT.ushr x3 (8 : Int32)) &&& (1 : Int32)) = 0
        · refine o_ifT (pc' := 573) X1174 hx (hb hby at_438) (XT.i0_eq_t c1175) (by decide) (by decide) ?_
          refine o_iload (pc' := 575) X1174 hx (hb hby at_573) rfl rfl ?_
          refine o_ifF (pc' := 578) X1174 hx (hb hby at_575) (XT.i0_eq_f (by decide)) rfl ?_
          refine o_iload (pc' := 580) X1174 hx (hb hby at_578) rfl rfl ?_
          have J1177 : ∀ (v1178 : Int32), v1178 = (if v758 = 0 then (0 : Int32) else (1 : Int32)) → oGo p e below (oG s (fun v h L => v = some (.int 1) ∧ Fr n0 L) room_1.cells room_1.slots) T1174 (mkF m 588 #[.val (.int x0), .val (.int x1), .val (.int x2), .val (.int x3), .val (.int (4 : Int32)), .val (.int cp), .val (.ref b718), .val (.int (65536 : Int32)), .val (.int v758), .val (.int (4 : Int32)), .val (.ref b1088), .val (.int (1 : Int32)), .val (.int (1 : Int32)), .unset, .unset] [(.int v1178)]) := by
            intro v1178 hv1178
            refine o_istore (pc' := 590) (l' := #[.val (.int x0), .val (.int x1), .val (.int x2), .val (.int x3), .val (.int (4 : Int32)), .val (.int cp), .val (.ref b718), .val (.int (65536 : Int32)), .val (.int v758), .val (.int (4 : Int32)), .val (.ref b1088), .val (.int (1 : Int32)), .val (.int (1 : Int32)), .val (.int v1178), .unset]) X1174 hx (hb hby at_588) rfl rfl ?_
            refine o_iload (pc' := 592) X1174 hx (hb hby at_590) rfl rfl ?_
            refine o_aload (pc' := 594) X1174 hx (hb hby at_592) rfl rfl rfl ?_
            obtain ⟨r1179, T1179, L1179, X1179, hq1179, st1179⟩ := o_callV X1174 hx hZ hown (hw _ (List.mem_of_getElem? (i := 38) rfl)) (hw _ (List.mem_of_getElem? (i := 39) rfl)) (hw _ (List.mem_of_getElem? (i := 41) rfl)) (hw _ (List.mem_of_getElem? (i := 40) rfl)) (hw _ (List.mem_of_getElem? (i := 9) rfl)) (hw _ (List.mem_of_getElem? (i := 42) rfl)) (by decide) E1156_ (rm7 l Z a0 hw b1088 y1170 (0 : Int32) (0 : Int32) y1173 T1156.heap n0 Z1169 E1156_ F1156_codePoint F1156_lacking F1156_given F1156_malformed ge1090) e1174 (pc' := 597) (Ls := #[.val (.int x0), .val (.int x1), .val (.int x2), .val (.int x3), .val (.int (4 : Int32)), .val (.int cp), .val (.ref b718), .val (.int (65536 : Int32)), .val (.int v758), .val (.int (4 : Int32)), .val (.ref b1088), .val (.int (1 : Int32)), .val (.int (1 : Int32)), .val (.int v1178), .unset]) (by rw [hml]; rfl) [] [(.int (1 : Int32))] rfl pd5 rfl rfl 1 (Nat.le_of_eq rfl) (hb hby at_594) rfl (by decide) (by decide) (by decide) (by decide)
            obtain ⟨rfl, N1179, Kc1179, E1179_, F1179_codePoint, F1179_lacking, F1179_given, F1179_malformed⟩ := hq1179
            obtain ⟨y1180, hy1180⟩ : ∃ z, z = (spec7 (0 : Int32) y1173) := ⟨_, rfl⟩
            rw [← hy1180] at st1179
            refine oGo.step (f' := (mkF m 597 #[.val (.int x0), .val (.int x1), .val (.int x2), .val (.int x3), .val (.int (4 : Int32)), .val (.int cp), .val (.ref b718), .val (.int (65536 : Int32)), .val (.int v758), .val (.int (4 : Int32)), .val (.ref b1088), .val (.int (1 : Int32)), .val (.int (1 : Int32)), .val (.int v1178), .unset] [(.int y1180), (.int (1 : Int32))])) st1179 ?_
            have N1179_ := Fr.app N1156_ N1179
            have K1181 := Kc1179
            have F1182 := F1159.keep K1181 (allS ge1090 all0)
            have F1185 := F1162.keep K1181 (ninS ne1089 nin0)
            have F1186 := E1156_.keep K1181
            have Z1192 := Nat.le_trans Z1169 K1181.1
            have X1179 := o_flat X1179 rfl rfl
            have hE : y1180 = v1178 := by rw [hy1180, hv1178, hzz, hval]; split <;> rfl
            refine o_iload (pc' := 599) X1179 hx (hb hby at_597) rfl rfl ?_
            refine o_icmpF (pc' := 602) X1179 hx (hb hby at_599) (XT.ii_ne_f hE) rfl ?_
            refine o_iconst (pc' := 603) (v := (1 : Int32)) X1179 hx (hb hby at_602) rfl rfl ?_
            refine o_goto (pc' := 607) X1179 hx (hb hby at_603) (by decide) (by decide) ?_
            refine o_iand (pc' := 608) X1179 hx (hb hby at_607)  rfl ?_
            rw [show ((1 : Int32) &&& (1 : Int32)) = (1 : Int32) from by decide]
            refine o_istore (pc' := 610) (l' := #[.val (.int x0), .val (.int x1), .val (.int x2), .val (.int x3), .val (.int (4 : Int32)), .val (.int cp), .val (.ref b718), .val (.int (65536 : Int32)), .val (.int v758), .val (.int (4 : Int32)), .val (.ref b1088), .val (.int (1 : Int32)), .val (.int (1 : Int32)), .val (.int v1178), .unset]) X1179 hx (hb hby at_608) rfl rfl ?_
            refine o_iload (pc' := 612) X1179 hx (hb hby at_610) rfl rfl ?_
            refine o_retZ X1179 hx hret hlk (hb hby at_612) (by decide) (by decide) (by decide) ?_
            exact ⟨rfl, N1179_⟩
          by_cases c1176 : v758 = 0
          · refine o_ifT (pc' := 587) X1174 hx (hb hby at_580) (XT.i0_eq_t c1176) (by decide) (by decide) ?_
            refine o_iconst (pc' := 588) (v := (0 : Int32)) X1174 hx (hb hby at_587) rfl rfl ?_
            exact J1177 _ (if_pos c1176).symm
          · refine o_ifF (pc' := 583) X1174 hx (hb hby at_580) (XT.i0_eq_f c1176) rfl ?_
            refine o_iconst (pc' := 584) (v := (1 : Int32)) X1174 hx (hb hby at_583) rfl rfl ?_
            refine o_goto (pc' := 588) X1174 hx (hb hby at_584) (by decide) (by decide) ?_
            exact J1177 _ (if_neg c1176).symm
        · refine o_ifF (pc' := 441) X1174 hx (hb hby at_438) (XT.i0_eq_f c1175) rfl ?_
          refine o_iloadN (pc' := 442) X1174 hx (hb hby at_441) rfl rfl ?_
          refine o_sipush (pc' := 445) (v := (255 : Int32)) X1174 hx (hb hby at_442) rfl rfl ?_
          refine o_iand (pc' := 446) X1174 hx (hb hby at_445)  rfl ?_
          refine o_istore (pc' := 448) (l' := #[.val (.int x0), .val (.int x1), .val (.int x2), .val (.int x3), .val (.int (4 : Int32)), .val (.int cp), .val (.ref b718), .val (.int (65536 : Int32)), .val (.int v758), .val (.int (4 : Int32)), .val (.ref b1088), .val (.int (1 : Int32)), .val (.int (1 : Int32)), .unset, .val (.int (x3 &&& (255 : Int32)))]) X1174 hx (hb hby at_446) rfl rfl ?_
          refine o_iload (pc' := 450) X1174 hx (hb hby at_448) rfl rfl ?_
          refine o_ifT (pc' := 472) X1174 hx (hb hby at_450) (XT.i0_ne_t (by decide)) (by decide) (by decide) ?_
          refine o_iload (pc' := 474) X1174 hx (hb hby at_472) rfl rfl ?_
          refine o_aload (pc' := 476) X1174 hx (hb hby at_474) rfl rfl rfl ?_
          refine o_iload (pc' := 478) X1174 hx (hb hby at_476) rfl rfl ?_
          have htB := own_m255 x3
          obtain ⟨r1193, T1193, L1193, X1193, hq1193, st1193⟩ := o_callV X1174 hx hZ hown (hw _ (List.mem_of_getElem? (i := 20) rfl)) (hw _ (List.mem_of_getElem? (i := 21) rfl)) (hw _ (List.mem_of_getElem? (i := 23) rfl)) (hw _ (List.mem_of_getElem? (i := 22) rfl)) (hw _ (List.mem_of_getElem? (i := 9) rfl)) (hw _ (List.mem_of_getElem? (i := 24) rfl)) (by decide) E1156_ (rm5 l Z a0 hw b1088 (x3 &&& (255 : Int32)) y1170 (0 : Int32) (0 : Int32) y1173 r_LEAST T1156.heap n0 Z1169 E1156_ F1156_codePoint F1156_lacking F1156_given F1156_malformed ge1090 hI1156 F1159 S_LEAST A_LEAST) e1174 (pc' := 481) (Ls := #[.val (.int x0), .val (.int x1), .val (.int x2), .val (.int x3), .val (.int (4 : Int32)), .val (.int cp), .val (.ref b718), .val (.int (65536 : Int32)), .val (.int v758), .val (.int (4 : Int32)), .val (.ref b1088), .val (.int (1 : Int32)), .val (.int (1 : Int32)), .unset, .val (.int (x3 &&& (255 : Int32)))]) (by rw [hml]; rfl) [(.int (x3 &&& (255 : Int32)))] [(.int (1 : Int32))] rfl pd0 rfl rfl 1 (Nat.le_of_eq rfl) (hb hby at_478) rfl (by decide) (by decide) (by decide) (by decide)
          obtain ⟨rfl, N1193, Kc1193, E1193_, F1193_codePoint, F1193_lacking, F1193_given, F1193_malformed⟩ := hq1193
          obtain ⟨y1194, hy1194⟩ : ∃ z, z = (spec5 (x3 &&& (255 : Int32)) y1170 (0 : Int32) (0 : Int32)) := ⟨_, rfl⟩
          rw [← hy1194] at st1193
          refine oGo.step (f' := (mkF m 481 #[.val (.int x0), .val (.int x1), .val (.int x2), .val (.int x3), .val (.int (4 : Int32)), .val (.int cp), .val (.ref b718), .val (.int (65536 : Int32)), .val (.int v758), .val (.int (4 : Int32)), .val (.ref b1088), .val (.int (1 : Int32)), .val (.int (1 : Int32)), .unset, .val (.int (x3 &&& (255 : Int32)))] [(.int y1194), (.int (1 : Int32))])) st1193 ?_
          have N1193_ := Fr.app N1156_ N1193
          have K1195 := Kc1193
          have F1196 := F1159.keep K1195 (allS ge1090 all0)
          have F1199 := F1162.keep K1195 (ninS ne1089 nin0)
          have F1200 := E1156_.keep K1195
          have Z1206 := Nat.le_trans Z1169 K1195.1
          obtain ⟨y1207, hy1207⟩ : ∃ z, z = (fld5_codePoint (x3 &&& (255 : Int32)) y1170 (0 : Int32)) := ⟨_, rfl⟩
          rw [← hy1207] at F1193_codePoint
          obtain ⟨y1208, hy1208⟩ : ∃ z, z = (fld5_lacking (x3 &&& (255 : Int32)) (0 : Int32)) := ⟨_, rfl⟩
          rw [← hy1208] at F1193_lacking
          obtain ⟨y1209, hy1209⟩ : ∃ z, z = (fld5_given (x3 &&& (255 : Int32)) (0 : Int32) (0 : Int32)) := ⟨_, rfl⟩
          rw [← hy1209] at F1193_given
          obtain ⟨y1210, hy1210⟩ : ∃ z, z = (fld5_malformed (x3 &&& (255 : Int32)) y1170 (0 : Int32) (0 : Int32) y1173) := ⟨_, rfl⟩
          rw [← hy1210] at F1193_malformed
          have hI1193 : oInv y1208 y1209 y1210 := by rw [hy1208, hy1209, hy1210]; exact own_inv_next y1170 (x3 &&& (255 : Int32)) hI1156
          have X1193 := o_flat X1193 rfl rfl
          have hA := nx_any (t := (x3 &&& (255 : Int32))) (cp := y1170) (k := (0 : Int32)) (g := (0 : Int32)) (z := y1173) (by rw [hzz]; split; exact Or.inl rfl; exact Or.inr rfl) (Or.inl rfl)
          rw [← hy1194, ← hy1209] at hA
          refine o_iload (pc' := 483) X1193 hx (hb hby at_481) rfl rfl ?_
          refine o_sipush (pc' := 486) (v := (128 : Int32)) X1193 hx (hb hby at_483) rfl rfl ?_
          have J1212 : ∀ (v1213 : Int32), v1213 = (if (x3 &&& (255 : Int32)) < (128 : Int32) then (x3 &&& (255 : Int32)) else (-1 : Int32)) → oGo p e below (oG s (fun v h L => v = some (.int 1) ∧ Fr n0 L) room_1.cells room_1.slots) T1193 (mkF m 495 #[.val (.int x0), .val (.int x1), .val (.int x2), .val (.int x3), .val (.int (4 : Int32)), .val (.int cp), .val (.ref b718), .val (.int (65536 : Int32)), .val (.int v758), .val (.int (4 : Int32)), .val (.ref b1088), .val (.int (1 : Int32)), .val (.int (1 : Int32)), .unset, .val (.int (x3 &&& (255 : Int32)))] [(.int v1213), (.int y1194), (.int (1 : Int32))]) := by
            intro v1213 hv1213
            refine o_icmpF (pc' := 498) X1193 hx (hb hby at_495) (XT.ii_ne_f (hA.1.trans hv1213.symm)) rfl ?_
            refine o_iconst (pc' := 499) (v := (1 : Int32)) X1193 hx (hb hby at_498) rfl rfl ?_
            refine o_goto (pc' := 503) X1193 hx (hb hby at_499) (by decide) (by decide) ?_
            refine o_iand (pc' := 504) X1193 hx (hb hby at_503)  rfl ?_
            rw [show ((1 : Int32) &&& (1 : Int32)) = (1 : Int32) from by decide]
            refine o_istore (pc' := 506) (l' := #[.val (.int x0), .val (.int x1), .val (.int x2), .val (.int x3), .val (.int (4 : Int32)), .val (.int cp), .val (.ref b718), .val (.int (65536 : Int32)), .val (.int v758), .val (.int (4 : Int32)), .val (.ref b1088), .val (.int (1 : Int32)), .val (.int (1 : Int32)), .unset, .val (.int (x3 &&& (255 : Int32)))]) X1193 hx (hb hby at_504) rfl rfl ?_
            refine o_iload (pc' := 508) X1193 hx (hb hby at_506) rfl rfl ?_
            refine o_aload (pc' := 510) X1193 hx (hb hby at_508) rfl rfl rfl ?_
            obtain ⟨r1214, T1214, L1214, X1214, hq1214, st1214⟩ := o_callV X1193 hx hZ hown (hw _ (List.mem_of_getElem? (i := 33) rfl)) (hw _ (List.mem_of_getElem? (i := 34) rfl)) (hw _ (List.mem_of_getElem? (i := 36) rfl)) (hw _ (List.mem_of_getElem? (i := 35) rfl)) (hw _ (List.mem_of_getElem? (i := 9) rfl)) (hw _ (List.mem_of_getElem? (i := 37) rfl)) (by decide) E1193_ (rm6 l Z a0 hw b1088 y1209 T1193.heap n0 Z1206 E1193_ F1193_given) (rfl : T1193.heap = _) (pc' := 513) (Ls := #[.val (.int x0), .val (.int x1), .val (.int x2), .val (.int x3), .val (.int (4 : Int32)), .val (.int cp), .val (.ref b718), .val (.int (65536 : Int32)), .val (.int v758), .val (.int (4 : Int32)), .val (.ref b1088), .val (.int (1 : Int32)), .val (.int (1 : Int32)), .unset, .val (.int (x3 &&& (255 : Int32)))]) (by rw [hml]; rfl) [] [(.int (1 : Int32))] rfl pd4 rfl rfl 1 (Nat.le_of_eq rfl) (hb hby at_510) rfl (by decide) (by decide) (by decide) (by decide)
            obtain ⟨rfl, rfl, Kc1214⟩ := hq1214
            refine oGo.step (f' := (mkF m 513 #[.val (.int x0), .val (.int x1), .val (.int x2), .val (.int x3), .val (.int (4 : Int32)), .val (.int cp), .val (.ref b718), .val (.int (65536 : Int32)), .val (.int v758), .val (.int (4 : Int32)), .val (.ref b1088), .val (.int (1 : Int32)), .val (.int (1 : Int32)), .unset, .val (.int (x3 &&& (255 : Int32)))] [(.int y1209), (.int (1 : Int32))])) st1214 ?_
            have e1214 : T1214.heap = T1193.heap := Kc1214
            have X1214 := o_same X1214 rfl rfl
            refine o_iload (pc' := 515) X1214 hx (hb hby at_513) rfl rfl ?_
            refine o_sipush (pc' := 518) (v := (192 : Int32)) X1214 hx (hb hby at_515) rfl rfl ?_
            have J1216 : ∀ (v1218 : Int32), v1218 = (if (x3 &&& (255 : Int32)) < (192 : Int32) then (0 : Int32) else (if (247 : Int32) < (x3 &&& (255 : Int32)) then (0 : Int32) else (1 : Int32))) → oGo p e below (oG s (fun v h L => v = some (.int 1) ∧ Fr n0 L) room_1.cells room_1.slots) T1214 (mkF m 534 #[.val (.int x0), .val (.int x1), .val (.int x2), .val (.int x3), .val (.int (4 : Int32)), .val (.int cp), .val (.ref b718), .val (.int (65536 : Int32)), .val (.int v758), .val (.int (4 : Int32)), .val (.ref b1088), .val (.int (1 : Int32)), .val (.int (1 : Int32)), .unset, .val (.int (x3 &&& (255 : Int32)))] [(.int v1218), (.int y1209), (.int (1 : Int32))]) := by
              intro v1218 hv1218
              refine o_icmpF (pc' := 537) X1214 hx (hb hby at_534) (XT.ii_ne_f (hA.2.trans hv1218.symm)) rfl ?_
              refine o_iconst (pc' := 538) (v := (1 : Int32)) X1214 hx (hb hby at_537) rfl rfl ?_
              refine o_goto (pc' := 542) X1214 hx (hb hby at_538) (by decide) (by decide) ?_
              refine o_iand (pc' := 543) X1214 hx (hb hby at_542)  rfl ?_
              rw [show ((1 : Int32) &&& (1 : Int32)) = (1 : Int32) from by decide]
              refine o_istore (pc' := 545) (l' := #[.val (.int x0), .val (.int x1), .val (.int x2), .val (.int x3), .val (.int (4 : Int32)), .val (.int cp), .val (.ref b718), .val (.int (65536 : Int32)), .val (.int v758), .val (.int (4 : Int32)), .val (.ref b1088), .val (.int (1 : Int32)), .val (.int (1 : Int32)), .unset, .val (.int (x3 &&& (255 : Int32)))]) X1214 hx (hb hby at_543) rfl rfl ?_
              refine o_iload (pc' := 547) X1214 hx (hb hby at_545) rfl rfl ?_
              refine o_ifF (pc' := 550) X1214 hx (hb hby at_547) (XT.i0_eq_f (by decide)) rfl ?_
              refine o_iload (pc' := 552) X1214 hx (hb hby at_550) rfl rfl ?_
              have J1220 : ∀ (v1222 : Int32), v1222 = (if v758 = 0 then (0 : Int32) else (if (x3 &&& (255 : Int32)) < (128 : Int32) then (1 : Int32) else (0 : Int32))) → oGo p e below (oG s (fun v h L => v = some (.int 1) ∧ Fr n0 L) room_1.cells room_1.slots) T1214 (mkF m 568 #[.val (.int x0), .val (.int x1), .val (.int x2), .val (.int x3), .val (.int (4 : Int32)), .val (.int cp), .val (.ref b718), .val (.int (65536 : Int32)), .val (.int v758), .val (.int (4 : Int32)), .val (.ref b1088), .val (.int (1 : Int32)), .val (.int (1 : Int32)), .unset, .val (.int (x3 &&& (255 : Int32)))] [(.int v1222)]) := by
                intro v1222 hv1222
                refine o_istore (pc' := 570) (l' := #[.val (.int x0), .val (.int x1), .val (.int x2), .val (.int x3), .val (.int (4 : Int32)), .val (.int cp), .val (.ref b718), .val (.int (65536 : Int32)), .val (.int v758), .val (.int (4 : Int32)), .val (.ref b1088), .val (.int (1 : Int32)), .val (.int (1 : Int32)), .val (.int v1222), .val (.int (x3 &&& (255 : Int32)))]) X1214 hx (hb hby at_568) rfl rfl ?_
                refine o_goto (pc' := 590) X1214 hx (hb hby at_570) (by decide) (by decide) ?_
                refine o_iload (pc' := 592) X1214 hx (hb hby at_590) rfl rfl ?_
                refine o_aload (pc' := 594) X1214 hx (hb hby at_592) rfl rfl rfl ?_
                obtain ⟨r1223, T1223, L1223, X1223, hq1223, st1223⟩ := o_callV X1214 hx hZ hown (hw _ (List.mem_of_getElem? (i := 38) rfl)) (hw _ (List.mem_of_getElem? (i := 39) rfl)) (hw _ (List.mem_of_getElem? (i := 41) rfl)) (hw _ (List.mem_of_getElem? (i := 40) rfl)) (hw _ (List.mem_of_getElem? (i := 9) rfl)) (hw _ (List.mem_of_getElem? (i := 42) rfl)) (by decide) E1193_ (rm7 l Z a0 hw b1088 y1207 y1208 y1209 y1210 T1193.heap n0 Z1206 E1193_ F1193_codePoint F1193_lacking F1193_given F1193_malformed ge1090) e1214 (pc' := 597) (Ls := #[.val (.int x0), .val (.int x1), .val (.int x2), .val (.int x3), .val (.int (4 : Int32)), .val (.int cp), .val (.ref b718), .val (.int (65536 : Int32)), .val (.int v758), .val (.int (4 : Int32)), .val (.ref b1088), .val (.int (1 : Int32)), .val (.int (1 : Int32)), .val (.int v1222), .val (.int (x3 &&& (255 : Int32)))]) (by rw [hml]; rfl) [] [(.int (1 : Int32))] rfl pd5 rfl rfl 1 (Nat.le_of_eq rfl) (hb hby at_594) rfl (by decide) (by decide) (by decide) (by decide)
                obtain ⟨rfl, N1223, Kc1223, E1223_, F1223_codePoint, F1223_lacking, F1223_given, F1223_malformed⟩ := hq1223
                obtain ⟨y1224, hy1224⟩ : ∃ z, z = (spec7 y1208 y1210) := ⟨_, rfl⟩
                rw [← hy1224] at st1223
                refine oGo.step (f' := (mkF m 597 #[.val (.int x0), .val (.int x1), .val (.int x2), .val (.int x3), .val (.int (4 : Int32)), .val (.int cp), .val (.ref b718), .val (.int (65536 : Int32)), .val (.int v758), .val (.int (4 : Int32)), .val (.ref b1088), .val (.int (1 : Int32)), .val (.int (1 : Int32)), .val (.int v1222), .val (.int (x3 &&& (255 : Int32)))] [(.int y1224), (.int (1 : Int32))])) st1223 ?_
                have N1223_ := Fr.app N1193_ N1223
                have K1225 := Kc1223
                have F1226 := F1196.keep K1225 (allS ge1090 all0)
                have F1229 := F1199.keep K1225 (ninS ne1089 nin0)
                have F1230 := E1193_.keep K1225
                have Z1236 := Nat.le_trans Z1206 K1225.1
                have X1223 := o_flat X1223 rfl rfl
                have hE : y1224 = v1222 := by rw [hy1224, hy1208, hy1210]; rw [hv1222]; exact end_whole hzz hval
                refine o_iload (pc' := 599) X1223 hx (hb hby at_597) rfl rfl ?_
                refine o_icmpF (pc' := 602) X1223 hx (hb hby at_599) (XT.ii_ne_f hE) rfl ?_
                refine o_iconst (pc' := 603) (v := (1 : Int32)) X1223 hx (hb hby at_602) rfl rfl ?_
                refine o_goto (pc' := 607) X1223 hx (hb hby at_603) (by decide) (by decide) ?_
                refine o_iand (pc' := 608) X1223 hx (hb hby at_607)  rfl ?_
                rw [show ((1 : Int32) &&& (1 : Int32)) = (1 : Int32) from by decide]
                refine o_istore (pc' := 610) (l' := #[.val (.int x0), .val (.int x1), .val (.int x2), .val (.int x3), .val (.int (4 : Int32)), .val (.int cp), .val (.ref b718), .val (.int (65536 : Int32)), .val (.int v758), .val (.int (4 : Int32)), .val (.ref b1088), .val (.int (1 : Int32)), .val (.int (1 : Int32)), .val (.int v1222), .val (.int (x3 &&& (255 : Int32)))]) X1223 hx (hb hby at_608) rfl rfl ?_
                refine o_iload (pc' := 612) X1223 hx (hb hby at_610) rfl rfl ?_
                refine o_retZ X1223 hx hret hlk (hb hby at_612) (by decide) (by decide) (by decide) ?_
                exact ⟨rfl, N1223_⟩
              by_cases c1219 : v758 = 0
              · refine o_ifT (pc' := 567) X1214 hx (hb hby at_552) (XT.i0_eq_t c1219) (by decide) (by decide) ?_
                refine o_iconst (pc' := 568) (v := (0 : Int32)) X1214 hx (hb hby at_567) rfl rfl ?_
                exact J1220 _ (if_pos c1219).symm
              · refine o_ifF (pc' := 555) X1214 hx (hb hby at_552) (XT.i0_eq_f c1219) rfl ?_
                refine o_iload (pc' := 557) X1214 hx (hb hby at_555) rfl rfl ?_
                refine o_sipush (pc' := 560) (v := (128 : Int32)) X1214 hx (hb hby at_557) rfl rfl ?_
                by_cases c1221 : (x3 &&& (255 : Int32)) < (128 : Int32)
                · refine o_icmpF (pc' := 563) X1214 hx (hb hby at_560) (XT.ii_ge_f c1221) rfl ?_
                  refine o_iconst (pc' := 564) (v := (1 : Int32)) X1214 hx (hb hby at_563) rfl rfl ?_
                  refine o_goto (pc' := 568) X1214 hx (hb hby at_564) (by decide) (by decide) ?_
                  exact J1220 _ ((if_neg c1219).trans (if_pos c1221)).symm
                · refine o_icmpT (pc' := 567) X1214 hx (hb hby at_560) (XT.ii_ge_t c1221) (by decide) (by decide) ?_
                  refine o_iconst (pc' := 568) (v := (0 : Int32)) X1214 hx (hb hby at_567) rfl rfl ?_
                  exact J1220 _ ((if_neg c1219).trans (if_neg c1221)).symm
            by_cases c1215 : (x3 &&& (255 : Int32)) < (192 : Int32)
            · refine o_icmpT (pc' := 533) X1214 hx (hb hby at_518) (XT.ii_lt_t c1215) (by decide) (by decide) ?_
              refine o_iconst (pc' := 534) (v := (0 : Int32)) X1214 hx (hb hby at_533) rfl rfl ?_
              exact J1216 _ (if_pos c1215).symm
            · refine o_icmpF (pc' := 521) X1214 hx (hb hby at_518) (XT.ii_lt_f c1215) rfl ?_
              refine o_iload (pc' := 523) X1214 hx (hb hby at_521) rfl rfl ?_
              refine o_sipush (pc' := 526) (v := (247 : Int32)) X1214 hx (hb hby at_523) rfl rfl ?_
              by_cases c1217 : (247 : Int32) < (x3 &&& (255 : Int32))
              · refine o_icmpT (pc' := 533) X1214 hx (hb hby at_526) (XT.ii_gt_t c1217) (by decide) (by decide) ?_
                refine o_iconst (pc' := 534) (v := (0 : Int32)) X1214 hx (hb hby at_533) rfl rfl ?_
                exact J1216 _ ((if_neg c1215).trans (if_pos c1217)).symm
              · refine o_icmpF (pc' := 529) X1214 hx (hb hby at_526) (XT.ii_gt_f c1217) rfl ?_
                refine o_iconst (pc' := 530) (v := (1 : Int32)) X1214 hx (hb hby at_529) rfl rfl ?_
                refine o_goto (pc' := 534) X1214 hx (hb hby at_530) (by decide) (by decide) ?_
                exact J1216 _ ((if_neg c1215).trans (if_neg c1217)).symm
          by_cases c1211 : (x3 &&& (255 : Int32)) < (128 : Int32)
          · refine o_icmpF (pc' := 489) X1193 hx (hb hby at_486) (XT.ii_ge_f c1211) rfl ?_
            refine o_iload (pc' := 491) X1193 hx (hb hby at_489) rfl rfl ?_
            refine o_goto (pc' := 495) X1193 hx (hb hby at_491) (by decide) (by decide) ?_
            exact J1212 _ (if_pos c1211).symm
          · refine o_icmpT (pc' := 494) X1193 hx (hb hby at_486) (XT.ii_ge_t c1211) (by decide) (by decide) ?_
            refine o_iconst (pc' := 495) (v := (-1 : Int32)) X1193 hx (hb hby at_494) rfl rfl ?_
            exact J1212 _ (if_neg c1211).symm
    by_cases c753 : cp < (65536 : Int32)
    · refine o_icmpT (pc' := 266) X746 hx (hb hby at_238) (XT.ii_lt_t c753) (by decide) (by decide) ?_
      refine o_iconst (pc' := 267) (v := (0 : Int32)) X746 hx (hb hby at_266) rfl rfl ?_
      exact J754 _ (if_pos c753).symm
    · refine o_icmpF (pc' := 241) X746 hx (hb hby at_238) (XT.ii_lt_f c753) rfl ?_
      refine o_iload (pc' := 243) X746 hx (hb hby at_241) rfl rfl ?_
      refine o_ldc (pc' := 245) (v := (1114111 : Int32)) X746 hx hZ hown (hw _ (List.mem_of_getElem? (i := 44) rfl)) (hb hby at_243) rfl ?_
      by_cases c755 : (1114111 : Int32) < cp
      · refine o_icmpT (pc' := 266) X746 hx (hb hby at_245) (XT.ii_gt_t c755) (by decide) (by decide) ?_
        refine o_iconst (pc' := 267) (v := (0 : Int32)) X746 hx (hb hby at_266) rfl rfl ?_
        exact J754 _ ((if_neg c753).trans (if_pos c755)).symm
      · refine o_icmpF (pc' := 248) X746 hx (hb hby at_245) (XT.ii_gt_f c755) rfl ?_
        refine o_iload (pc' := 250) X746 hx (hb hby at_248) rfl rfl ?_
        refine o_ldc (pc' := 252) (v := (55296 : Int32)) X746 hx hZ hown (hw _ (List.mem_of_getElem? (i := 45) rfl)) (hb hby at_250) rfl ?_
        by_cases c756 : cp < (55296 : Int32)
        · refine o_icmpT (pc' := 262) X746 hx (hb hby at_252) (XT.ii_lt_t c756) (by decide) (by decide) ?_
          refine o_iconst (pc' := 263) (v := (1 : Int32)) X746 hx (hb hby at_262) rfl rfl ?_
          refine o_goto (pc' := 267) X746 hx (hb hby at_263) (by decide) (by decide) ?_
          exact J754 _ ((if_neg c753).trans ((if_neg c755).trans (if_pos c756))).symm
        · refine o_icmpF (pc' := 255) X746 hx (hb hby at_252) (XT.ii_lt_f c756) rfl ?_
          refine o_iload (pc' := 257) X746 hx (hb hby at_255) rfl rfl ?_
          refine o_ldc (pc' := 259) (v := (57343 : Int32)) X746 hx hZ hown (hw _ (List.mem_of_getElem? (i := 46) rfl)) (hb hby at_257) rfl ?_
          by_cases c757 : (57343 : Int32) < cp
          · refine o_icmpF (pc' := 262) X746 hx (hb hby at_259) (XT.ii_le_f c757) rfl ?_
            refine o_iconst (pc' := 263) (v := (1 : Int32)) X746 hx (hb hby at_262) rfl rfl ?_
            refine o_goto (pc' := 267) X746 hx (hb hby at_263) (by decide) (by decide) ?_
            exact J754 _ ((if_neg c753).trans ((if_neg c755).trans ((if_neg c756).trans (if_pos c757)))).symm
          · refine o_icmpT (pc' := 266) X746 hx (hb hby at_259) (XT.ii_le_t c757) (by decide) (by decide) ?_
            refine o_iconst (pc' := 267) (v := (0 : Int32)) X746 hx (hb hby at_266) rfl rfl ?_
            exact J754 _ ((if_neg c753).trans ((if_neg c755).trans ((if_neg c756).trans (if_neg c757)))).symm
set_option maxRecDepth 65536 in
set_option maxHeartbeats 40000000 in
theorem comes_1 {Post : Tables → Env → Array Value → State → Outcome → State → Prop} (hpost : ∀ tb e args s v u, (limb_1_1.after args s (.returned v) u = true ∧ limb_1_2.after args s (.returned v) u = true ∧ True) → FrameEnd s (.returned v) u (Jvm.fieldLocs frame_1_writes args s ++ Jvm.arrayLocs frame_1_arrays args s ++ Jvm.staticLocs frame_1_statics s) 16 128 → Post tb e args s (.returned v) u) :
    ArmFor flags0 classFile x code maxLocals ret World_1 tables_1 room_1 Calls_1 rest_1 Pre_1 Post := by
  intro l hfl _ _ p e ha hc hk s m args below hf hA hF happ hP
  obtain ⟨hcalls, hrest, hpre⟩ := hP
  obtain ⟨-, -, -, hnamed, -, -, -, hat⟩ := (Spec.applies_iff hf).mp happ
  obtain ⟨hg, hn⟩ := and_e (Cond.before_iff.mp (show (Jvm.Cond.and given_1 narrow_1).before args s = true from hpre))
  obtain ⟨hcount, q0⟩ := and_e hg
  obtain ⟨a0, q1⟩ := and_e q0
  obtain ⟨a1, q2⟩ := and_e q1
  obtain ⟨a2, q3⟩ := and_e q2
  obtain ⟨w0, w1, w2, w3, rfl⟩ : ∃ w0 w1 w2 w3 : Value, args = #[w0, w1, w2, w3] := by
    have hs : args.size = 4 := by simpa [Cond.value, given_1] using hcount
    obtain ⟨L⟩ := args
    match L, hs with
    | [w0, w1, w2, w3], _ => exact ⟨w0, w1, w2, w3, rfl⟩
  have hw := fun d (hd : d ∈ tables_1) => atoms_spec (ws := Jvm.Cond.code x code maxLocals ret :: tables_1) hat d (List.mem_cons_of_mem _ hd)
  have hfit : Fit s := fun {y c} hc i hi => by
    obtain ⟨ha, rfl⟩ := Array.getElem?_eq_some_iff.mp hc
    have q := List.all_eq_true.mp ((Array.all_eq_true_iff_forall_mem.mp hF) _ (Array.getElem_mem ha)) i (List.mem_range.mpr hi)
    simpa [Array.getElem?_eq_getElem hi] using q
  obtain ⟨x0, e0⟩ := is_v a0
  obtain rfl : w0 = (.int x0) := Option.some.inj e0
  obtain ⟨x1, e1⟩ := is_v a1
  obtain rfl : w1 = (.int x1) := Option.some.inj e1
  obtain ⟨x2, e2⟩ := is_v a2
  obtain rfl : w2 = (.int x2) := Option.some.inj e2
  obtain ⟨x3, e3⟩ := is_v q3
  obtain rfl : w3 = (.int x3) := Option.some.inj e3
  obtain ⟨n0, m0⟩ := and_e hn
  obtain ⟨n1, m1⟩ := and_e m0
  obtain ⟨n2, m2⟩ := and_e m1
  obtain ⟨n3, m3⟩ := and_e m2
  obtain ⟨n4, m4⟩ := and_e m3
  obtain ⟨r_LEAST, v_L⟩ := arr_v n0
  obtain ⟨cL, AL⟩ := Arr.start v_L n0
  have S_LEAST := Sta.start v_L (Or.inr ⟨(hw _ (List.mem_of_getElem? (i := 9) rfl)), (hw _ (List.mem_of_getElem? (i := 48) rfl))⟩)
  have hlL := eqv_i (Term.int_eval (4)) n1
  have haL := Arr.fin (State.Warmed39.refl s).alike AL
  have szL := own_size v_L haL hlL
  have el0 := (elem_in (eqv_i (Term.int_eval (0)) m4) v_L (Term.int_eval (0)) AL.1).2
  have el1 := (elem_in (eqv_i (Term.int_eval (128)) n3) v_L (Term.int_eval (1)) AL.1).2
  have el2 := (elem_in (eqv_i (Term.int_eval (2048)) n2) v_L (Term.int_eval (2)) AL.1).2
  have el3 := (elem_in (eqv_i (Term.int_eval (65536)) n4) v_L (Term.int_eval (3)) AL.1).2
  have A_LEAST : oInts s s.heap r_LEAST [(0 : Int32), 128, 2048, 65536] := ⟨cL, AL, own_four szL el0 el1 el2 el3, by decide⟩
  obtain ⟨n, o, h1, h2, h3, _, L, rfl, ⟨rfl, N⟩, hq⟩ := rm0 l s _ hw x0 x1 x2 x3 r_LEAST s.heap s.heap.size (Nat.le_refl _) (Old.start s) S_LEAST A_LEAST tables_1 p e ha hc hk s m _ below hf ((Spec.applies_iff_loose hf).mp happ).1 ⟨rfl, State.Warmed39.refl s, rfl⟩ trivial
  refine ⟨n, _, h1, h2, h3, hpost _ _ _ _ _ _ ⟨Cond.after_iff.mpr rfl, Cond.after_iff.mpr (eq_i res_at (Term.int_eval (1)) rfl), trivial⟩ ⟨hq.1, hq.2.1, (hq.2.2.sift fun y hy => Or.inr (N y hy)).mono (by decide) (by decide)⟩⟩
theorem main_1_1 : Claimed_1_1 := comes_1 fun _ _ _ _ _ _ h hF => ⟨h.1, hF⟩
theorem main_1_2 : Claimed_1_2 := comes_1 fun _ _ _ _ _ _ h hF => ⟨h.2.1, hF⟩
end Jvm.Pilot.@@N@@
namespace Jvm.Pilot.@@N@@
open Jvm Jvm.ClassFile Sem Op Lib Jvm.Free Jvm.Stand Jvm.Pilot.@@N@@.Jvm.D
/-! MADE BY PROGRAM (witnessworld.py) out of the Statement's table words and the real class files: 10 classes; the members and pool entries that the words name. The judged class is class 1, her method 2. -/
namespace start1
open Jvm.ClassFile
def u (s : String) : CpInfo := .utf8 (stringToUtf16 s)
/-- a pool by its gaps: so many unusable entries, then the entry; so many at the end -/
def gap : Nat → List CpInfo → List CpInfo
  | 0, r => r
  | n + 1, r => .unusable :: gap n r
def poolList (es : List (Nat × CpInfo)) (last : Nat) : List CpInfo := es.foldr (fun e r => gap e.1 (e.2 :: r)) (gap last [])
def pool (es : List (Nat × CpInfo)) (last : Nat) : Array CpInfo := ⟨poolList es last⟩
def fileOf (pool : Array CpInfo) (this : Nat) (attrs : Array Attribute := #[]) (ms : Array MethodInfo := #[]) (fl : Nat := 33) (sup : Nat := 0) (ifs : Array Nat := #[]) (fds : Array FieldInfo := #[]) : ClassFile where
  minorVersion := 0
  majorVersion := 65
  constantPool := pool
  accessFlags := fl
  thisClass := this
  superClass := sup
  interfaces := ifs
  fields := fds
  methods := ms
  attributes := attrs
def plain (name : String) (sup : Option ClassId) : Class where
  name := name
  kind := .ordinary
  loader := none
  accessFlags := 33
  super := sup
  interfaces := #[]
  cf := none
  fields := #[]
  methods := #[]
  instanceTypes := #[]
  staticTypes := #[]
  resolved := #[]
  callSites := []
  init := .initialized
  statics := none
  mirror := none

def pool0 : Array CpInfo := pool [(5, u "<init>"), (0, u "()V"), (1, .class_ 10), (1, u "java/lang/Object")] 113

def k0c0 : Code := { maxStack := 0, maxLocals := 1, code := object_method_1_code, exceptionTable := #[], attributes := #[] }
def k0m0 : Method := { name := "<init>", desc := "()V", sig := { parameters := [], returnType := none }, accessFlags := 1, code := some k0c0 }
/-- java/lang/Object -/
def k0 : Class := { plain "java/lang/Object" none with
  accessFlags := 33
  interfaces := #[]
  cf := some (fileOf pool0 8 #[] #[{ accessFlags := 1, nameIndex := 5, descriptorIndex := 6, attributes := #[] }] 33 0 #[] #[])
  fields := #[]
  methods := #[k0m0]
  instanceTypes := #[]
  staticTypes := #[]
  resolved := Array.replicate 124 none
  statics := none }

def pool1 : Array CpInfo := pool [(2, .class_ 4), (0, .nameAndType 5 6), (0, u "java/lang/Object"), (0, u "<init>"), (0, u "()V"), (0, .methodref 8 9), (0, .class_ 10), (0, .nameAndType 11 12), (0, u "com/example/harborlog/harborlog/Utf8Decoder"), (0, u "next"), (0, u "(I)I"), (0, .integer 65535), (0, .integer 2097151), (0, .integer 65536), (0, .integer 1114111), (0, .integer 55296), (0, .integer 57343), (0, .methodref 20 21), (0, .class_ 22), (0, .nameAndType 23 24), (0, u "java/lang/Math"), (0, u "min"), (0, u "(II)I"), (0, .methodref 8 3), (0, .methodref 27 28), (0, .class_ 29), (0, .nameAndType 30 31), (0, u "com/example/harborlog/harborlog/Utf8DecoderNextPinLaw"), (0, u "step"), (0, u "(Lcom/example/harborlog/harborlog/Utf8Decoder;IIIIZ)Z"), (0, .methodref 8 33), (0, .nameAndType 34 35), (0, u "unfinished"), (0, u "()I"), (0, .methodref 8 37), (0, .nameAndType 38 39), (0, u "end"), (0, u "()Z"), (3, u "law"), (0, u "(IIII)Z")] 4

def k1m0 : Method := { name := "<init>", desc := "()V", sig := { parameters := [], returnType := none }, accessFlags := 2, code := none }
def k1c1 : Code := { maxStack := 3, maxLocals := 8, code := method_2_code, exceptionTable := #[], attributes := #[] }
def k1m1 : Method := { name := "step", desc := "(Lcom/example/harborlog/harborlog/Utf8Decoder;IIIIZ)Z", sig := { parameters := [(.object "com/example/harborlog/harborlog/Utf8Decoder"), .int, .int, .int, .int, .boolean], returnType := some .boolean }, accessFlags := 10, code := some k1c1 }
def k1c2 : Code := { maxStack := 7, maxLocals := 15, code := code, exceptionTable := #[], attributes := #[] }
def k1m2 : Method := { name := "law", desc := "(IIII)Z", sig := { parameters := [.int, .int, .int, .int], returnType := some .boolean }, accessFlags := 9, code := some k1c2 }
/-- com/example/harborlog/harborlog/Utf8DecoderNextPinLaw -/
def k1 : Class := { plain "com/example/harborlog/harborlog/Utf8DecoderNextPinLaw" (some 0) with
  accessFlags := 49
  interfaces := #[]
  cf := some (fileOf pool1 27 #[] #[{ accessFlags := 2, nameIndex := 5, descriptorIndex := 6, attributes := #[] }, { accessFlags := 10, nameIndex := 30, descriptorIndex := 31, attributes := #[] }, { accessFlags := 9, nameIndex := 43, descriptorIndex := 44, attributes := #[] }] 49 2 #[] #[])
  fields := #[]
  methods := #[k1m0, k1m1, k1m2]
  instanceTypes := #[]
  staticTypes := #[]
  resolved := Array.replicate 49 none
  statics := none }

def pool2 : Array CpInfo := pool [(1, .class_ 2), (0, u "java/lang/Math"), (1, .class_ 6), (1, u "java/lang/Object"), (0, u "<init>"), (0, u "()V"), (89, .class_ 100), (1, u "java/lang/Math$RandomNumberGeneratorHolder"), (71, u "negativeZeroFloatBits"), (0, u "J"), (2, u "negativeZeroDoubleBits"), (24, u "min"), (43, u "$assertionsDisabled"), (0, u "Z"), (88, u "(II)I"), (2, u "twoToTheDoubleScaleDown"), (0, u "D"), (4, u "twoToTheDoubleScaleUp"), (9, u "E"), (3, u "PI"), (2, u "TAU"), (2, u "DEGREES_TO_RADIANS"), (0, u "RADIANS_TO_DEGREES")] 94

def k2m0 : Method := { name := "<init>", desc := "()V", sig := { parameters := [], returnType := none }, accessFlags := 2, code := none }
def k2c1 : Code := { maxStack := 2, maxLocals := 2, code := jdk_29_method_69_code, exceptionTable := #[], attributes := #[] }
def k2m1 : Method := { name := "min", desc := "(II)I", sig := { parameters := [.int, .int], returnType := some .int }, accessFlags := 9, code := some k2c1 }
/-- java/lang/Math -/
def k2 : Class := { plain "java/lang/Math" (some 0) with
  accessFlags := 49
  interfaces := #[]
  cf := some (fileOf pool2 1 #[.nestMembers #[98]] #[{ accessFlags := 2, nameIndex := 7, descriptorIndex := 8, attributes := #[] }, { accessFlags := 9, nameIndex := 201, descriptorIndex := 335, attributes := #[] }] 49 4 #[] #[{ accessFlags := 25, nameIndex := 354, descriptorIndex := 339, attributes := #[] }, { accessFlags := 25, nameIndex := 358, descriptorIndex := 339, attributes := #[] }, { accessFlags := 25, nameIndex := 361, descriptorIndex := 339, attributes := #[] }, { accessFlags := 26, nameIndex := 364, descriptorIndex := 339, attributes := #[] }, { accessFlags := 26, nameIndex := 365, descriptorIndex := 339, attributes := #[] }, { accessFlags := 26, nameIndex := 172, descriptorIndex := 173, attributes := #[] }, { accessFlags := 26, nameIndex := 176, descriptorIndex := 173, attributes := #[] }, { accessFlags := 8, nameIndex := 344, descriptorIndex := 339, attributes := #[] }, { accessFlags := 8, nameIndex := 338, descriptorIndex := 339, attributes := #[] }, { accessFlags := 4120, nameIndex := 245, descriptorIndex := 246, attributes := #[] }])
  fields := #[{ name := "E", type := .double, accessFlags := 25, slot := 0, constantValue := 0 }, { name := "PI", type := .double, accessFlags := 25, slot := 1, constantValue := 0 }, { name := "TAU", type := .double, accessFlags := 25, slot := 2, constantValue := 0 }, { name := "DEGREES_TO_RADIANS", type := .double, accessFlags := 26, slot := 3, constantValue := 0 }, { name := "RADIANS_TO_DEGREES", type := .double, accessFlags := 26, slot := 4, constantValue := 0 }, { name := "negativeZeroFloatBits", type := .long, accessFlags := 26, slot := 5, constantValue := 0 }, { name := "negativeZeroDoubleBits", type := .long, accessFlags := 26, slot := 6, constantValue := 0 }, { name := "twoToTheDoubleScaleUp", type := .double, accessFlags := 8, slot := 7, constantValue := 0 }, { name := "twoToTheDoubleScaleDown", type := .double, accessFlags := 8, slot := 8, constantValue := 0 }, { name := "$assertionsDisabled", type := .boolean, accessFlags := 4120, slot := 9, constantValue := 0 }]
  methods := #[k2m0, k2m1]
  instanceTypes := #[]
  staticTypes := #[.double, .double, .double, .double, .double, .long, .long, .double, .double, .boolean]
  resolved := Array.replicate 460 none
  statics := none }

def pool3 : Array CpInfo := pool [(1, .methodref 2 3), (0, .class_ 4), (0, .nameAndType 5 6), (0, u "java/lang/Object"), (0, u "<init>"), (0, u "()V"), (0, .class_ 8), (0, u "com/example/harborlog/harborlog/Utf8Decoder"), (1, .fieldref 7 11), (0, .nameAndType 12 13), (0, u "malformed"), (0, u "Z"), (0, .fieldref 7 15), (0, .nameAndType 16 17), (0, u "lacking"), (0, u "I"), (2, u "next"), (0, u "(I)I"), (2, u "end"), (0, u "()Z"), (0, .fieldref 7 27), (0, .nameAndType 28 17), (0, u "codePoint"), (0, .fieldref 7 30), (0, .nameAndType 31 17), (0, u "given"), (0, .fieldref 7 33), (0, .nameAndType 34 35), (0, u "LEAST"), (0, u "[I"), (2, .integer 1114111), (0, .integer 55296), (0, .integer 57343), (1, u "NONE"), (7, u "unfinished"), (0, u "()I")] 3

def k3c0 : Code := { maxStack := 1, maxLocals := 1, code := prog_155_method_1_code, exceptionTable := #[], attributes := #[] }
def k3m0 : Method := { name := "<init>", desc := "()V", sig := { parameters := [], returnType := none }, accessFlags := 0, code := some k3c0 }
def k3c1 : Code := { maxStack := 4, maxLocals := 4, code := prog_155_method_3_code, exceptionTable := #[], attributes := #[] }
def k3m1 : Method := { name := "next", desc := "(I)I", sig := { parameters := [.int], returnType := some .int }, accessFlags := 0, code := some k3c1 }
def k3c2 : Code := { maxStack := 1, maxLocals := 1, code := prog_155_method_4_code, exceptionTable := #[], attributes := #[] }
def k3m2 : Method := { name := "unfinished", desc := "()I", sig := { parameters := [], returnType := some .int }, accessFlags := 0, code := some k3c2 }
def k3c3 : Code := { maxStack := 2, maxLocals := 2, code := prog_155_method_5_code, exceptionTable := #[], attributes := #[] }
def k3m3 : Method := { name := "end", desc := "()Z", sig := { parameters := [], returnType := some .boolean }, accessFlags := 0, code := some k3c3 }
/-- com/example/harborlog/harborlog/Utf8Decoder -/
def k3 : Class := { plain "com/example/harborlog/harborlog/Utf8Decoder" (some 0) with
  accessFlags := 48
  interfaces := #[]
  cf := some (fileOf pool3 7 #[] #[{ accessFlags := 0, nameIndex := 5, descriptorIndex := 6, attributes := #[] }, { accessFlags := 0, nameIndex := 20, descriptorIndex := 21, attributes := #[] }, { accessFlags := 0, nameIndex := 50, descriptorIndex := 51, attributes := #[] }, { accessFlags := 0, nameIndex := 24, descriptorIndex := 25, attributes := #[] }] 48 2 #[] #[{ accessFlags := 24, nameIndex := 42, descriptorIndex := 17, attributes := #[] }, { accessFlags := 26, nameIndex := 34, descriptorIndex := 35, attributes := #[] }, { accessFlags := 2, nameIndex := 28, descriptorIndex := 17, attributes := #[] }, { accessFlags := 2, nameIndex := 16, descriptorIndex := 17, attributes := #[] }, { accessFlags := 2, nameIndex := 31, descriptorIndex := 17, attributes := #[] }, { accessFlags := 2, nameIndex := 12, descriptorIndex := 13, attributes := #[] }])
  fields := #[{ name := "NONE", type := .int, accessFlags := 24, slot := 0, constantValue := 0 }, { name := "LEAST", type := (.array .int), accessFlags := 26, slot := 1, constantValue := 0 }, { name := "codePoint", type := .int, accessFlags := 2, slot := 0, constantValue := 0 }, { name := "lacking", type := .int, accessFlags := 2, slot := 1, constantValue := 0 }, { name := "given", type := .int, accessFlags := 2, slot := 2, constantValue := 0 }, { name := "malformed", type := .boolean, accessFlags := 2, slot := 3, constantValue := 0 }]
  methods := #[k3m0, k3m1, k3m2, k3m3]
  instanceTypes := #[.int, .int, .int, .boolean]
  staticTypes := #[.int, (.array .int)]
  resolved := Array.replicate 55 none
  statics := some 0 }

def pool4 : Array CpInfo := pool [(1, u "java/lang/Cloneable"), (0, .class_ 1), (0, u "java/lang/Object"), (0, .class_ 3)] 3

/-- java/lang/Cloneable -/
def k4 : Class := { plain "java/lang/Cloneable" (some 0) with
  accessFlags := 1537
  interfaces := #[]
  cf := some (fileOf pool4 2 #[] #[] 1537 4 #[] #[])
  fields := #[]
  methods := #[]
  instanceTypes := #[]
  staticTypes := #[]
  resolved := Array.replicate 8 none
  statics := none }

def pool5 : Array CpInfo := pool [(1, u "java/io/Serializable"), (0, .class_ 1), (0, u "java/lang/Object"), (0, .class_ 3)] 3

/-- java/io/Serializable -/
def k5 : Class := { plain "java/io/Serializable" (some 0) with
  accessFlags := 1537
  interfaces := #[]
  cf := some (fileOf pool5 2 #[] #[] 1537 4 #[] #[])
  fields := #[]
  methods := #[]
  instanceTypes := #[]
  staticTypes := #[]
  resolved := Array.replicate 8 none
  statics := none }

/-- the primitive byte -/
def k6 : Class := { plain "byte" none with kind := .primitive 'B', accessFlags := 0x411 }
/-- [B -/
def k7 : Class := { plain "[B" (some 0) with kind := .array 6 .byte, interfaces := #[4, 5], accessFlags := 1041 }

/-- the primitive int -/
def k8 : Class := { plain "int" none with kind := .primitive 'I', accessFlags := 0x411 }
/-- [I -/
def k9 : Class := { plain "[I" (some 0) with kind := .array 8 .int, interfaces := #[4, 5], accessFlags := 1041 }

def heap : Heap := #[{ cls := 3, slots := #[.int 0, .ref 1], vm := .statics 3 },
  { cls := 9, slots := #[.int 0, .int 128, .int 2048, .int 65536], vm := .none }]
def classes : Array Class := #[k0, k1, k2, k3, k4, k5, k6, k7, k8, k9]
def interned : List (Array UInt16 × Addr) := []
def slotsUsed : Nat := 6
def theMethod : MethodId := ⟨1, 2⟩
def args0 : Array Value := #[.int 5, .int 5, .int 5, .int 5]
def aboutOver (below : List Frame) : State where
  vm := { classes := classes, interned := interned.toArray }
  heap := heap
  slotsUsed := slotsUsed
  threads := #[{ frames := .invoking theMethod args0 :: below }]
def below0 : List Frame := [.native { method := ⟨0, 0⟩, args := #[] }]
def about1 : State := aboutOver below0
def p0 : Program := .bare "" "" ""
def e0 : Env := launch0.env 0 0 0
theorem w_frames : about1.frames = Frame.invoking theMethod args0 :: below0 := rfl
set_option maxRecDepth 65536 in
theorem w_args : argsFit about1.vm theMethod args0 = true := by decide +kernel
set_option maxRecDepth 65536 in
theorem w_heap : heapFits about1 = true := by decide +kernel
set_option maxRecDepth 65536 in
theorem w_runnable : about1.curStatus? = some .runnable := by decide +kernel
set_option maxRecDepth 65536 in
theorem w_alone : about1.alone = true := by decide +kernel
set_option maxRecDepth 65536 in
theorem w_named : about1.methodNamed? x = some theMethod := by decide +kernel
set_option maxRecDepth 65536 in
theorem w_hears : about1.hears theMethod below0 = true := by decide +kernel
set_option maxRecDepth 65536 in
theorem w_ripe : about1.ripe theMethod args0 below0 = true := by decide +kernel
theorem w_running : about1.status = .running := rfl
set_option maxRecDepth 65536 in
theorem w_room : about1.hasRoom e0.platform room_1 = true :=
  launch0.hasRoom_least _ room_1 (by decide +kernel) (by decide +kernel) (by decide +kernel) (by decide +kernel) (by decide +kernel) (by decide +kernel)
theorem allAtoms_all (ts : List Jvm.Cond) (a : Array Jvm.Value) (st : Jvm.State) : (allAtoms ts).before a st = ts.all (fun c => c.before a st) := by
  induction ts with
  | nil => rfl
  | cons c t ih =>
    show (Jvm.Cond.and c (allAtoms t)).before a st = _
    rw [Jvm.Cond.before_and, ih, List.all_cons]
def words1 : List Jvm.Cond := Jvm.Cond.code x code maxLocals ret :: tables_1
/-- a 'code' word, met by the world's own term for the bytes: nothing is compared byte by byte -/
theorem code_word {y : MethodName} {bytes : ByteArray} {mx : Nat} {rt : Option FieldType} {a : Array Value} {s : State} {m : MethodId} {meth : Method} {c : Code} (h1 : s.methodNamed? y = some m) (h2 : s.vm.method? m = some meth) (h3 : meth.code = some c) (h4 : c.code = bytes)
    (h5 : (c.maxLocals == mx && c.exceptionTable.isEmpty && decide (c.maxStack ≤ mostOperands) && decide (meth.sig.returnType = rt) && !meth.locks && decide (parseMethodDescriptor y.desc = some meth.sig)) = true) : (Jvm.Cond.code y bytes mx rt).before a s = true := by
  simp only [Bool.and_eq_true, beq_iff_eq, Bool.not_eq_true', decide_eq_true_eq] at h5
  obtain ⟨⟨⟨⟨⟨g1, g2⟩, g3⟩, g4⟩, g5⟩, g6⟩ := h5
  simp [Cond.before, Cond.holds, Cond.value, h1, h2, h3, h4, g1, g2, g3, g4, g5, g6]
def isCode : Jvm.Cond → Bool
  | .code _ _ _ _ => true
  | _ => false
theorem all_split {L : List Jvm.Cond} {P : Jvm.Cond → Bool} (h1 : L.all (fun c => isCode c || P c) = true) (h2 : ∀ c ∈ L.filter isCode, P c = true) : L.all P = true := by
  refine List.all_eq_true.mpr fun c hc => ?_
  have h := List.all_eq_true.mp h1 c hc
  rcases Bool.eq_false_or_eq_true (isCode c) with hi | hi
  · exact h2 c (List.mem_filter.mpr ⟨hc, hi⟩)
  · simpa [hi] using h
set_option maxRecDepth 65536 in
theorem w_c0 : (Jvm.Cond.code x code maxLocals ret).before args0 about1 = true := code_word (m := ⟨1, 2⟩) (meth := k1m2) (c := k1c2) (by decide +kernel) rfl rfl rfl (by decide +kernel)
set_option maxRecDepth 65536 in
theorem w_c1 : (Jvm.Cond.code ({ cls := "java/lang/Math", name := "min", desc := "(II)I" } : Jvm.MethodName) jdk_29_method_69_code (2 : Nat) (Option.some Jvm.ClassFile.FieldType.int)).before args0 about1 = true := code_word (m := ⟨2, 1⟩) (meth := k2m1) (c := k2c1) (by decide +kernel) rfl rfl rfl (by decide +kernel)
set_option maxRecDepth 65536 in
theorem w_c2 : (Jvm.Cond.code ({ cls := "com/example/harborlog/harborlog/Utf8Decoder", name := "<init>", desc := "()V" } : Jvm.MethodName) prog_155_method_1_code (1 : Nat) (Option.none : Option Jvm.ClassFile.FieldType)).before args0 about1 = true := code_word (m := ⟨3, 0⟩) (meth := k3m0) (c := k3c0) (by decide +kernel) rfl rfl rfl (by decide +kernel)
set_option maxRecDepth 65536 in
theorem w_c3 : (Jvm.Cond.code ({ cls := "java/lang/Object", name := "<init>", desc := "()V" } : Jvm.MethodName) object_method_1_code (1 : Nat) (Option.none : Option Jvm.ClassFile.FieldType)).before args0 about1 = true := code_word (m := ⟨0, 0⟩) (meth := k0m0) (c := k0c0) (by decide +kernel) rfl rfl rfl (by decide +kernel)
set_option maxRecDepth 65536 in
theorem w_c4 : (Jvm.Cond.code ({ cls := "com/example/harborlog/harborlog/Utf8DecoderNextPinLaw", name := "step", desc := "(Lcom/example/harborlog/harborlog/Utf8Decoder;IIIIZ)Z" } : Jvm.MethodName) method_2_code (8 : Nat) (Option.some Jvm.ClassFile.FieldType.boolean)).before args0 about1 = true := code_word (m := ⟨1, 1⟩) (meth := k1m1) (c := k1c1) (by decide +kernel) rfl rfl rfl (by decide +kernel)
set_option maxRecDepth 65536 in
theorem w_c5 : (Jvm.Cond.code ({ cls := "com/example/harborlog/harborlog/Utf8Decoder", name := "next", desc := "(I)I" } : Jvm.MethodName) prog_155_method_3_code (4 : Nat) (Option.some Jvm.ClassFile.FieldType.int)).before args0 about1 = true := code_word (m := ⟨3, 1⟩) (meth := k3m1) (c := k3c1) (by decide +kernel) rfl rfl rfl (by decide +kernel)
set_option maxRecDepth 65536 in
theorem w_c6 : (Jvm.Cond.code ({ cls := "com/example/harborlog/harborlog/Utf8Decoder", name := "unfinished", desc := "()I" } : Jvm.MethodName) prog_155_method_4_code (1 : Nat) (Option.some Jvm.ClassFile.FieldType.int)).before args0 about1 = true := code_word (m := ⟨3, 2⟩) (meth := k3m2) (c := k3c2) (by decide +kernel) rfl rfl rfl (by decide +kernel)
set_option maxRecDepth 65536 in
theorem w_c7 : (Jvm.Cond.code ({ cls := "com/example/harborlog/harborlog/Utf8Decoder", name := "end", desc := "()Z" } : Jvm.MethodName) prog_155_method_5_code (2 : Nat) (Option.some Jvm.ClassFile.FieldType.boolean)).before args0 about1 = true := code_word (m := ⟨3, 3⟩) (meth := k3m3) (c := k3c3) (by decide +kernel) rfl rfl rfl (by decide +kernel)
def codes1 : List Jvm.Cond := [Jvm.Cond.code x code maxLocals ret, Jvm.Cond.code ({ cls := "java/lang/Math", name := "min", desc := "(II)I" } : Jvm.MethodName) jdk_29_method_69_code (2 : Nat) (Option.some Jvm.ClassFile.FieldType.int), Jvm.Cond.code ({ cls := "com/example/harborlog/harborlog/Utf8Decoder", name := "<init>", desc := "()V" } : Jvm.MethodName) prog_155_method_1_code (1 : Nat) (Option.none : Option Jvm.ClassFile.FieldType), Jvm.Cond.code ({ cls := "java/lang/Object", name := "<init>", desc := "()V" } : Jvm.MethodName) object_method_1_code (1 : Nat) (Option.none : Option Jvm.ClassFile.FieldType), Jvm.Cond.code ({ cls := "com/example/harborlog/harborlog/Utf8DecoderNextPinLaw", name := "step", desc := "(Lcom/example/harborlog/harborlog/Utf8Decoder;IIIIZ)Z" } : Jvm.MethodName) method_2_code (8 : Nat) (Option.some Jvm.ClassFile.FieldType.boolean), Jvm.Cond.code ({ cls := "com/example/harborlog/harborlog/Utf8Decoder", name := "next", desc := "(I)I" } : Jvm.MethodName) prog_155_method_3_code (4 : Nat) (Option.some Jvm.ClassFile.FieldType.int), Jvm.Cond.code ({ cls := "com/example/harborlog/harborlog/Utf8Decoder", name := "unfinished", desc := "()I" } : Jvm.MethodName) prog_155_method_4_code (1 : Nat) (Option.some Jvm.ClassFile.FieldType.int), Jvm.Cond.code ({ cls := "com/example/harborlog/harborlog/Utf8Decoder", name := "end", desc := "()Z" } : Jvm.MethodName) prog_155_method_5_code (2 : Nat) (Option.some Jvm.ClassFile.FieldType.boolean)]
set_option maxRecDepth 65536 in
theorem codes_eq : words1.filter isCode = codes1 := rfl
theorem w_codes : ∀ c ∈ words1.filter isCode, c.before args0 about1 = true := by
  rw [codes_eq]
  intro c hc
  simp only [codes1, List.mem_cons, List.not_mem_nil, or_false] at hc
  rcases hc with rfl | rfl | rfl | rfl | rfl | rfl | rfl | rfl
  · exact w_c0
  · exact w_c1
  · exact w_c2
  · exact w_c3
  · exact w_c4
  · exact w_c5
  · exact w_c6
  · exact w_c7
set_option maxRecDepth 65536 in
theorem w_t1 : (words1.take 24).all (fun c => isCode c || c.before args0 about1) = true := by decide +kernel
set_option maxRecDepth 65536 in
theorem w_t2 : ((words1.drop 24).take 24).all (fun c => isCode c || c.before args0 about1) = true := by decide +kernel
set_option maxRecDepth 65536 in
theorem w_t3 : ((words1.drop 24).drop 24).all (fun c => isCode c || c.before args0 about1) = true := by decide +kernel
theorem w_tables : (allAtoms (Jvm.Cond.code x code maxLocals ret :: tables_1)).before args0 about1 = true := by
  rw [allAtoms_all]
  show words1.all (fun c => c.before args0 about1) = true
  refine all_split ?_ w_codes
  rw [← List.take_append_drop 24 words1, List.all_append, w_t1, ← List.take_append_drop 24 (words1.drop 24), List.all_append, w_t2, w_t3]
  rfl
set_option maxRecDepth 65536 in
theorem w_case : (Jvm.Cond.and given_1 narrow_1).before args0 about1 = true := by decide +kernel
theorem w_applies : (headSpec (Jvm.Cond.code x code maxLocals ret :: tables_1) room_1).applies x e0.platform about1 = true :=
  (Spec.applies_iff w_frames).mpr ⟨w_running, w_runnable, w_alone, w_named, w_hears, w_ripe, w_room, w_tables⟩
theorem atStart : AtStart classFile x code maxLocals ret World_1 tables_1 room_1 Calls_1 rest_1 Pre_1 launch0 p0 e0 about1 theMethod args0 below0 :=
  ⟨lists_1, trivial, launch0.admits_env _ _ _, launch0.least_env, fairChoices_fair.cas, fairChoices_fair.clock, w_frames, w_args, w_heap, w_applies, trivial, trivial, w_case⟩
end start1
theorem witness_1 : WitnessClaimed_1 := ⟨start1.p0, start1.e0, start1.about1, start1.theMethod, start1.args0, start1.below0, start1.atStart⟩
end Jvm.Pilot.@@N@@
