import JvmDerived
import JvmDerived.Pilot.@@N@@Statement
import JvmDerived.Pilot.@@N@@Code
set_option linter.unusedVariables false
set_option linter.unusedSimpArgs false
namespace Jvm.Pilot.@@N@@
open Jvm Jvm.ClassFile Sem Op Lib Jvm.Free Jvm.Stand Jvm.LawKit Jvm.RoadKit Bundle Jvm.Pilot.@@N@@.Jvm.D
section OwnKit
variable {p : Program} {l : Launch} {e : Env} {R : Room} {s : State} {m : MethodId} {args : Array Value} {below : List Frame} {meth : Method} {c : Code} {T : State} {locs : List Loc} {cells slots : Nat} {Z : State} {a0 : Array Value} {h : Heap} {G : Outcome → State → Prop}
def oGo (p : Program) (e : Env) (below : List Frame) (G : Outcome → State → Prop) (T : State) (f : JFrame) : Prop :=
  ∃ s₂ o, Steps p.tables e below (T.setTop f) s₂ ∧ s₂.status = .running ∧ Ended s₂ below o ∧ G o s₂
theorem oGo.step {T' : State} {f f' : JFrame} (st : ∀ t, Steps p.tables e below (T'.setTop f') t → Steps p.tables e below (T.setTop f) t) (k : oGo p e below G T' f') : oGo p e below G T f := by
  obtain ⟨s₂, o, h1, h2⟩ := k
  exact ⟨s₂, o, st _ h1, h2⟩
def oG (s : State) (Q : Option Value → Heap → List Loc → Prop) (C N : Nat) : Outcome → State → Prop := fun o U' => ∃ v L, o = .returned v ∧ Q v U'.heap L ∧ FrameEnd s o U' L C N
def oCon (l : Launch) (Z : State) (y : MethodName) (bytes : ByteArray) (maxL : Nat) (ret : Option FieldType) (rm : Room) (as' : Array Value) (h : Heap) (Q : Option Value → Heap → List Loc → Prop) : Prop :=
  ∀ ws, MetFree l y (head1 (Jvm.Cond.code y bytes maxL ret :: ws) rm) (fun a U => a = as' ∧ Z.Warmed39 U.vm ∧ U.heap = h) (fun _ _ _ _ _ => True) (fun _ U o U' => ∃ v L, o = .returned v ∧ Q v U'.heap L ∧ FrameEnd U o U' L rm.cells rm.slots)
theorem oCon.of {y : MethodName} {bytes : ByteArray} {maxL : Nat} {ret : Option FieldType} {rm : Room} {as' : Array Value} {Q : Option Value → Heap → List Loc → Prop} (hpn : plainFor y = true)
    (body : ∀ p e s m below meth c s₁, p.tables.exec = Jvm.exec → c.code = bytes → c.maxLocals = maxL → s.vm.findClass y.cls = some m.cls → meth.name = y.name → meth.sig.returnType = ret → meth.locks = false → Z.Warmed39 s.vm → Stand p l e rm s m as' below meth c s₁ [] 0 0 → s₁.heap = h → oGo p e below (oG s Q rm.cells rm.slots) s₁ (entryFrame m as' maxL)) :
    oCon l Z y bytes maxL ret rm as' h Q := by
  intro ws
  refine MetFree.of_bodySF hpn hisR ?_
  intro p e s m args below meth c s₁ Bd hml0 hP hK
  obtain ⟨rfl, hZ, hh⟩ := hP
  exact body p e s m below meth c s₁ Bd.exec Bd.bytes hml0 (findClass_of_methodNamed Bd.named) (name_of_methodNamed Bd.named Bd.method).1 Bd.returns (BodyLoose.notSynchronized Bd) hZ (Stand.of_body Bd) (by rw [← hh, Bd.state]; rfl)
theorem o_iloadN (X : Stand p l e R s m args below meth c T locs cells slots) (hx : p.tables.exec = Jvm.exec) {pc pc' : Nat} {Ls : Array Slot} {st : List Value} {k : Fin 4} {v : Int32} (hd : decode c.code pc = .ok (.iload_n k, 1)) (hl : Ls[k.val]? = some (.val (.int v))) (hp : pc + 1 = pc') (q : oGo p e below G T (mkF m pc' Ls (.int v :: st))) : oGo p e below G T (mkF m pc Ls (st)) := by
  subst hp; exact q.step fun t r => XS.iloadN X.here hx rfl hd hl r
theorem o_iload (X : Stand p l e R s m args below meth c T locs cells slots) (hx : p.tables.exec = Jvm.exec) {pc pc' : Nat} {Ls : Array Slot} {st : List Value} {k : Nat} {v : Int32} (hd : decode c.code pc = .ok (.iload k, 2)) (hl : Ls[k]? = some (.val (.int v))) (hp : pc + 2 = pc') (q : oGo p e below G T (mkF m pc' Ls (.int v :: st))) : oGo p e below G T (mkF m pc Ls (st)) := by
  subst hp; exact q.step fun t r => XS.iload X.here hx rfl hd hl r
theorem o_istoreN (X : Stand p l e R s m args below meth c T locs cells slots) (hx : p.tables.exec = Jvm.exec) {pc pc' : Nat} {Ls : Array Slot} {st : List Value} {k : Fin 4} {v : Int32} {l' : Array Slot} (hd : decode c.code pc = .ok (.istore_n k, 1)) (hl : storeLocals Ls k.val (.int v) = some l') (hp : pc + 1 = pc') (q : oGo p e below G T (mkF m pc' l' (st))) : oGo p e below G T (mkF m pc Ls (.int v :: st)) := by
  subst hp; exact q.step fun t r => XS.istoreN X.here hx rfl hd rfl hl r
theorem o_istore (X : Stand p l e R s m args below meth c T locs cells slots) (hx : p.tables.exec = Jvm.exec) {pc pc' : Nat} {Ls : Array Slot} {st : List Value} {k : Nat} {v : Int32} {l' : Array Slot} (hd : decode c.code pc = .ok (.istore k, 2)) (hl : storeLocals Ls k (.int v) = some l') (hp : pc + 2 = pc') (q : oGo p e below G T (mkF m pc' l' (st))) : oGo p e below G T (mkF m pc Ls (.int v :: st)) := by
  subst hp; exact q.step fun t r => XS.istore X.here hx rfl hd rfl hl r
theorem o_lloadN (X : Stand p l e R s m args below meth c T locs cells slots) (hx : p.tables.exec = Jvm.exec) {pc pc' : Nat} {Ls : Array Slot} {st : List Value} {k : Fin 4} {v : Int64} (hd : decode c.code pc = .ok (.lload_n k, 1)) (hl : Ls[k.val]? = some (.val (.long v))) (hp : pc + 1 = pc') (q : oGo p e below G T (mkF m pc' Ls (.long v :: st))) : oGo p e below G T (mkF m pc Ls (st)) := by
  subst hp; exact q.step fun t r => XT.lloadN X.here hx rfl hd hl r
theorem o_lload (X : Stand p l e R s m args below meth c T locs cells slots) (hx : p.tables.exec = Jvm.exec) {pc pc' : Nat} {Ls : Array Slot} {st : List Value} {k : Nat} {v : Int64} (hd : decode c.code pc = .ok (.lload k, 2)) (hl : Ls[k]? = some (.val (.long v))) (hp : pc + 2 = pc') (q : oGo p e below G T (mkF m pc' Ls (.long v :: st))) : oGo p e below G T (mkF m pc Ls (st)) := by
  subst hp; exact q.step fun t r => XT.lload X.here hx rfl hd hl r
theorem o_lstoreN (X : Stand p l e R s m args below meth c T locs cells slots) (hx : p.tables.exec = Jvm.exec) {pc pc' : Nat} {Ls : Array Slot} {st : List Value} {k : Fin 4} {v : Int64} {l' : Array Slot} (hd : decode c.code pc = .ok (.lstore_n k, 1)) (hl : storeLocals Ls k.val (.long v) = some l') (hp : pc + 1 = pc') (q : oGo p e below G T (mkF m pc' l' (st))) : oGo p e below G T (mkF m pc Ls (.long v :: st)) := by
  subst hp; exact q.step fun t r => XT.lstoreN X.here hx rfl hd rfl hl r
theorem o_lstore (X : Stand p l e R s m args below meth c T locs cells slots) (hx : p.tables.exec = Jvm.exec) {pc pc' : Nat} {Ls : Array Slot} {st : List Value} {k : Nat} {v : Int64} {l' : Array Slot} (hd : decode c.code pc = .ok (.lstore k, 2)) (hl : storeLocals Ls k (.long v) = some l') (hp : pc + 2 = pc') (q : oGo p e below G T (mkF m pc' l' (st))) : oGo p e below G T (mkF m pc Ls (.long v :: st)) := by
  subst hp; exact q.step fun t r => XT.lstore X.here hx rfl hd rfl hl r
theorem o_aloadN (X : Stand p l e R s m args below meth c T locs cells slots) (hx : p.tables.exec = Jvm.exec) {pc pc' : Nat} {Ls : Array Slot} {st : List Value} {k : Fin 4} {v : Value} (hd : decode c.code pc = .ok (.aload_n k, 1)) (hl : Ls[k.val]? = some (.val v)) (hv : v.isRef = true) (hp : pc + 1 = pc') (q : oGo p e below G T (mkF m pc' Ls (v :: st))) : oGo p e below G T (mkF m pc Ls (st)) := by
  subst hp; exact q.step fun t r => XS.aloadN X.here hx rfl hd hl hv r
theorem o_aload (X : Stand p l e R s m args below meth c T locs cells slots) (hx : p.tables.exec = Jvm.exec) {pc pc' : Nat} {Ls : Array Slot} {st : List Value} {k : Nat} {v : Value} (hd : decode c.code pc = .ok (.aload k, 2)) (hl : Ls[k]? = some (.val v)) (hv : v.isRef = true) (hp : pc + 2 = pc') (q : oGo p e below G T (mkF m pc' Ls (v :: st))) : oGo p e below G T (mkF m pc Ls (st)) := by
  subst hp; exact q.step fun t r => XS.aload X.here hx rfl hd hl hv r
theorem o_astoreN (X : Stand p l e R s m args below meth c T locs cells slots) (hx : p.tables.exec = Jvm.exec) {pc pc' : Nat} {Ls : Array Slot} {st : List Value} {k : Fin 4} {v : Value} {l' : Array Slot} (hd : decode c.code pc = .ok (.astore_n k, 1)) (hv : v.isRef = true) (hl : storeLocals Ls k.val v = some l') (hp : pc + 1 = pc') (q : oGo p e below G T (mkF m pc' l' (st))) : oGo p e below G T (mkF m pc Ls (v :: st)) := by
  subst hp; exact q.step fun t r => XS.astoreN X.here hx rfl hd rfl hv hl r
theorem o_astore (X : Stand p l e R s m args below meth c T locs cells slots) (hx : p.tables.exec = Jvm.exec) {pc pc' : Nat} {Ls : Array Slot} {st : List Value} {k : Nat} {v : Value} {l' : Array Slot} (hd : decode c.code pc = .ok (.astore k, 2)) (hv : v.isRef = true) (hl : storeLocals Ls k v = some l') (hp : pc + 2 = pc') (q : oGo p e below G T (mkF m pc' l' (st))) : oGo p e below G T (mkF m pc Ls (v :: st)) := by
  subst hp; exact q.step fun t r => XS.astore X.here hx rfl hd rfl hv hl r
theorem o_iconst (X : Stand p l e R s m args below meth c T locs cells slots) (hx : p.tables.exec = Jvm.exec) {pc pc' : Nat} {Ls : Array Slot} {st : List Value} {i : Int} (v : Int32) (hd : decode c.code pc = .ok (.iconst i, 1)) (hv : Int32.ofInt i = v) (hp : pc + 1 = pc') (q : oGo p e below G T (mkF m pc' Ls (.int v :: st))) : oGo p e below G T (mkF m pc Ls (st)) := by
  subst hp; exact q.step fun t r => XT.iconstV X.here hx rfl v hd hv r
theorem o_bipush (X : Stand p l e R s m args below meth c T locs cells slots) (hx : p.tables.exec = Jvm.exec) {pc pc' : Nat} {Ls : Array Slot} {st : List Value} {i : Int} (v : Int32) (hd : decode c.code pc = .ok (.bipush i, 2)) (hv : (Int8.ofInt i).toInt32 = v) (hp : pc + 2 = pc') (q : oGo p e below G T (mkF m pc' Ls (.int v :: st))) : oGo p e below G T (mkF m pc Ls (st)) := by
  subst hp; exact q.step fun t r => XT.bipushV X.here hx rfl v hd hv r
theorem o_sipush (X : Stand p l e R s m args below meth c T locs cells slots) (hx : p.tables.exec = Jvm.exec) {pc pc' : Nat} {Ls : Array Slot} {st : List Value} {i : Int} (v : Int32) (hd : decode c.code pc = .ok (.sipush i, 3)) (hv : (Int16.ofInt i).toInt32 = v) (hp : pc + 3 = pc') (q : oGo p e below G T (mkF m pc' Ls (.int v :: st))) : oGo p e below G T (mkF m pc Ls (st)) := by
  subst hp; exact q.step fun t r => XT.sipushV X.here hx rfl v hd hv r
theorem o_lconst (X : Stand p l e R s m args below meth c T locs cells slots) (hx : p.tables.exec = Jvm.exec) {pc pc' : Nat} {Ls : Array Slot} {st : List Value} {k : Fin 2} (v : Int64) (hd : decode c.code pc = .ok (.lconst k, 1)) (hv : Int64.ofNat k = v) (hp : pc + 1 = pc') (q : oGo p e below G T (mkF m pc' Ls (.long v :: st))) : oGo p e below G T (mkF m pc Ls (st)) := by
  subst hp; exact q.step fun t r => XT.lconstV X.here hx rfl v hd hv r
theorem o_anull (X : Stand p l e R s m args below meth c T locs cells slots) (hx : p.tables.exec = Jvm.exec) {pc pc' : Nat} {Ls : Array Slot} {st : List Value} (hd : decode c.code pc = .ok (.aconst_null, 1)) (hp : pc + 1 = pc') (q : oGo p e below G T (mkF m pc' Ls (.null :: st))) : oGo p e below G T (mkF m pc Ls (st)) := by
  subst hp; exact q.step fun t r => XS.aconstNull X.here hx rfl hd r
theorem o_ldc (X : Stand p l e R s m args below meth c T locs cells slots) (hx : p.tables.exec = Jvm.exec) {pc pc' : Nat} {Ls : Array Slot} {st : List Value} {own : String} {index : Nat} {v : Int32} (hZ : Z.Warmed39 s.vm) (hown : s.vm.findClass own = some m.cls) (w : (Jvm.Cond.constant own index v).before a0 Z = true) (hd : decode c.code pc = .ok (.ldc index, 2)) (hp : pc + 2 = pc') (q : oGo p e below G T (mkF m pc' Ls (.int v :: st))) : oGo p e below G T (mkF m pc Ls (st)) := by
  subst hp; exact q.step fun t r => X.ldcI hx hown (mvT hZ w) rfl hd r
theorem o_ldcw (X : Stand p l e R s m args below meth c T locs cells slots) (hx : p.tables.exec = Jvm.exec) {pc pc' : Nat} {Ls : Array Slot} {st : List Value} {own : String} {index : Nat} {v : Int32} (hZ : Z.Warmed39 s.vm) (hown : s.vm.findClass own = some m.cls) (w : (Jvm.Cond.constant own index v).before a0 Z = true) (hd : decode c.code pc = .ok (.ldc_w index, 3)) (hp : pc + 3 = pc') (q : oGo p e below G T (mkF m pc' Ls (.int v :: st))) : oGo p e below G T (mkF m pc Ls (st)) := by
  subst hp; exact q.step fun t r => X.ldcWI hx hown (mvT hZ w) rfl hd r
theorem o_ldc2 (X : Stand p l e R s m args below meth c T locs cells slots) (hx : p.tables.exec = Jvm.exec) {pc pc' : Nat} {Ls : Array Slot} {st : List Value} {own : String} {index : Nat} {v : Int64} (hZ : Z.Warmed39 s.vm) (hown : s.vm.findClass own = some m.cls) (w : (Jvm.Cond.constantLong own index v).before a0 Z = true) (hd : decode c.code pc = .ok (.ldc2_w index, 3)) (hp : pc + 3 = pc') (q : oGo p e below G T (mkF m pc' Ls (.long v :: st))) : oGo p e below G T (mkF m pc Ls (st)) := by
  subst hp; exact q.step fun t r => X.ldc2J hx hown (mvT hZ w) rfl hd r
theorem o_iadd (X : Stand p l e R s m args below meth c T locs cells slots) (hx : p.tables.exec = Jvm.exec) {pc pc' : Nat} {Ls : Array Slot} {st : List Value} {x y : Int32} (hd : decode c.code pc = .ok (.iadd, 1)) (hp : pc + 1 = pc') (q : oGo p e below G T (mkF m pc' Ls (.int (x + y) :: st))) : oGo p e below G T (mkF m pc Ls (.int y :: .int x :: st)) := by
  subst hp; exact q.step fun t r => XS.iadd X.here hx rfl hd rfl r
theorem o_isub (X : Stand p l e R s m args below meth c T locs cells slots) (hx : p.tables.exec = Jvm.exec) {pc pc' : Nat} {Ls : Array Slot} {st : List Value} {x y : Int32} (hd : decode c.code pc = .ok (.isub, 1)) (hp : pc + 1 = pc') (q : oGo p e below G T (mkF m pc' Ls (.int (x - y) :: st))) : oGo p e below G T (mkF m pc Ls (.int y :: .int x :: st)) := by
  subst hp; exact q.step fun t r => XS.isub X.here hx rfl hd rfl r
theorem o_imul (X : Stand p l e R s m args below meth c T locs cells slots) (hx : p.tables.exec = Jvm.exec) {pc pc' : Nat} {Ls : Array Slot} {st : List Value} {x y : Int32} (hd : decode c.code pc = .ok (.imul, 1)) (hp : pc + 1 = pc') (q : oGo p e below G T (mkF m pc' Ls (.int (x * y) :: st))) : oGo p e below G T (mkF m pc Ls (.int y :: .int x :: st)) := by
  subst hp; exact q.step fun t r => XS.imul X.here hx rfl hd rfl r
theorem o_iand (X : Stand p l e R s m args below meth c T locs cells slots) (hx : p.tables.exec = Jvm.exec) {pc pc' : Nat} {Ls : Array Slot} {st : List Value} {x y : Int32} (hd : decode c.code pc = .ok (.iand, 1)) (hp : pc + 1 = pc') (q : oGo p e below G T (mkF m pc' Ls (.int (x &&& y) :: st))) : oGo p e below G T (mkF m pc Ls (.int y :: .int x :: st)) := by
  subst hp; exact q.step fun t r => XS.iand X.here hx rfl hd rfl r
theorem o_ior (X : Stand p l e R s m args below meth c T locs cells slots) (hx : p.tables.exec = Jvm.exec) {pc pc' : Nat} {Ls : Array Slot} {st : List Value} {x y : Int32} (hd : decode c.code pc = .ok (.ior, 1)) (hp : pc + 1 = pc') (q : oGo p e below G T (mkF m pc' Ls (.int (x ||| y) :: st))) : oGo p e below G T (mkF m pc Ls (.int y :: .int x :: st)) := by
  subst hp; exact q.step fun t r => XT.ior X.here hx rfl hd rfl r
theorem o_ixor (X : Stand p l e R s m args below meth c T locs cells slots) (hx : p.tables.exec = Jvm.exec) {pc pc' : Nat} {Ls : Array Slot} {st : List Value} {x y : Int32} (hd : decode c.code pc = .ok (.ixor, 1)) (hp : pc + 1 = pc') (q : oGo p e below G T (mkF m pc' Ls (.int (x ^^^ y) :: st))) : oGo p e below G T (mkF m pc Ls (.int y :: .int x :: st)) := by
  subst hp; exact q.step fun t r => XT.ixor X.here hx rfl hd rfl r
theorem o_ishl (X : Stand p l e R s m args below meth c T locs cells slots) (hx : p.tables.exec = Jvm.exec) {pc pc' : Nat} {Ls : Array Slot} {st : List Value} {x y : Int32} (hd : decode c.code pc = .ok (.ishl, 1)) (hp : pc + 1 = pc') (q : oGo p e below G T (mkF m pc' Ls (.int (x <<< (y &&& 31)) :: st))) : oGo p e below G T (mkF m pc Ls (.int y :: .int x :: st)) := by
  subst hp; exact q.step fun t r => XT.ishl X.here hx rfl hd rfl r
theorem o_ishr (X : Stand p l e R s m args below meth c T locs cells slots) (hx : p.tables.exec = Jvm.exec) {pc pc' : Nat} {Ls : Array Slot} {st : List Value} {x y : Int32} (hd : decode c.code pc = .ok (.ishr, 1)) (hp : pc + 1 = pc') (q : oGo p e below G T (mkF m pc' Ls (.int (x >>> (y &&& 31)) :: st))) : oGo p e below G T (mkF m pc Ls (.int y :: .int x :: st)) := by
  subst hp; exact q.step fun t r => XT.ishr X.here hx rfl hd rfl r
theorem o_iushr (X : Stand p l e R s m args below meth c T locs cells slots) (hx : p.tables.exec = Jvm.exec) {pc pc' : Nat} {Ls : Array Slot} {st : List Value} {x y : Int32} (hd : decode c.code pc = .ok (.iushr, 1)) (hp : pc + 1 = pc') (q : oGo p e below G T (mkF m pc' Ls (.int (XT.ushr x y) :: st))) : oGo p e below G T (mkF m pc Ls (.int y :: .int x :: st)) := by
  subst hp; exact q.step fun t r => XT.iushr X.here hx rfl hd rfl r
theorem o_ladd (X : Stand p l e R s m args below meth c T locs cells slots) (hx : p.tables.exec = Jvm.exec) {pc pc' : Nat} {Ls : Array Slot} {st : List Value} {x y : Int64} (hd : decode c.code pc = .ok (.ladd, 1)) (hp : pc + 1 = pc') (q : oGo p e below G T (mkF m pc' Ls (.long (x + y) :: st))) : oGo p e below G T (mkF m pc Ls (.long y :: .long x :: st)) := by
  subst hp; exact q.step fun t r => XT.ladd X.here hx rfl hd rfl r
theorem o_lsub (X : Stand p l e R s m args below meth c T locs cells slots) (hx : p.tables.exec = Jvm.exec) {pc pc' : Nat} {Ls : Array Slot} {st : List Value} {x y : Int64} (hd : decode c.code pc = .ok (.lsub, 1)) (hp : pc + 1 = pc') (q : oGo p e below G T (mkF m pc' Ls (.long (x - y) :: st))) : oGo p e below G T (mkF m pc Ls (.long y :: .long x :: st)) := by
  subst hp; exact q.step fun t r => XT.lsub X.here hx rfl hd rfl r
theorem o_lmul (X : Stand p l e R s m args below meth c T locs cells slots) (hx : p.tables.exec = Jvm.exec) {pc pc' : Nat} {Ls : Array Slot} {st : List Value} {x y : Int64} (hd : decode c.code pc = .ok (.lmul, 1)) (hp : pc + 1 = pc') (q : oGo p e below G T (mkF m pc' Ls (.long (x * y) :: st))) : oGo p e below G T (mkF m pc Ls (.long y :: .long x :: st)) := by
  subst hp; exact q.step fun t r => XT.lmul X.here hx rfl hd rfl r
theorem o_land (X : Stand p l e R s m args below meth c T locs cells slots) (hx : p.tables.exec = Jvm.exec) {pc pc' : Nat} {Ls : Array Slot} {st : List Value} {x y : Int64} (hd : decode c.code pc = .ok (.land, 1)) (hp : pc + 1 = pc') (q : oGo p e below G T (mkF m pc' Ls (.long (x &&& y) :: st))) : oGo p e below G T (mkF m pc Ls (.long y :: .long x :: st)) := by
  subst hp; exact q.step fun t r => XT.land X.here hx rfl hd rfl r
theorem o_lor (X : Stand p l e R s m args below meth c T locs cells slots) (hx : p.tables.exec = Jvm.exec) {pc pc' : Nat} {Ls : Array Slot} {st : List Value} {x y : Int64} (hd : decode c.code pc = .ok (.lor, 1)) (hp : pc + 1 = pc') (q : oGo p e below G T (mkF m pc' Ls (.long (x ||| y) :: st))) : oGo p e below G T (mkF m pc Ls (.long y :: .long x :: st)) := by
  subst hp; exact q.step fun t r => XT.lor X.here hx rfl hd rfl r
theorem o_lxor (X : Stand p l e R s m args below meth c T locs cells slots) (hx : p.tables.exec = Jvm.exec) {pc pc' : Nat} {Ls : Array Slot} {st : List Value} {x y : Int64} (hd : decode c.code pc = .ok (.lxor, 1)) (hp : pc + 1 = pc') (q : oGo p e below G T (mkF m pc' Ls (.long (x ^^^ y) :: st))) : oGo p e below G T (mkF m pc Ls (.long y :: .long x :: st)) := by
  subst hp; exact q.step fun t r => XT.lxor X.here hx rfl hd rfl r
theorem o_lshl (X : Stand p l e R s m args below meth c T locs cells slots) (hx : p.tables.exec = Jvm.exec) {pc pc' : Nat} {Ls : Array Slot} {st : List Value} {x : Int64} {y : Int32} (hd : decode c.code pc = .ok (.lshl, 1)) (hp : pc + 1 = pc') (q : oGo p e below G T (mkF m pc' Ls (.long (x <<< (y.toInt64 &&& 63)) :: st))) : oGo p e below G T (mkF m pc Ls (.int y :: .long x :: st)) := by
  subst hp; exact q.step fun t r => XT.lshl X.here hx rfl hd rfl r
theorem o_lshr (X : Stand p l e R s m args below meth c T locs cells slots) (hx : p.tables.exec = Jvm.exec) {pc pc' : Nat} {Ls : Array Slot} {st : List Value} {x : Int64} {y : Int32} (hd : decode c.code pc = .ok (.lshr, 1)) (hp : pc + 1 = pc') (q : oGo p e below G T (mkF m pc' Ls (.long (x >>> (y.toInt64 &&& 63)) :: st))) : oGo p e below G T (mkF m pc Ls (.int y :: .long x :: st)) := by
  subst hp; exact q.step fun t r => XT.lshr X.here hx rfl hd rfl r
theorem o_lushr (X : Stand p l e R s m args below meth c T locs cells slots) (hx : p.tables.exec = Jvm.exec) {pc pc' : Nat} {Ls : Array Slot} {st : List Value} {x : Int64} {y : Int32} (hd : decode c.code pc = .ok (.lushr, 1)) (hp : pc + 1 = pc') (q : oGo p e below G T (mkF m pc' Ls (.long (XT.ushrL x y) :: st))) : oGo p e below G T (mkF m pc Ls (.int y :: .long x :: st)) := by
  subst hp; exact q.step fun t r => XT.lushr X.here hx rfl hd rfl r
theorem o_lcmp (X : Stand p l e R s m args below meth c T locs cells slots) (hx : p.tables.exec = Jvm.exec) {pc pc' : Nat} {Ls : Array Slot} {st : List Value} {x y : Int64} (hd : decode c.code pc = .ok (.lcmp, 1)) (hp : pc + 1 = pc') (q : oGo p e below G T (mkF m pc' Ls (.int (XT.cmpL x y) :: st))) : oGo p e below G T (mkF m pc Ls (.long y :: .long x :: st)) := by
  subst hp; exact q.step fun t r => XT.lcmp X.here hx rfl hd rfl r
theorem o_irem (X : Stand p l e R s m args below meth c T locs cells slots) (hx : p.tables.exec = Jvm.exec) {pc pc' : Nat} {Ls : Array Slot} {st : List Value} {x y : Int32} (hd : decode c.code pc = .ok (.irem, 1)) (hy : y ≠ 0) (hp : pc + 1 = pc') (q : oGo p e below G T (mkF m pc' Ls (.int (x % y) :: st))) : oGo p e below G T (mkF m pc Ls (.int y :: .int x :: st)) := by
  subst hp; exact q.step fun t r => iremM X hx rfl hd rfl hy r
theorem o_lrem (X : Stand p l e R s m args below meth c T locs cells slots) (hx : p.tables.exec = Jvm.exec) {pc pc' : Nat} {Ls : Array Slot} {st : List Value} {x y : Int64} (hd : decode c.code pc = .ok (.lrem, 1)) (hy : y ≠ 0) (hp : pc + 1 = pc') (q : oGo p e below G T (mkF m pc' Ls (.long (x % y) :: st))) : oGo p e below G T (mkF m pc Ls (.long y :: .long x :: st)) := by
  subst hp; exact q.step fun t r => XT.lrem X.here hx rfl hd rfl hy (by rw [lrem_mod]; exact r)
theorem o_i2l (X : Stand p l e R s m args below meth c T locs cells slots) (hx : p.tables.exec = Jvm.exec) {pc pc' : Nat} {Ls : Array Slot} {st : List Value} {x : Int32} (hd : decode c.code pc = .ok (.i2l, 1)) (hp : pc + 1 = pc') (q : oGo p e below G T (mkF m pc' Ls (.long (x.toInt64) :: st))) : oGo p e below G T (mkF m pc Ls (.int x :: st)) := by
  subst hp; exact q.step fun t r => XT.i2l X.here hx rfl hd rfl r
theorem o_l2i (X : Stand p l e R s m args below meth c T locs cells slots) (hx : p.tables.exec = Jvm.exec) {pc pc' : Nat} {Ls : Array Slot} {st : List Value} {x : Int64} (hd : decode c.code pc = .ok (.l2i, 1)) (hp : pc + 1 = pc') (q : oGo p e below G T (mkF m pc' Ls (.int (x.toInt32) :: st))) : oGo p e below G T (mkF m pc Ls (.long x :: st)) := by
  subst hp; exact q.step fun t r => XT.l2i X.here hx rfl hd rfl r
theorem o_i2c (X : Stand p l e R s m args below meth c T locs cells slots) (hx : p.tables.exec = Jvm.exec) {pc pc' : Nat} {Ls : Array Slot} {st : List Value} {x : Int32} (hd : decode c.code pc = .ok (.i2c, 1)) (hp : pc + 1 = pc') (q : oGo p e below G T (mkF m pc' Ls (.int (x.toUInt32.toUInt16.toUInt32.toInt32) :: st))) : oGo p e below G T (mkF m pc Ls (.int x :: st)) := by
  subst hp; exact q.step fun t r => XT.i2c X.here hx rfl hd rfl r
theorem o_i2b (X : Stand p l e R s m args below meth c T locs cells slots) (hx : p.tables.exec = Jvm.exec) {pc pc' : Nat} {Ls : Array Slot} {st : List Value} {x : Int32} (hd : decode c.code pc = .ok (.i2b, 1)) (hp : pc + 1 = pc') (q : oGo p e below G T (mkF m pc' Ls (.int (x.toInt8.toInt32) :: st))) : oGo p e below G T (mkF m pc Ls (.int x :: st)) := by
  subst hp; exact q.step fun t r => XT.i2b X.here hx rfl hd rfl r
theorem o_iinc (X : Stand p l e R s m args below meth c T locs cells slots) (hx : p.tables.exec = Jvm.exec) {pc pc' : Nat} {Ls : Array Slot} {st : List Value} {k : Nat} {cst : Int} {x : Int32} {l' : Array Slot} (v : Int32) (hd : decode c.code pc = .ok (.iinc k cst, 3)) (hv : Int32.ofInt cst = v) (hl : Ls[k]? = some (.val (.int x))) (hl' : storeLocals Ls k (.int (x + v)) = some l') (hp : pc + 3 = pc') (q : oGo p e below G T (mkF m pc' l' (st))) : oGo p e below G T (mkF m pc Ls (st)) := by
  subst hp; exact q.step fun t r => XT.iincV X.here hx rfl v hd hv hl hl' r
theorem o_dup (X : Stand p l e R s m args below meth c T locs cells slots) (hx : p.tables.exec = Jvm.exec) {pc pc' : Nat} {Ls : Array Slot} {st : List Value} {v : Value} (hd : decode c.code pc = .ok (.dup, 1)) (hc : v.category = 1) (hp : pc + 1 = pc') (q : oGo p e below G T (mkF m pc' Ls (v :: v :: st))) : oGo p e below G T (mkF m pc Ls (v :: st)) := by
  subst hp; exact q.step fun t r => XS.dup X.here hx rfl hd rfl hc r
theorem o_pop (X : Stand p l e R s m args below meth c T locs cells slots) (hx : p.tables.exec = Jvm.exec) {pc pc' : Nat} {Ls : Array Slot} {st : List Value} {v : Value} (hd : decode c.code pc = .ok (.pop, 1)) (hc : v.category = 1) (hp : pc + 1 = pc') (q : oGo p e below G T (mkF m pc' Ls (st))) : oGo p e below G T (mkF m pc Ls (v :: st)) := by
  subst hp; exact q.step fun t r => XT.pop X.here hx rfl hd rfl hc r
theorem o_goto (X : Stand p l e R s m args below meth c T locs cells slots) (hx : p.tables.exec = Jvm.exec) {pc pc' : Nat} {Ls : Array Slot} {st : List Value} {o : Int} (hd : decode c.code pc = .ok (.goto o, 3)) (ho : 0 ≤ (pc : Int) + o) (hp : ((pc : Int) + o).toNat = pc') (q : oGo p e below G T (mkF m pc' Ls (st))) : oGo p e below G T (mkF m pc Ls (st)) :=
  q.step fun t r => XS.goto X.here hx rfl rfl hd ho hp r
theorem o_icmpT (X : Stand p l e R s m args below meth c T locs cells slots) (hx : p.tables.exec = Jvm.exec) {pc pc' : Nat} {Ls : Array Slot} {st : List Value} {o : Int} {cd : ClassFile.Cond} {x y : Int32} (hd : decode c.code pc = .ok (.if_icmp cd o, 3)) (hc : if_icmp.holds cd x y = true) (ho : 0 ≤ (pc : Int) + o) (hp : ((pc : Int) + o).toNat = pc') (q : oGo p e below G T (mkF m pc' Ls (st))) : oGo p e below G T (mkF m pc Ls (.int y :: .int x :: st)) :=
  q.step fun t r => XS.icmpYes X.here hx rfl rfl hd rfl hc ho hp r
theorem o_icmpF (X : Stand p l e R s m args below meth c T locs cells slots) (hx : p.tables.exec = Jvm.exec) {pc pc' : Nat} {Ls : Array Slot} {st : List Value} {o : Int} {cd : ClassFile.Cond} {x y : Int32} (hd : decode c.code pc = .ok (.if_icmp cd o, 3)) (hc : if_icmp.holds cd x y = false) (hp : pc + 3 = pc') (q : oGo p e below G T (mkF m pc' Ls (st))) : oGo p e below G T (mkF m pc Ls (.int y :: .int x :: st)) := by
  subst hp; exact q.step fun t r => XS.icmpNo X.here hx rfl hd rfl hc r
theorem o_ifT (X : Stand p l e R s m args below meth c T locs cells slots) (hx : p.tables.exec = Jvm.exec) {pc pc' : Nat} {Ls : Array Slot} {st : List Value} {o : Int} {cd : ClassFile.Cond} {x : Int32} (hd : decode c.code pc = .ok (.ifCond cd o, 3)) (hc : ifCond.holds cd x = true) (ho : 0 ≤ (pc : Int) + o) (hp : ((pc : Int) + o).toNat = pc') (q : oGo p e below G T (mkF m pc' Ls (st))) : oGo p e below G T (mkF m pc Ls (.int x :: st)) :=
  q.step fun t r => XS.ifYes X.here hx rfl rfl hd rfl hc ho hp r
theorem o_ifF (X : Stand p l e R s m args below meth c T locs cells slots) (hx : p.tables.exec = Jvm.exec) {pc pc' : Nat} {Ls : Array Slot} {st : List Value} {o : Int} {cd : ClassFile.Cond} {x : Int32} (hd : decode c.code pc = .ok (.ifCond cd o, 3)) (hc : ifCond.holds cd x = false) (hp : pc + 3 = pc') (q : oGo p e below G T (mkF m pc' Ls (st))) : oGo p e below G T (mkF m pc Ls (.int x :: st)) := by
  subst hp; exact q.step fun t r => XS.ifNo X.here hx rfl hd rfl hc r
theorem o_acmpT (X : Stand p l e R s m args below meth c T locs cells slots) (hx : p.tables.exec = Jvm.exec) {pc pc' : Nat} {Ls : Array Slot} {st : List Value} {o : Int} {cd : ClassFile.ACond} {x y : Value} (hd : decode c.code pc = .ok (.if_acmp cd o, 3)) (h1 : x.isRef = true) (h2 : y.isRef = true) (hc : XT.acmp cd x y = true) (ho : 0 ≤ (pc : Int) + o) (hp : ((pc : Int) + o).toNat = pc') (q : oGo p e below G T (mkF m pc' Ls (st))) : oGo p e below G T (mkF m pc Ls (y :: x :: st)) :=
  q.step fun t r => XT.acmpYes X.here hx rfl rfl hd rfl h1 h2 hc ho hp r
theorem o_acmpF (X : Stand p l e R s m args below meth c T locs cells slots) (hx : p.tables.exec = Jvm.exec) {pc pc' : Nat} {Ls : Array Slot} {st : List Value} {o : Int} {cd : ClassFile.ACond} {x y : Value} (hd : decode c.code pc = .ok (.if_acmp cd o, 3)) (h1 : x.isRef = true) (h2 : y.isRef = true) (hc : XT.acmp cd x y = false) (hp : pc + 3 = pc') (q : oGo p e below G T (mkF m pc' Ls (st))) : oGo p e below G T (mkF m pc Ls (y :: x :: st)) := by
  subst hp; exact q.step fun t r => XT.acmpNo X.here hx rfl hd rfl h1 h2 hc r
theorem o_retI (X : Stand p l e R s m args below meth c T locs cells slots) (hx : p.tables.exec = Jvm.exec) (hret : meth.sig.returnType = some .int) (hlk : meth.locks = false) {pc : Nat} {Ls : Array Slot} {st : List Value} {z : Int32} (hd : decode c.code pc = .ok (.ireturn, 1)) {Q : Option Value → Heap → List Loc → Prop} {C N : Nat} (hc : cells ≤ C) (hn : slots ≤ N) (hQ : Q (some (.int z)) T.heap locs) : oGo p e below (oG s Q C N) T (mkF m pc Ls (.int z :: st)) := by
  obtain ⟨fs, hr, hrun, hended, hW, hsame⟩ := X.leave (v := some (.int z)) (fun h => by rw [hret] at h; cases h) hlk
  exact ⟨_, _, retOut X hx hret rfl (Or.inl ⟨rfl, Or.inl rfl, _, rfl⟩) hd hr, hrun, hended, _, _, rfl, hQ, ⟨_, rfl⟩, hW, hsame.mono hc hn⟩
theorem o_retJ (X : Stand p l e R s m args below meth c T locs cells slots) (hx : p.tables.exec = Jvm.exec) (hret : meth.sig.returnType = some .long) (hlk : meth.locks = false) {pc : Nat} {Ls : Array Slot} {st : List Value} {z : Int64} (hd : decode c.code pc = .ok (.lreturn, 1)) {Q : Option Value → Heap → List Loc → Prop} {C N : Nat} (hc : cells ≤ C) (hn : slots ≤ N) (hQ : Q (some (.long z)) T.heap locs) : oGo p e below (oG s Q C N) T (mkF m pc Ls (.long z :: st)) := by
  obtain ⟨fs, hr, hrun, hended, hW, hsame⟩ := X.leave (v := some (.long z)) (fun h => by rw [hret] at h; cases h) hlk
  exact ⟨_, _, retOut X hx hret rfl (Or.inr (Or.inl ⟨rfl, rfl, _, rfl⟩)) hd hr, hrun, hended, _, _, rfl, hQ, ⟨_, rfl⟩, hW, hsame.mono hc hn⟩
theorem o_retD (X : Stand p l e R s m args below meth c T locs cells slots) (hx : p.tables.exec = Jvm.exec) (hret : meth.sig.returnType = some .double) (hlk : meth.locks = false) {pc : Nat} {Ls : Array Slot} {st : List Value} {z : UInt64} (hd : decode c.code pc = .ok (.dreturn, 1)) {Q : Option Value → Heap → List Loc → Prop} {C N : Nat} (hc : cells ≤ C) (hn : slots ≤ N) (hQ : Q (some (.double z)) T.heap locs) : oGo p e below (oG s Q C N) T (mkF m pc Ls (.double z :: st)) := by
  obtain ⟨fs, hr, hrun, hended, hW, hsame⟩ := X.leave (v := some (.double z)) (fun h => by rw [hret] at h; cases h) hlk
  exact ⟨_, _, retOut X hx hret rfl (Or.inr (Or.inr (Or.inl ⟨rfl, rfl, _, rfl⟩))) hd hr, hrun, hended, _, _, rfl, hQ, ⟨_, rfl⟩, hW, hsame.mono hc hn⟩
theorem o_retZ (X : Stand p l e R s m args below meth c T locs cells slots) (hx : p.tables.exec = Jvm.exec) (hret : meth.sig.returnType = some .boolean) (hlk : meth.locks = false) {pc : Nat} {Ls : Array Slot} {st : List Value} {z : Int32} (hd : decode c.code pc = .ok (.ireturn, 1)) (hz : z &&& 1 = z) {Q : Option Value → Heap → List Loc → Prop} {C N : Nat} (hc : cells ≤ C) (hn : slots ≤ N) (hQ : Q (some (.int z)) T.heap locs) : oGo p e below (oG s Q C N) T (mkF m pc Ls (.int z :: st)) := by
  obtain ⟨fs, hr, hrun, hended, hW, hsame⟩ := X.leave (v := some (.int z)) (fun h => by rw [hret] at h; cases h) hlk
  have hz' : nar .boolean z = z := hz
  exact ⟨_, _, retN X hx (t := .boolean) hret (Or.inl rfl) hd (by rw [hz']; exact hr), hrun, hended, _, _, rfl, hQ, ⟨_, rfl⟩, hW, hsame.mono hc hn⟩
theorem o_retA (X : Stand p l e R s m args below meth c T locs cells slots) (hx : p.tables.exec = Jvm.exec) {C1 : FieldType} (hret : meth.sig.returnType = some C1) (ht : C1.isReference = true) (hlk : meth.locks = false) {pc : Nat} {Ls : Array Slot} {st : List Value} {z : Value} (hz : z.isRef = true) (hna : narrow C1 z = z) (hd : decode c.code pc = .ok (.areturn, 1)) {Q : Option Value → Heap → List Loc → Prop} {C N : Nat} (hc : cells ≤ C) (hn : slots ≤ N) (hQ : Q (some z) T.heap locs) : oGo p e below (oG s Q C N) T (mkF m pc Ls (z :: st)) := by
  obtain ⟨fs, hr, hrun, hended, hW, hsame⟩ := X.leave (v := some z) (fun h => by rw [hret] at h; cases h) hlk
  exact ⟨_, _, retOut X hx hret hna (Or.inr (Or.inr (Or.inr (Or.inr ⟨rfl, ht, hz⟩)))) hd hr, hrun, hended, _, _, rfl, hQ, ⟨_, rfl⟩, hW, hsame.mono hc hn⟩
theorem o_retV (X : Stand p l e R s m args below meth c T locs cells slots) (hx : p.tables.exec = Jvm.exec) (hret : meth.sig.returnType = none) (hlk : meth.locks = false) {pc : Nat} {Ls : Array Slot} (hd : decode c.code pc = .ok (.return_, 1)) {Q : Option Value → Heap → List Loc → Prop} {C N : Nat} (hc : cells ≤ C) (hn : slots ≤ N) (hQ : Q none T.heap locs) : oGo p e below (oG s Q C N) T (mkF m pc Ls []) := by
  obtain ⟨fs, hr, hrun, hended, hW, hsame⟩ := X.leave (v := none) (fun _ => rfl) hlk
  exact ⟨_, _, X.returnOut hx hret hd hr, hrun, hended, _, _, rfl, hQ, ⟨_, rfl⟩, hW, hsame.mono hc hn⟩
theorem o_callS (X : Stand p l e R s m args below meth c T locs cells slots) (hx : p.tables.exec = Jvm.exec) (hZ : Z.Warmed39 s.vm) {own : String} {index : Nat} {y : MethodName} {bytes : ByteArray} {maxL : Nat} {ret : Option FieldType} (hown : s.vm.findClass own = some m.cls) (w1 : (Jvm.Cond.methodLink own index y).before a0 Z = true) (w2 : (Jvm.Cond.static y).before a0 Z = true) (w3 : (Jvm.Cond.initialized y.cls).before a0 Z = true) (w4 : (Jvm.Cond.code y bytes maxL ret).before a0 Z = true) (hy : y.cls ≠ "java/lang/invoke/MethodHandle" ∧ y.cls ≠ "java/lang/invoke/VarHandle") {rm : Room} {as' : Array Value} {Q : Option Value → Heap → List Loc → Prop} (hM : oCon l Z y bytes maxL ret rm as' h Q) (eT : T.heap = h) {pc pc' : Nat} {Ls : Array Slot} {st : List Value} (hsz : Ls.size = c.maxLocals) (argsL rest : List Value) (has : argsL.toArray = as') {ps : List FieldType} {rr : Option FieldType} (hpd : parseMethodDescriptor y.desc = some ⟨ps, rr⟩) (hlen : argsL.length = ps.length) (hst : st = argsL.reverse ++ rest) (W : Nat) (hW : (rest.map fun v => v.category).sum ≤ W) (hd : decode c.code pc = .ok (.invokestatic index, 3)) (hp : pc + 3 = pc') (hf : rm.frames + 1 ≤ R.frames) (hl : W + (maxL + 11) + rm.locals ≤ R.locals) (hc : cells + rm.cells ≤ R.cells) (hn : slots + rm.slots ≤ R.slots) :
    ∃ v T' L, Stand p l e R s m args below meth c T' (locs ++ L) (cells + rm.cells) (slots + rm.slots) ∧ Q v T'.heap L ∧ ∀ t, Steps p.tables e below (T'.setTop (mkF m pc' Ls (v.toList ++ rest))) t → Steps p.tables e below (T.setTop (mkF m pc Ls st)) t := by
  subst hp has
  obtain ⟨v, vm₁, ⟨T', L', k', n'⟩, -, X', ⟨Lc, hQ, l1, y1, z1⟩, st'⟩ := Jvm.LawKit.callS X hx hown (mvT hZ w1) (mvT hZ w2) (mvT hZ w3) (mvT hZ w4) hy (backOf (W := W) (hM []) hZ w4 w3 hf hl) (g := mkF m pc Ls st) rfl hsz (argsL := argsL) (rest := rest) (lenOf hpd hlen) hst (by show 2 * 0 + _ ≤ _; omega) hd (fun _ _ => ⟨rfl, eT, hc, hn⟩)
  dsimp only [Pt.U, Pt.locs, Pt.cells, Pt.slots] at X' l1 y1 z1 st' hQ
  subst l1 y1 z1
  exact ⟨v, T', Lc, X', hQ, st'⟩
theorem o_callN (X : Stand p l e R s m args below meth c T locs cells slots) (hx : p.tables.exec = Jvm.exec) (hZ : Z.Warmed39 s.vm) {own : String} {index : Nat} {y : MethodName} {bytes : ByteArray} {maxL : Nat} (hown : s.vm.findClass own = some m.cls) (hi : y.name = "<init>") (w1 : (Jvm.Cond.methodLink own index y).before a0 Z = true) (w2 : (Jvm.Cond.instanceMethod y).before a0 Z = true) (w3 : (Jvm.Cond.initialized y.cls).before a0 Z = true) (w4 : (Jvm.Cond.code y bytes maxL none).before a0 Z = true) (hy : y.cls ≠ "java/lang/invoke/MethodHandle" ∧ y.cls ≠ "java/lang/invoke/VarHandle") {rm : Room} {as' : Array Value} {Q : Option Value → Heap → List Loc → Prop} (hM : oCon l Z y bytes maxL none rm as' h Q) (eT : T.heap = h) {pc pc' : Nat} {Ls : Array Slot} {st : List Value} (hsz : Ls.size = c.maxLocals) {a : Addr} (argsL rest : List Value) (has : (Value.ref a :: argsL).toArray = as') {ps : List FieldType} {rr : Option FieldType} (hpd : parseMethodDescriptor y.desc = some ⟨ps, rr⟩) (hlen : argsL.length = ps.length) (hst : st = argsL.reverse ++ .ref a :: rest) (W : Nat) (hW : (rest.map fun v => v.category).sum ≤ W) (hd : decode c.code pc = .ok (.invokespecial index, 3)) (hp : pc + 3 = pc') (hf : rm.frames + 1 ≤ R.frames) (hl : W + (maxL + 11) + rm.locals ≤ R.locals) (hc : cells + rm.cells ≤ R.cells) (hn : slots + rm.slots ≤ R.slots) :
    ∃ v T' L, Stand p l e R s m args below meth c T' (locs ++ L) (cells + rm.cells) (slots + rm.slots) ∧ Q v T'.heap L ∧ ∀ t, Steps p.tables e below (T'.setTop (mkF m pc' Ls (v.toList ++ rest))) t → Steps p.tables e below (T.setTop (mkF m pc Ls st)) t := by
  subst hp has
  obtain ⟨v, vm₁, ⟨T', L', k', n'⟩, -, X', ⟨Lc, hQ, l1, y1, z1⟩, st'⟩ := X.specialBack hx hi hown (mvT hZ w1) (mvT hZ w2) (mvT hZ w4) hy (backOf (W := W) (hM []) hZ w4 w3 hf hl) (g := mkF m pc Ls st) rfl hsz (Steps.refl _) (a := a) (argsL := argsL) (rest := rest) (lenOf hpd hlen) hst (by show 2 * 0 + _ ≤ _; omega) hd (fun _ _ => ⟨rfl, eT, hc, hn⟩)
  dsimp only [Pt.U, Pt.locs, Pt.cells, Pt.slots] at X' l1 y1 z1 st' hQ
  subst l1 y1 z1
  exact ⟨v, T', Lc, X', hQ, fun t r => st'.trans r⟩
theorem o_callV (X : Stand p l e R s m args below meth c T locs cells slots) (hx : p.tables.exec = Jvm.exec) (hZ : Z.Warmed39 s.vm) {own : String} {index : Nat} {y : MethodName} {bytes : ByteArray} {maxL : Nat} {ret : Option FieldType} (hown : s.vm.findClass own = some m.cls) {C : String} (w1 : (Jvm.Cond.methodLink own index y).before a0 Z = true) (w2 : (Jvm.Cond.declares y).before a0 Z = true) (w5 : (Jvm.Cond.selects C y y).before a0 Z = true) (w6 : (Jvm.Cond.instanceMethod y).before a0 Z = true) (w3 : (Jvm.Cond.initialized y.cls).before a0 Z = true) (w4 : (Jvm.Cond.code y bytes maxL ret).before a0 Z = true) (hy : y.cls ≠ "java/lang/invoke/MethodHandle" ∧ y.cls ≠ "java/lang/invoke/VarHandle") {aa : Addr} (E : Exa Z h aa C) {rm : Room} {as' : Array Value} {Q : Option Value → Heap → List Loc → Prop} (hM : oCon l Z y bytes maxL ret rm as' h Q) (eT : T.heap = h) {pc pc' : Nat} {Ls : Array Slot} {st : List Value} (hsz : Ls.size = c.maxLocals) (argsL rest : List Value) (has : (Value.ref aa :: argsL).toArray = as') {ps : List FieldType} {rr : Option FieldType} (hpd : parseMethodDescriptor y.desc = some ⟨ps, rr⟩) (hlen : argsL.length = ps.length) (hst : st = argsL.reverse ++ .ref aa :: rest) (W : Nat) (hW : (rest.map fun v => v.category).sum ≤ W) (hd : decode c.code pc = .ok (.invokevirtual index, 3)) (hp : pc + 3 = pc') (hf : rm.frames + 1 ≤ R.frames) (hl : W + (maxL + 11) + rm.locals ≤ R.locals) (hc : cells + rm.cells ≤ R.cells) (hn : slots + rm.slots ≤ R.slots) :
    ∃ v T' L, Stand p l e R s m args below meth c T' (locs ++ L) (cells + rm.cells) (slots + rm.slots) ∧ Q v T'.heap L ∧ ∀ t, Steps p.tables e below (T'.setTop (mkF m pc' Ls (v.toList ++ rest))) t → Steps p.tables e below (T.setTop (mkF m pc Ls st)) t := by
  subst hp has
  obtain ⟨v, vm₁, ⟨T', L', k', n'⟩, -, X', ⟨Lc, hQ, l1, y1, z1⟩, st'⟩ := X.virtualBack hx hown (mvT hZ w1) (mvT hZ w2) (notFace_of_selects (args := #[]) (mvT hZ w5)) (mvT hZ w5) (mvT hZ w6) hy (backOf (W := W) (hM []) hZ w4 w3 hf hl) (isOf hZ eT E).choose_spec.choose_spec.1 (isOf hZ eT E).choose_spec.choose_spec.2.2 (g := mkF m pc Ls st) rfl hsz (Steps.refl _) (argsL := argsL) (rest := rest) (lenOf hpd hlen) hst (by show 2 * 0 + _ ≤ _; omega) hd (fun _ _ => ⟨rfl, eT, hc, hn⟩)
  dsimp only [Pt.U, Pt.locs, Pt.cells, Pt.slots] at X' l1 y1 z1 st' hQ
  subst l1 y1 z1
  exact ⟨v, T', Lc, X', hQ, fun t r => st'.trans r⟩
theorem o_bz (b : Prop) [Decidable b] : (if b then (1 : Int32) else 0) &&& 1 = if b then 1 else 0 := by by_cases q : b <;> simp [q]
theorem o_same {k n : Nat} (X : Stand p l e R s m args below meth c T (locs ++ []) (cells + k) (slots + n)) (hk : k = 0) (hn : n = 0) : Stand p l e R s m args below meth c T locs cells slots := by subst hk hn; simpa using X
theorem o_flat {k n : Nat} (X : Stand p l e R s m args below meth c T locs (cells + k) (slots + n)) (hk : k = 0) (hn : n = 0) : Stand p l e R s m args below meth c T locs cells slots := by subst hk hn; exact X
theorem o_fldI {a : Addr} {C n d : String} {x y : Int32} (q : y = x) (F : Fld Z h a C n d (.int x)) : Fld Z h a C n d (.int y) := q ▸ F
theorem o_fldJ {a : Addr} {C n d : String} {x y : Int64} (q : y = x) (F : Fld Z h a C n d (.long x)) : Fld Z h a C n d (.long y) := q ▸ F
theorem o_nb {z : Int32} (q : z = 0 ∨ z = 1) : narrow .boolean (.int z) = .int z := by rcases q with rfl | rfl <;> rfl
theorem o_fb {z : Int32} (q : z = 0 ∨ z = 1) : fits .boolean (.int z) = true := by rcases q with rfl | rfl <;> rfl
theorem o_zb {z : Int32} (q : z = 0 ∨ z = 1) : z &&& 1 = z := by rcases q with rfl | rfl <;> rfl
theorem o_or1 {z : Int32} (q : z = 0 ∨ z = 1) : (z ||| 1) = 0 ∨ (z ||| 1) = 1 := by rcases q with rfl | rfl <;> simp
theorem o_or0 {z : Int32} (q : z = 0 ∨ z = 1) : (z ||| 0) = 0 ∨ (z ||| 0) = 1 := by rcases q with rfl | rfl <;> simp
def oInts (Z : State) (h : Heap) (a : Addr) (xs : List Int32) : Prop := ∃ c : Cell, Arr Z h a c .int ∧ c.slots = (xs.map Value.int).toArray ∧ xs.length < 2 ^ 31
theorem oInts.lt {a : Addr} {xs : List Int32} (F : oInts Z h a xs) : a < h.size := by obtain ⟨c, A, -⟩ := F; exact A.lt
theorem oInts.ext {h' : Heap} {a : Addr} {xs : List Int32} (F : oInts Z h a xs) (E : Ext h h') : oInts Z h' a xs := by obtain ⟨c, A, r⟩ := F; exact ⟨c, A.ext E, r⟩
theorem oInts.keep {h' : Heap} {a : Addr} {xs : List Int32} {ws : List Addr} (F : oInts Z h a xs) (K : Keep h h' ws) (q : a ∉ ws) : oInts Z h' a xs := by obtain ⟨c, A, r⟩ := F; exact ⟨c, ⟨K.2.1 a c A.1 q, A.2⟩, r⟩
theorem oInts.set {h' : Heap} {a : Addr} {xs : List Int32} {i : Nat} {v : Int32} (F : oInts Z h a xs) (W : Wr h h' a i (.int v)) : oInts Z h' a (xs.set i v) := by
  obtain ⟨c, A, S, L⟩ := F
  refine ⟨_, A.same W, ?_, by simpa using L⟩
  simp [Cell.setSlot, S, List.map_set]
theorem oInts.new {a : Addr} {k : ClassId} {n : Int32} (A : Arr Z h a (newA k .int n) .int) (q : ¬ n < 0) : oInts Z h a (List.replicate n.toNatClampNeg 0) := by
  refine ⟨_, A, ?_, ?_⟩
  · simp [newA, defaultValue]
  · have := n.toInt_lt; simp only [List.length_replicate]; have h2 : n.toInt = (n.toNatClampNeg : Int) := nat_of q; omega
theorem oInts.at {a : Addr} {xs : List Int32} {j v : Int32} (F : oInts Z h a xs) (q : ¬ j < 0) (hj : xs[j.toNatClampNeg]? = some v) : ∃ c : Cell, Arr Z h a c .int ∧ ¬ (j < 0 ∨ c.slots.size ≤ j.toNatClampNeg) ∧ c.slots[j.toNatClampNeg]? = some (.int v) := by
  obtain ⟨c, A, S, L⟩ := F
  have hl : j.toNatClampNeg < xs.length := by
    rcases Nat.lt_or_ge j.toNatClampNeg xs.length with r | r
    · exact r
    · rw [List.getElem?_eq_none r] at hj; cases hj
  refine ⟨c, A, ?_, ?_⟩
  · rw [S]; simp only [List.size_toArray, List.length_map]; rintro (r | r)
    · exact q r
    · omega
  · rw [S]; simp [hj]
theorem o_iaload (X : Stand p l e R s m args below meth c T locs cells slots) (hx : p.tables.exec = Jvm.exec) (hZ : Z.Warmed39 s.vm) (eT : T.heap = h) {a : Addr} {xs : List Int32} (F : oInts Z h a xs) {pc pc' : Nat} {Ls : Array Slot} {st : List Value} {j v : Int32} (hd : decode c.code pc = .ok (.iaload, 1)) (q0 : ¬ j < 0) (hj : xs[j.toNatClampNeg]? = some v) (hp : pc + 1 = pc') (q : oGo p e below G T (mkF m pc' Ls (.int v :: st))) : oGo p e below G T (mkF m pc Ls (.int j :: .ref a :: st)) := by
  subst hp
  obtain ⟨cl, A, h1, h2⟩ := F.at q0 hj
  exact q.step fun t r => X.iaload (g := mkF m pc Ls (.int j :: .ref a :: st)) (rest := st) hx (by rw [eT]; exact A.1) (State.isArrayOf_alike hZ.alike A.2.1) A.2.2 h1 h2 rfl rfl hd t r
theorem o_alen (X : Stand p l e R s m args below meth c T locs cells slots) (hx : p.tables.exec = Jvm.exec) (hZ : Z.Warmed39 s.vm) (eT : T.heap = h) {a : Addr} {xs : List Int32} (F : oInts Z h a xs) {pc pc' : Nat} {Ls : Array Slot} {st : List Value} (hd : decode c.code pc = .ok (.arraylength, 1)) (hp : pc + 1 = pc') (q : oGo p e below G T (mkF m pc' Ls (.int xs.length.toInt32 :: st))) : oGo p e below G T (mkF m pc Ls (.ref a :: st)) := by
  subst hp
  obtain ⟨cl, A, S, L⟩ := F
  refine q.step fun t r => X.arraylength (g := mkF m pc Ls (.ref a :: st)) (rest := st) hx (by rw [eT]; exact A.1) (State.isArrayOf_alike hZ.alike A.2.1) rfl rfl hd t ?_
  have : cl.slots.size = xs.length := by rw [S]; simp
  rw [this]; exact r
theorem o_iastore (X : Stand p l e R s m args below meth c T locs cells slots) (hx : p.tables.exec = Jvm.exec) (hZ : Z.Warmed39 s.vm) (eT : T.heap = h) {a : Addr} {xs : List Int32} (F : oInts Z h a xs) {pc pc' : Nat} {Ls : Array Slot} {st : List Value} {j x : Int32} (hd : decode c.code pc = .ok (.iastore, 1)) (q0 : ¬ j < 0) (hj : j.toNatClampNeg < xs.length) (hp : pc + 1 = pc') :
    ∃ T' h', Stand p l e R s m args below meth c T' (locs ++ [⟨a, j.toNatClampNeg⟩]) cells slots ∧ T'.heap = h' ∧ Wr h h' a j.toNatClampNeg (.int x) ∧ ∀ t, Steps p.tables e below (T'.setTop (mkF m pc' Ls st)) t → Steps p.tables e below (T.setTop (mkF m pc Ls (.int x :: .int j :: .ref a :: st))) t := by
  subst hp
  obtain ⟨v, hv⟩ : ∃ v, xs[j.toNatClampNeg]? = some v := ⟨_, List.getElem?_eq_getElem hj⟩
  obtain ⟨cl, A, h1, h2⟩ := F.at q0 hv
  obtain ⟨T', h', X', e', W', st'⟩ := stI X hx hZ eT A (x := x) h1 (g := mkF m pc Ls (.int x :: .int j :: .ref a :: st)) (rest := st) rfl rfl hd
  exact ⟨T', h', X', e', W', st'⟩
theorem o_newI (X : Stand p l e R s m args below meth c T locs cells slots) (hx : p.tables.exec = Jvm.exec) (hZ : Z.Warmed39 s.vm) (w : (Jvm.Cond.arrayClass .int).before a0 Z = true) (eT : T.heap = h) {pc pc' : Nat} {Ls : Array Slot} {st : List Value} {n : Int32} (hd : decode c.code pc = .ok (.newarray .int, 2)) (hn : ¬ n < 0) (cap : Nat) (hcap : n.toNatClampNeg ≤ cap) (hb : cap * 8 ≤ 536870912) (hc : cells + 1 ≤ R.cells) (hl : slots + cap ≤ R.slots) (hp : pc + 2 = pc') :
    ∃ T' h', Stand p l e R s m args below meth c T' locs (cells + 1) (slots + cap) ∧ T'.heap = h' ∧ Ext h h' ∧ oInts Z h' h.size (List.replicate n.toNatClampNeg 0) ∧ ∀ t, Steps p.tables e below (T'.setTop (mkF m pc' Ls (.ref h.size :: st))) t → Steps p.tables e below (T.setTop (mkF m pc Ls (.int n :: st))) t := by
  subst hp
  obtain ⟨T', h', cA, X', e', E, A, st'⟩ := newP X hx hZ (aty := .int) w eT (g := mkF m pc Ls (.int n :: st)) rfl hd (n := n) (rest := st) rfl hn hcap hb hc hl
  have A' := oInts.new A hn
  exact ⟨T', h', X', e', E, A', st'⟩
end OwnKit
theorem d5_0 : decode jdk_29_method_70_code 0 = .ok (.lload_n 0, 1) := by decide +kernel
theorem d5_1 : decode jdk_29_method_70_code 1 = .ok (.lload_n 2, 1) := by decide +kernel
theorem d5_2 : decode jdk_29_method_70_code 2 = .ok (.lcmp, 1) := by decide +kernel
theorem d5_3 : decode jdk_29_method_70_code 3 = .ok (.ifCond .gt 7, 3) := by decide +kernel
theorem d5_6 : decode jdk_29_method_70_code 6 = .ok (.lload_n 0, 1) := by decide +kernel
theorem d5_7 : decode jdk_29_method_70_code 7 = .ok (.goto 4, 3) := by decide +kernel
theorem d5_10 : decode jdk_29_method_70_code 10 = .ok (.lload_n 2, 1) := by decide +kernel
theorem d5_11 : decode jdk_29_method_70_code 11 = .ok (.lreturn, 1) := by decide +kernel
theorem ef_5 (m : MethodId) (x0 : Int64) (x1 : Int64) : entryFrame m #[(.long x0), (.long x1)] 4 = mkF m 0 #[.val (.long x0), .second, .val (.long x1), .second] [] := by first | (simp [entryFrame, mkF, argsToLocals, Value.category]; done) | rfl
def spec5 (x0 : Int64) (x1 : Int64)  : Int64 := (if x1 < x0 then x1 else x0)
def room5 : Room := { frames := 0, cells := 0, slots := 0, locals := 0 }
set_option maxRecDepth 65536 in
set_option maxHeartbeats 40000000 in
theorem rm5 (l : Launch) (Z : State) (a0 : Array Value) (hw : ∀ d ∈ tables_1, d.before a0 Z = true) (x0 : Int64) (x1 : Int64)  (h0 : Heap) (n0 : Nat) (Z0 : n0 ≤ h0.size)  :
    oCon l Z (⟨"java/lang/Math", "min", "(JJ)J"⟩ : MethodName) jdk_29_method_70_code 4 (some .long) room5 #[(.long x0), (.long x1)] h0 (fun v h L => v = some (.long (spec5 x0 x1)) ∧ L = [] ∧ h = h0) := by
  refine oCon.of (by decide +kernel) ?_
  intro p e s m below meth c s₁ hx hby hml hown hnm hret hlk hZ X0 e0
  rw [ef_5 m x0 x1]
  have N0 := Fr.nil n0
  refine o_lloadN (pc' := 1) X0 hx (hb hby d5_0) rfl rfl ?_
  refine o_lloadN (pc' := 2) X0 hx (hb hby d5_1) rfl rfl ?_
  refine o_lcmp (pc' := 3) X0 hx (hb hby d5_2)  rfl ?_
  have J2 : ∀ (v3 : Int64), v3 = (if x1 < x0 then x1 else x0) → oGo p e below (oG s (fun v h L => v = some (.long (spec5 x0 x1)) ∧ L = [] ∧ h = h0) room5.cells room5.slots) s₁ (mkF m 11 #[.val (.long x0), .second, .val (.long x1), .second] [(.long v3)]) := by
    intro v3 hv3
    refine o_retJ X0 hx hret hlk (hb hby d5_11) (by decide) (by decide) ?_
    subst hv3
    exact ⟨congrArg (fun z => some (Value.long z)) (show _ = spec5 x0 x1  from (rfl).symm), rfl, e0⟩
  by_cases c1 : x1 < x0
  · refine o_ifT (pc' := 10) X0 hx (hb hby d5_3) (XT.ll_gt_t c1) (by decide) (by decide) ?_
    refine o_lloadN (pc' := 11) X0 hx (hb hby d5_10) rfl rfl ?_
    exact J2 _ (if_pos c1).symm
  · refine o_ifF (pc' := 6) X0 hx (hb hby d5_3) (XT.ll_gt_f c1) rfl ?_
    refine o_lloadN (pc' := 7) X0 hx (hb hby d5_6) rfl rfl ?_
    refine o_goto (pc' := 11) X0 hx (hb hby d5_7) (by decide) (by decide) ?_
    exact J2 _ (if_neg c1).symm
theorem d6_0 : decode jdk_29_method_66_code 0 = .ok (.lload_n 0, 1) := by decide +kernel
theorem d6_1 : decode jdk_29_method_66_code 1 = .ok (.lload_n 2, 1) := by decide +kernel
theorem d6_2 : decode jdk_29_method_66_code 2 = .ok (.lcmp, 1) := by decide +kernel
theorem d6_3 : decode jdk_29_method_66_code 3 = .ok (.ifCond .lt 7, 3) := by decide +kernel
theorem d6_6 : decode jdk_29_method_66_code 6 = .ok (.lload_n 0, 1) := by decide +kernel
theorem d6_7 : decode jdk_29_method_66_code 7 = .ok (.goto 4, 3) := by decide +kernel
theorem d6_10 : decode jdk_29_method_66_code 10 = .ok (.lload_n 2, 1) := by decide +kernel
theorem d6_11 : decode jdk_29_method_66_code 11 = .ok (.lreturn, 1) := by decide +kernel
theorem ef_6 (m : MethodId) (x0 : Int64) (x1 : Int64) : entryFrame m #[(.long x0), (.long x1)] 4 = mkF m 0 #[.val (.long x0), .second, .val (.long x1), .second] [] := by first | (simp [entryFrame, mkF, argsToLocals, Value.category]; done) | rfl
def spec6 (x0 : Int64) (x1 : Int64)  : Int64 := (if x0 < x1 then x1 else x0)
def room6 : Room := { frames := 0, cells := 0, slots := 0, locals := 0 }
set_option maxRecDepth 65536 in
set_option maxHeartbeats 40000000 in
theorem rm6 (l : Launch) (Z : State) (a0 : Array Value) (hw : ∀ d ∈ tables_1, d.before a0 Z = true) (x0 : Int64) (x1 : Int64)  (h0 : Heap) (n0 : Nat) (Z0 : n0 ≤ h0.size)  :
    oCon l Z (⟨"java/lang/Math", "max", "(JJ)J"⟩ : MethodName) jdk_29_method_66_code 4 (some .long) room6 #[(.long x0), (.long x1)] h0 (fun v h L => v = some (.long (spec6 x0 x1)) ∧ L = [] ∧ h = h0) := by
  refine oCon.of (by decide +kernel) ?_
  intro p e s m below meth c s₁ hx hby hml hown hnm hret hlk hZ X0 e0
  rw [ef_6 m x0 x1]
  have N0 := Fr.nil n0
  refine o_lloadN (pc' := 1) X0 hx (hb hby d6_0) rfl rfl ?_
  refine o_lloadN (pc' := 2) X0 hx (hb hby d6_1) rfl rfl ?_
  refine o_lcmp (pc' := 3) X0 hx (hb hby d6_2)  rfl ?_
  have J2 : ∀ (v3 : Int64), v3 = (if x0 < x1 then x1 else x0) → oGo p e below (oG s (fun v h L => v = some (.long (spec6 x0 x1)) ∧ L = [] ∧ h = h0) room6.cells room6.slots) s₁ (mkF m 11 #[.val (.long x0), .second, .val (.long x1), .second] [(.long v3)]) := by
    intro v3 hv3
    refine o_retJ X0 hx hret hlk (hb hby d6_11) (by decide) (by decide) ?_
    subst hv3
    exact ⟨congrArg (fun z => some (Value.long z)) (show _ = spec6 x0 x1  from (rfl).symm), rfl, e0⟩
  by_cases c1 : x0 < x1
  · refine o_ifT (pc' := 10) X0 hx (hb hby d6_3) (XT.ll_lt_t c1) (by decide) (by decide) ?_
    refine o_lloadN (pc' := 11) X0 hx (hb hby d6_10) rfl rfl ?_
    exact J2 _ (if_pos c1).symm
  · refine o_ifF (pc' := 6) X0 hx (hb hby d6_3) (XT.ll_lt_f c1) rfl ?_
    refine o_lloadN (pc' := 7) X0 hx (hb hby d6_6) rfl rfl ?_
    refine o_goto (pc' := 11) X0 hx (hb hby d6_7) (by decide) (by decide) ?_
    exact J2 _ (if_neg c1).symm
theorem d2_0 : decode jdk_30_method_1_code 0 = .ok (.aload_n 0, 1) := by decide +kernel
theorem d2_1 : decode jdk_30_method_1_code 1 = .ok (.invokespecial 1, 3) := by decide +kernel
theorem d2_4 : decode jdk_30_method_1_code 4 = .ok (.return_, 1) := by decide +kernel
theorem pn_2 : plainName "java/lang/Record" = true := by first | (simp [plainName, overriddenIn]; done) | decide +kernel
theorem ef2 (m : MethodId) (a1 : Addr) : entryFrame m #[(.ref a1)] 1 = mkF m 0 #[.val (.ref a1)] [] := by first | (simp [entryFrame, mkF, argsToLocals, Value.category]; done) | rfl
def room2 : Room := { frames := 1, cells := 0, slots := 0, locals := 12 }
set_option maxRecDepth 65536 in
set_option maxHeartbeats 40000000 in
theorem rm2 (l : Launch) (Z : State) (a0 : Array Value) (hw : ∀ d ∈ tables_1, d.before a0 Z = true) (a1 : Addr) (h0 : Heap) (n0 : Nat) (Z0 : n0 ≤ h0.size)   :
    oCon l Z (⟨"java/lang/Record", "<init>", "()V"⟩ : MethodName) jdk_30_method_1_code 1 none room2 #[(.ref a1)] h0 (fun v h L => v = none ∧ L = [] ∧ h = h0) := by
  refine oCon.of (plainFor_of_name pn_2) ?_
  intro p e s m below meth c s₁ hx hby hml hown hnm hret hlk hZ X0 e0
  rw [ef2 m a1]
  have N0 := Fr.nil n0
  refine o_aloadN (pc' := 1) X0 hx (hb hby d2_0) rfl rfl rfl ?_
  obtain ⟨T1, X1, e1, st1⟩ := initO X0 hx hZ hown (hw _ (List.mem_of_getElem? (i := 11) rfl)) (hw _ (List.mem_of_getElem? (i := 12) rfl)) (hw _ (List.mem_of_getElem? (i := 13) rfl)) e0 (g := (mkF m 1 #[.val (.ref a1)] [(.ref a1)])) rfl (by rw [hml]; rfl) rfl (hb hby d2_1) (by decide) (W := 0) (by show 2 * 0 + _ ≤ _; exact Nat.le_of_eq rfl) (by decide)
  refine oGo.step (f' := (mkF m 4 #[.val (.ref a1)] [])) st1 ?_
  refine o_retV X1 hx hret hlk (hb hby d2_4) (by decide) (by decide) ?_
  exact ⟨rfl, rfl, e1⟩
theorem d1_0 : decode prog_10_method_1_code 0 = .ok (.aload_n 0, 1) := by decide +kernel
theorem d1_1 : decode prog_10_method_1_code 1 = .ok (.invokespecial 1, 3) := by decide +kernel
theorem d1_4 : decode prog_10_method_1_code 4 = .ok (.aload_n 0, 1) := by decide +kernel
theorem d1_5 : decode prog_10_method_1_code 5 = .ok (.lload_n 1, 1) := by decide +kernel
theorem d1_6 : decode prog_10_method_1_code 6 = .ok (.putfield 7, 3) := by decide +kernel
theorem d1_9 : decode prog_10_method_1_code 9 = .ok (.aload_n 0, 1) := by decide +kernel
theorem d1_10 : decode prog_10_method_1_code 10 = .ok (.lload_n 3, 1) := by decide +kernel
theorem d1_11 : decode prog_10_method_1_code 11 = .ok (.putfield 13, 3) := by decide +kernel
theorem d1_14 : decode prog_10_method_1_code 14 = .ok (.aload_n 0, 1) := by decide +kernel
theorem d1_15 : decode prog_10_method_1_code 15 = .ok (.lload 5, 2) := by decide +kernel
theorem d1_17 : decode prog_10_method_1_code 17 = .ok (.putfield 16, 3) := by decide +kernel
theorem d1_20 : decode prog_10_method_1_code 20 = .ok (.aload_n 0, 1) := by decide +kernel
theorem d1_21 : decode prog_10_method_1_code 21 = .ok (.lload 7, 2) := by decide +kernel
theorem d1_23 : decode prog_10_method_1_code 23 = .ok (.putfield 19, 3) := by decide +kernel
theorem d1_26 : decode prog_10_method_1_code 26 = .ok (.aload_n 0, 1) := by decide +kernel
theorem d1_27 : decode prog_10_method_1_code 27 = .ok (.lload 9, 2) := by decide +kernel
theorem d1_29 : decode prog_10_method_1_code 29 = .ok (.putfield 22, 3) := by decide +kernel
theorem d1_32 : decode prog_10_method_1_code 32 = .ok (.aload_n 0, 1) := by decide +kernel
theorem d1_33 : decode prog_10_method_1_code 33 = .ok (.lload 11, 2) := by decide +kernel
theorem d1_35 : decode prog_10_method_1_code 35 = .ok (.putfield 25, 3) := by decide +kernel
theorem d1_38 : decode prog_10_method_1_code 38 = .ok (.aload_n 0, 1) := by decide +kernel
theorem d1_39 : decode prog_10_method_1_code 39 = .ok (.lload 13, 2) := by decide +kernel
theorem d1_41 : decode prog_10_method_1_code 41 = .ok (.putfield 28, 3) := by decide +kernel
theorem d1_44 : decode prog_10_method_1_code 44 = .ok (.return_, 1) := by decide +kernel
theorem pn_1 : plainName "com/example/harborlog/harborlog/Bank$Check" = true := by first | (simp [plainName, overriddenIn]; done) | decide +kernel
theorem ef1 (m : MethodId) (a1 : Addr) (x1 : Int64) (x2 : Int64) (x3 : Int64) (x4 : Int64) (x5 : Int64) (x6 : Int64) (x7 : Int64) : entryFrame m #[(.ref a1), (.long x1), (.long x2), (.long x3), (.long x4), (.long x5), (.long x6), (.long x7)] 15 = mkF m 0 #[.val (.ref a1), .val (.long x1), .second, .val (.long x2), .second, .val (.long x3), .second, .val (.long x4), .second, .val (.long x5), .second, .val (.long x6), .second, .val (.long x7), .second] [] := by first | (simp [entryFrame, mkF, argsToLocals, Value.category]; done) | rfl
theorem pd0 : parseMethodDescriptor "()V" = some ⟨[], none⟩ := by decide +kernel
def room1 : Room := { frames := 2, cells := 0, slots := 0, locals := 24 }
set_option maxRecDepth 65536 in
set_option maxHeartbeats 40000000 in
theorem rm1 (l : Launch) (Z : State) (a0 : Array Value) (hw : ∀ d ∈ tables_1, d.before a0 Z = true) (a1 : Addr) (x1 : Int64) (x2 : Int64) (x3 : Int64) (x4 : Int64) (x5 : Int64) (x6 : Int64) (x7 : Int64) (f_accounts : Int64) (f_tellers : Int64) (f_branches : Int64) (f_history : Int64) (f_rows : Int64) (f_acked : Int64) (f_missing : Int64) (h0 : Heap) (n0 : Nat) (Z0 : n0 ≤ h0.size) (E0 : Exa Z h0 a1 "com/example/harborlog/harborlog/Bank$Check") (F_accounts : Fld Z h0 a1 "com/example/harborlog/harborlog/Bank$Check" "accounts" "J" (.long f_accounts)) (F_tellers : Fld Z h0 a1 "com/example/harborlog/harborlog/Bank$Check" "tellers" "J" (.long f_tellers)) (F_branches : Fld Z h0 a1 "com/example/harborlog/harborlog/Bank$Check" "branches" "J" (.long f_branches)) (F_history : Fld Z h0 a1 "com/example/harborlog/harborlog/Bank$Check" "history" "J" (.long f_history)) (F_rows : Fld Z h0 a1 "com/example/harborlog/harborlog/Bank$Check" "rows" "J" (.long f_rows)) (F_acked : Fld Z h0 a1 "com/example/harborlog/harborlog/Bank$Check" "acked" "J" (.long f_acked)) (F_missing : Fld Z h0 a1 "com/example/harborlog/harborlog/Bank$Check" "missing" "J" (.long f_missing)) (ga : n0 ≤ a1)  :
    oCon l Z (⟨"com/example/harborlog/harborlog/Bank$Check", "<init>", "(JJJJJJJ)V"⟩ : MethodName) prog_10_method_1_code 15 none room1 #[(.ref a1), (.long x1), (.long x2), (.long x3), (.long x4), (.long x5), (.long x6), (.long x7)] h0 (fun v h L => v = none ∧ Fr n0 L ∧ Keep h0 h [a1] ∧ Exa Z h a1 "com/example/harborlog/harborlog/Bank$Check" ∧ Fld Z h a1 "com/example/harborlog/harborlog/Bank$Check" "accounts" "J" (.long x1) ∧ Fld Z h a1 "com/example/harborlog/harborlog/Bank$Check" "tellers" "J" (.long x2) ∧ Fld Z h a1 "com/example/harborlog/harborlog/Bank$Check" "branches" "J" (.long x3) ∧ Fld Z h a1 "com/example/harborlog/harborlog/Bank$Check" "history" "J" (.long x4) ∧ Fld Z h a1 "com/example/harborlog/harborlog/Bank$Check" "rows" "J" (.long x5) ∧ Fld Z h a1 "com/example/harborlog/harborlog/Bank$Check" "acked" "J" (.long x6) ∧ Fld Z h a1 "com/example/harborlog/harborlog/Bank$Check" "missing" "J" (.long x7)) := by
  refine oCon.of (plainFor_of_name pn_1) ?_
  intro p e s m below meth c s₁ hx hby hml hown hnm hret hlk hZ X0 e0
  rw [ef1 m a1 x1 x2 x3 x4 x5 x6 x7]
  have N0 := Fr.nil n0
  have K0 := Keep.refl h0 [a1]
  refine o_aloadN (pc' := 1) X0 hx (hb hby d1_0) rfl rfl rfl ?_
  obtain ⟨r1, T1, L1, X1, hq1, st1⟩ := o_callN X0 hx hZ hown rfl (hw _ (List.mem_of_getElem? (i := 6) rfl)) (hw _ (List.mem_of_getElem? (i := 7) rfl)) (hw _ (List.mem_of_getElem? (i := 9) rfl)) (hw _ (List.mem_of_getElem? (i := 10) rfl)) (by decide) (rm2 l Z a0 hw a1 h0 n0 Z0 ) e0 (pc' := 4) (Ls := #[.val (.ref a1), .val (.long x1), .second, .val (.long x2), .second, .val (.long x3), .second, .val (.long x4), .second, .val (.long x5), .second, .val (.long x6), .second, .val (.long x7), .second]) (by rw [hml]; rfl) [] [] rfl pd0 rfl rfl 0 (Nat.le_of_eq rfl) (hb hby d1_1) rfl (by decide) (by decide) (by decide) (by decide)
  obtain ⟨rfl, rfl, Kc1⟩ := hq1
  refine oGo.step (f' := (mkF m 4 #[.val (.ref a1), .val (.long x1), .second, .val (.long x2), .second, .val (.long x3), .second, .val (.long x4), .second, .val (.long x5), .second, .val (.long x6), .second, .val (.long x7), .second] [])) st1 ?_
  have e1 : T1.heap = h0 := Kc1
  have X1 := o_same X1 rfl rfl
  refine o_aloadN (pc' := 5) X1 hx (hb hby d1_4) rfl rfl rfl ?_
  refine o_lloadN (pc' := 6) X1 hx (hb hby d1_5) rfl rfl ?_
  obtain ⟨T2, h2_, X2, e2, W2, st2⟩ := putF X1 hx hZ hown (host := "") (Or.inl (hw _ (List.mem_of_getElem? (i := 14) rfl))) Via.refl e1 F_accounts E0 (Or.inr ⟨(hw _ (List.mem_of_getElem? (i := 15) rfl)), rfl, hnm⟩) (hw _ (List.mem_of_getElem? (i := 1) rfl)) (ty := .long) (by decide) rfl rfl (g := (mkF m 6 #[.val (.ref a1), .val (.long x1), .second, .val (.long x2), .second, .val (.long x3), .second, .val (.long x4), .second, .val (.long x5), .second, .val (.long x6), .second, .val (.long x7), .second] [(.long x1), (.ref a1)])) rfl rfl (hb hby d1_6)
  refine oGo.step (f' := (mkF m 9 #[.val (.ref a1), .val (.long x1), .second, .val (.long x2), .second, .val (.long x3), .second, .val (.long x4), .second, .val (.long x5), .second, .val (.long x6), .second, .val (.long x7), .second] [])) st2 ?_
  have N2 := Fr.snoc X2 N0 ga
  have F3 := E0.wr W2
  have F4 := F_accounts.same W2
  have F5 := F_tellers.other W2 (Or.inr (slot_ne (Or.inr (hw _ (List.mem_of_getElem? (i := 17) rfl))) (Or.inr (hw _ (List.mem_of_getElem? (i := 15) rfl))) (by decide) (t := .long) (t' := .long) (by decide) (by decide)))
  have F6 := F_branches.other W2 (Or.inr (slot_ne (Or.inr (hw _ (List.mem_of_getElem? (i := 19) rfl))) (Or.inr (hw _ (List.mem_of_getElem? (i := 15) rfl))) (by decide) (t := .long) (t' := .long) (by decide) (by decide)))
  have F7 := F_history.other W2 (Or.inr (slot_ne (Or.inr (hw _ (List.mem_of_getElem? (i := 21) rfl))) (Or.inr (hw _ (List.mem_of_getElem? (i := 15) rfl))) (by decide) (t := .long) (t' := .long) (by decide) (by decide)))
  have F8 := F_rows.other W2 (Or.inr (slot_ne (Or.inr (hw _ (List.mem_of_getElem? (i := 23) rfl))) (Or.inr (hw _ (List.mem_of_getElem? (i := 15) rfl))) (by decide) (t := .long) (t' := .long) (by decide) (by decide)))
  have F9 := F_acked.other W2 (Or.inr (slot_ne (Or.inr (hw _ (List.mem_of_getElem? (i := 25) rfl))) (Or.inr (hw _ (List.mem_of_getElem? (i := 15) rfl))) (by decide) (t := .long) (t' := .long) (by decide) (by decide)))
  have F10 := F_missing.other W2 (Or.inr (slot_ne (Or.inr (hw _ (List.mem_of_getElem? (i := 27) rfl))) (Or.inr (hw _ (List.mem_of_getElem? (i := 15) rfl))) (by decide) (t := .long) (t' := .long) (by decide) (by decide)))
  have K11 := K0.wr W2 (Or.inl (List.mem_of_getElem? (i := 0) rfl))
  refine o_aloadN (pc' := 10) X2 hx (hb hby d1_9) rfl rfl rfl ?_
  refine o_lloadN (pc' := 11) X2 hx (hb hby d1_10) rfl rfl ?_
  obtain ⟨T12, h12_, X12, e12, W12, st12⟩ := putF X2 hx hZ hown (host := "") (Or.inl (hw _ (List.mem_of_getElem? (i := 16) rfl))) Via.refl e2 F5 F3 (Or.inr ⟨(hw _ (List.mem_of_getElem? (i := 17) rfl)), rfl, hnm⟩) (hw _ (List.mem_of_getElem? (i := 1) rfl)) (ty := .long) (by decide) rfl rfl (g := (mkF m 11 #[.val (.ref a1), .val (.long x1), .second, .val (.long x2), .second, .val (.long x3), .second, .val (.long x4), .second, .val (.long x5), .second, .val (.long x6), .second, .val (.long x7), .second] [(.long x2), (.ref a1)])) rfl rfl (hb hby d1_11)
  refine oGo.step (f' := (mkF m 14 #[.val (.ref a1), .val (.long x1), .second, .val (.long x2), .second, .val (.long x3), .second, .val (.long x4), .second, .val (.long x5), .second, .val (.long x6), .second, .val (.long x7), .second] [])) st12 ?_
  have N12 := Fr.snoc X12 N2 ga
  have F13 := F3.wr W12
  have F14 := F4.other W12 (Or.inr (slot_ne (Or.inr (hw _ (List.mem_of_getElem? (i := 15) rfl))) (Or.inr (hw _ (List.mem_of_getElem? (i := 17) rfl))) (by decide) (t := .long) (t' := .long) (by decide) (by decide)))
  have F15 := F5.same W12
  have F16 := F6.other W12 (Or.inr (slot_ne (Or.inr (hw _ (List.mem_of_getElem? (i := 19) rfl))) (Or.inr (hw _ (List.mem_of_getElem? (i := 17) rfl))) (by decide) (t := .long) (t' := .long) (by decide) (by decide)))
  have F17 := F7.other W12 (Or.inr (slot_ne (Or.inr (hw _ (List.mem_of_getElem? (i := 21) rfl))) (Or.inr (hw _ (List.mem_of_getElem? (i := 17) rfl))) (by decide) (t := .long) (t' := .long) (by decide) (by decide)))
  have F18 := F8.other W12 (Or.inr (slot_ne (Or.inr (hw _ (List.mem_of_getElem? (i := 23) rfl))) (Or.inr (hw _ (List.mem_of_getElem? (i := 17) rfl))) (by decide) (t := .long) (t' := .long) (by decide) (by decide)))
  have F19 := F9.other W12 (Or.inr (slot_ne (Or.inr (hw _ (List.mem_of_getElem? (i := 25) rfl))) (Or.inr (hw _ (List.mem_of_getElem? (i := 17) rfl))) (by decide) (t := .long) (t' := .long) (by decide) (by decide)))
  have F20 := F10.other W12 (Or.inr (slot_ne (Or.inr (hw _ (List.mem_of_getElem? (i := 27) rfl))) (Or.inr (hw _ (List.mem_of_getElem? (i := 17) rfl))) (by decide) (t := .long) (t' := .long) (by decide) (by decide)))
  have K21 := K11.wr W12 (Or.inl (List.mem_of_getElem? (i := 0) rfl))
  refine o_aloadN (pc' := 15) X12 hx (hb hby d1_14) rfl rfl rfl ?_
  refine o_lload (pc' := 17) X12 hx (hb hby d1_15) rfl rfl ?_
  obtain ⟨T22, h22_, X22, e22, W22, st22⟩ := putF X12 hx hZ hown (host := "") (Or.inl (hw _ (List.mem_of_getElem? (i := 18) rfl))) Via.refl e12 F16 F13 (Or.inr ⟨(hw _ (List.mem_of_getElem? (i := 19) rfl)), rfl, hnm⟩) (hw _ (List.mem_of_getElem? (i := 1) rfl)) (ty := .long) (by decide) rfl rfl (g := (mkF m 17 #[.val (.ref a1), .val (.long x1), .second, .val (.long x2), .second, .val (.long x3), .second, .val (.long x4), .second, .val (.long x5), .second, .val (.long x6), .second, .val (.long x7), .second] [(.long x3), (.ref a1)])) rfl rfl (hb hby d1_17)
  refine oGo.step (f' := (mkF m 20 #[.val (.ref a1), .val (.long x1), .second, .val (.long x2), .second, .val (.long x3), .second, .val (.long x4), .second, .val (.long x5), .second, .val (.long x6), .second, .val (.long x7), .second] [])) st22 ?_
  have N22 := Fr.snoc X22 N12 ga
  have F23 := F13.wr W22
  have F24 := F14.other W22 (Or.inr (slot_ne (Or.inr (hw _ (List.mem_of_getElem? (i := 15) rfl))) (Or.inr (hw _ (List.mem_of_getElem? (i := 19) rfl))) (by decide) (t := .long) (t' := .long) (by decide) (by decide)))
  have F25 := F15.other W22 (Or.inr (slot_ne (Or.inr (hw _ (List.mem_of_getElem? (i := 17) rfl))) (Or.inr (hw _ (List.mem_of_getElem? (i := 19) rfl))) (by decide) (t := .long) (t' := .long) (by decide) (by decide)))
  have F26 := F16.same W22
  have F27 := F17.other W22 (Or.inr (slot_ne (Or.inr (hw _ (List.mem_of_getElem? (i := 21) rfl))) (Or.inr (hw _ (List.mem_of_getElem? (i := 19) rfl))) (by decide) (t := .long) (t' := .long) (by decide) (by decide)))
  have F28 := F18.other W22 (Or.inr (slot_ne (Or.inr (hw _ (List.mem_of_getElem? (i := 23) rfl))) (Or.inr (hw _ (List.mem_of_getElem? (i := 19) rfl))) (by decide) (t := .long) (t' := .long) (by decide) (by decide)))
  have F29 := F19.other W22 (Or.inr (slot_ne (Or.inr (hw _ (List.mem_of_getElem? (i := 25) rfl))) (Or.inr (hw _ (List.mem_of_getElem? (i := 19) rfl))) (by decide) (t := .long) (t' := .long) (by decide) (by decide)))
  have F30 := F20.other W22 (Or.inr (slot_ne (Or.inr (hw _ (List.mem_of_getElem? (i := 27) rfl))) (Or.inr (hw _ (List.mem_of_getElem? (i := 19) rfl))) (by decide) (t := .long) (t' := .long) (by decide) (by decide)))
  have K31 := K21.wr W22 (Or.inl (List.mem_of_getElem? (i := 0) rfl))
  refine o_aloadN (pc' := 21) X22 hx (hb hby d1_20) rfl rfl rfl ?_
  refine o_lload (pc' := 23) X22 hx (hb hby d1_21) rfl rfl ?_
  obtain ⟨T32, h32_, X32, e32, W32, st32⟩ := putF X22 hx hZ hown (host := "") (Or.inl (hw _ (List.mem_of_getElem? (i := 20) rfl))) Via.refl e22 F27 F23 (Or.inr ⟨(hw _ (List.mem_of_getElem? (i := 21) rfl)), rfl, hnm⟩) (hw _ (List.mem_of_getElem? (i := 1) rfl)) (ty := .long) (by decide) rfl rfl (g := (mkF m 23 #[.val (.ref a1), .val (.long x1), .second, .val (.long x2), .second, .val (.long x3), .second, .val (.long x4), .second, .val (.long x5), .second, .val (.long x6), .second, .val (.long x7), .second] [(.long x4), (.ref a1)])) rfl rfl (hb hby d1_23)
  refine oGo.step (f' := (mkF m 26 #[.val (.ref a1), .val (.long x1), .second, .val (.long x2), .second, .val (.long x3), .second, .val (.long x4), .second, .val (.long x5), .second, .val (.long x6), .second, .val (.long x7), .second] [])) st32 ?_
  have N32 := Fr.snoc X32 N22 ga
  have F33 := F23.wr W32
  have F34 := F24.other W32 (Or.inr (slot_ne (Or.inr (hw _ (List.mem_of_getElem? (i := 15) rfl))) (Or.inr (hw _ (List.mem_of_getElem? (i := 21) rfl))) (by decide) (t := .long) (t' := .long) (by decide) (by decide)))
  have F35 := F25.other W32 (Or.inr (slot_ne (Or.inr (hw _ (List.mem_of_getElem? (i := 17) rfl))) (Or.inr (hw _ (List.mem_of_getElem? (i := 21) rfl))) (by decide) (t := .long) (t' := .long) (by decide) (by decide)))
  have F36 := F26.other W32 (Or.inr (slot_ne (Or.inr (hw _ (List.mem_of_getElem? (i := 19) rfl))) (Or.inr (hw _ (List.mem_of_getElem? (i := 21) rfl))) (by decide) (t := .long) (t' := .long) (by decide) (by decide)))
  have F37 := F27.same W32
  have F38 := F28.other W32 (Or.inr (slot_ne (Or.inr (hw _ (List.mem_of_getElem? (i := 23) rfl))) (Or.inr (hw _ (List.mem_of_getElem? (i := 21) rfl))) (by decide) (t := .long) (t' := .long) (by decide) (by decide)))
  have F39 := F29.other W32 (Or.inr (slot_ne (Or.inr (hw _ (List.mem_of_getElem? (i := 25) rfl))) (Or.inr (hw _ (List.mem_of_getElem? (i := 21) rfl))) (by decide) (t := .long) (t' := .long) (by decide) (by decide)))
  have F40 := F30.other W32 (Or.inr (slot_ne (Or.inr (hw _ (List.mem_of_getElem? (i := 27) rfl))) (Or.inr (hw _ (List.mem_of_getElem? (i := 21) rfl))) (by decide) (t := .long) (t' := .long) (by decide) (by decide)))
  have K41 := K31.wr W32 (Or.inl (List.mem_of_getElem? (i := 0) rfl))
  refine o_aloadN (pc' := 27) X32 hx (hb hby d1_26) rfl rfl rfl ?_
  refine o_lload (pc' := 29) X32 hx (hb hby d1_27) rfl rfl ?_
  obtain ⟨T42, h42_, X42, e42, W42, st42⟩ := putF X32 hx hZ hown (host := "") (Or.inl (hw _ (List.mem_of_getElem? (i := 22) rfl))) Via.refl e32 F38 F33 (Or.inr ⟨(hw _ (List.mem_of_getElem? (i := 23) rfl)), rfl, hnm⟩) (hw _ (List.mem_of_getElem? (i := 1) rfl)) (ty := .long) (by decide) rfl rfl (g := (mkF m 29 #[.val (.ref a1), .val (.long x1), .second, .val (.long x2), .second, .val (.long x3), .second, .val (.long x4), .second, .val (.long x5), .second, .val (.long x6), .second, .val (.long x7), .second] [(.long x5), (.ref a1)])) rfl rfl (hb hby d1_29)
  refine oGo.step (f' := (mkF m 32 #[.val (.ref a1), .val (.long x1), .second, .val (.long x2), .second, .val (.long x3), .second, .val (.long x4), .second, .val (.long x5), .second, .val (.long x6), .second, .val (.long x7), .second] [])) st42 ?_
  have N42 := Fr.snoc X42 N32 ga
  have F43 := F33.wr W42
  have F44 := F34.other W42 (Or.inr (slot_ne (Or.inr (hw _ (List.mem_of_getElem? (i := 15) rfl))) (Or.inr (hw _ (List.mem_of_getElem? (i := 23) rfl))) (by decide) (t := .long) (t' := .long) (by decide) (by decide)))
  have F45 := F35.other W42 (Or.inr (slot_ne (Or.inr (hw _ (List.mem_of_getElem? (i := 17) rfl))) (Or.inr (hw _ (List.mem_of_getElem? (i := 23) rfl))) (by decide) (t := .long) (t' := .long) (by decide) (by decide)))
  have F46 := F36.other W42 (Or.inr (slot_ne (Or.inr (hw _ (List.mem_of_getElem? (i := 19) rfl))) (Or.inr (hw _ (List.mem_of_getElem? (i := 23) rfl))) (by decide) (t := .long) (t' := .long) (by decide) (by decide)))
  have F47 := F37.other W42 (Or.inr (slot_ne (Or.inr (hw _ (List.mem_of_getElem? (i := 21) rfl))) (Or.inr (hw _ (List.mem_of_getElem? (i := 23) rfl))) (by decide) (t := .long) (t' := .long) (by decide) (by decide)))
  have F48 := F38.same W42
  have F49 := F39.other W42 (Or.inr (slot_ne (Or.inr (hw _ (List.mem_of_getElem? (i := 25) rfl))) (Or.inr (hw _ (List.mem_of_getElem? (i := 23) rfl))) (by decide) (t := .long) (t' := .long) (by decide) (by decide)))
  have F50 := F40.other W42 (Or.inr (slot_ne (Or.inr (hw _ (List.mem_of_getElem? (i := 27) rfl))) (Or.inr (hw _ (List.mem_of_getElem? (i := 23) rfl))) (by decide) (t := .long) (t' := .long) (by decide) (by decide)))
  have K51 := K41.wr W42 (Or.inl (List.mem_of_getElem? (i := 0) rfl))
  refine o_aloadN (pc' := 33) X42 hx (hb hby d1_32) rfl rfl rfl ?_
  refine o_lload (pc' := 35) X42 hx (hb hby d1_33) rfl rfl ?_
  obtain ⟨T52, h52_, X52, e52, W52, st52⟩ := putF X42 hx hZ hown (host := "") (Or.inl (hw _ (List.mem_of_getElem? (i := 24) rfl))) Via.refl e42 F49 F43 (Or.inr ⟨(hw _ (List.mem_of_getElem? (i := 25) rfl)), rfl, hnm⟩) (hw _ (List.mem_of_getElem? (i := 1) rfl)) (ty := .long) (by decide) rfl rfl (g := (mkF m 35 #[.val (.ref a1), .val (.long x1), .second, .val (.long x2), .second, .val (.long x3), .second, .val (.long x4), .second, .val (.long x5), .second, .val (.long x6), .second, .val (.long x7), .second] [(.long x6), (.ref a1)])) rfl rfl (hb hby d1_35)
  refine oGo.step (f' := (mkF m 38 #[.val (.ref a1), .val (.long x1), .second, .val (.long x2), .second, .val (.long x3), .second, .val (.long x4), .second, .val (.long x5), .second, .val (.long x6), .second, .val (.long x7), .second] [])) st52 ?_
  have N52 := Fr.snoc X52 N42 ga
  have F53 := F43.wr W52
  have F54 := F44.other W52 (Or.inr (slot_ne (Or.inr (hw _ (List.mem_of_getElem? (i := 15) rfl))) (Or.inr (hw _ (List.mem_of_getElem? (i := 25) rfl))) (by decide) (t := .long) (t' := .long) (by decide) (by decide)))
  have F55 := F45.other W52 (Or.inr (slot_ne (Or.inr (hw _ (List.mem_of_getElem? (i := 17) rfl))) (Or.inr (hw _ (List.mem_of_getElem? (i := 25) rfl))) (by decide) (t := .long) (t' := .long) (by decide) (by decide)))
  have F56 := F46.other W52 (Or.inr (slot_ne (Or.inr (hw _ (List.mem_of_getElem? (i := 19) rfl))) (Or.inr (hw _ (List.mem_of_getElem? (i := 25) rfl))) (by decide) (t := .long) (t' := .long) (by decide) (by decide)))
  have F57 := F47.other W52 (Or.inr (slot_ne (Or.inr (hw _ (List.mem_of_getElem? (i := 21) rfl))) (Or.inr (hw _ (List.mem_of_getElem? (i := 25) rfl))) (by decide) (t := .long) (t' := .long) (by decide) (by decide)))
  have F58 := F48.other W52 (Or.inr (slot_ne (Or.inr (hw _ (List.mem_of_getElem? (i := 23) rfl))) (Or.inr (hw _ (List.mem_of_getElem? (i := 25) rfl))) (by decide) (t := .long) (t' := .long) (by decide) (by decide)))
  have F59 := F49.same W52
  have F60 := F50.other W52 (Or.inr (slot_ne (Or.inr (hw _ (List.mem_of_getElem? (i := 27) rfl))) (Or.inr (hw _ (List.mem_of_getElem? (i := 25) rfl))) (by decide) (t := .long) (t' := .long) (by decide) (by decide)))
  have K61 := K51.wr W52 (Or.inl (List.mem_of_getElem? (i := 0) rfl))
  refine o_aloadN (pc' := 39) X52 hx (hb hby d1_38) rfl rfl rfl ?_
  refine o_lload (pc' := 41) X52 hx (hb hby d1_39) rfl rfl ?_
  obtain ⟨T62, h62_, X62, e62, W62, st62⟩ := putF X52 hx hZ hown (host := "") (Or.inl (hw _ (List.mem_of_getElem? (i := 26) rfl))) Via.refl e52 F60 F53 (Or.inr ⟨(hw _ (List.mem_of_getElem? (i := 27) rfl)), rfl, hnm⟩) (hw _ (List.mem_of_getElem? (i := 1) rfl)) (ty := .long) (by decide) rfl rfl (g := (mkF m 41 #[.val (.ref a1), .val (.long x1), .second, .val (.long x2), .second, .val (.long x3), .second, .val (.long x4), .second, .val (.long x5), .second, .val (.long x6), .second, .val (.long x7), .second] [(.long x7), (.ref a1)])) rfl rfl (hb hby d1_41)
  refine oGo.step (f' := (mkF m 44 #[.val (.ref a1), .val (.long x1), .second, .val (.long x2), .second, .val (.long x3), .second, .val (.long x4), .second, .val (.long x5), .second, .val (.long x6), .second, .val (.long x7), .second] [])) st62 ?_
  have N62 := Fr.snoc X62 N52 ga
  have F63 := F53.wr W62
  have F64 := F54.other W62 (Or.inr (slot_ne (Or.inr (hw _ (List.mem_of_getElem? (i := 15) rfl))) (Or.inr (hw _ (List.mem_of_getElem? (i := 27) rfl))) (by decide) (t := .long) (t' := .long) (by decide) (by decide)))
  have F65 := F55.other W62 (Or.inr (slot_ne (Or.inr (hw _ (List.mem_of_getElem? (i := 17) rfl))) (Or.inr (hw _ (List.mem_of_getElem? (i := 27) rfl))) (by decide) (t := .long) (t' := .long) (by decide) (by decide)))
  have F66 := F56.other W62 (Or.inr (slot_ne (Or.inr (hw _ (List.mem_of_getElem? (i := 19) rfl))) (Or.inr (hw _ (List.mem_of_getElem? (i := 27) rfl))) (by decide) (t := .long) (t' := .long) (by decide) (by decide)))
  have F67 := F57.other W62 (Or.inr (slot_ne (Or.inr (hw _ (List.mem_of_getElem? (i := 21) rfl))) (Or.inr (hw _ (List.mem_of_getElem? (i := 27) rfl))) (by decide) (t := .long) (t' := .long) (by decide) (by decide)))
  have F68 := F58.other W62 (Or.inr (slot_ne (Or.inr (hw _ (List.mem_of_getElem? (i := 23) rfl))) (Or.inr (hw _ (List.mem_of_getElem? (i := 27) rfl))) (by decide) (t := .long) (t' := .long) (by decide) (by decide)))
  have F69 := F59.other W62 (Or.inr (slot_ne (Or.inr (hw _ (List.mem_of_getElem? (i := 25) rfl))) (Or.inr (hw _ (List.mem_of_getElem? (i := 27) rfl))) (by decide) (t := .long) (t' := .long) (by decide) (by decide)))
  have F70 := F60.same W62
  have K71 := K61.wr W62 (Or.inl (List.mem_of_getElem? (i := 0) rfl))
  refine o_retV X62 hx hret hlk (hb hby d1_44) (by decide) (by decide) ?_
  rw [e62]
  exact ⟨rfl, N62, K71, F63, F64, F65, F66, F67, F68, F69, F70⟩
theorem d4_0 : decode prog_10_method_2_code 0 = .ok (.aload_n 0, 1) := by decide +kernel
theorem d4_1 : decode prog_10_method_2_code 1 = .ok (.getfield 7, 3) := by decide +kernel
theorem d4_4 : decode prog_10_method_2_code 4 = .ok (.aload_n 0, 1) := by decide +kernel
theorem d4_5 : decode prog_10_method_2_code 5 = .ok (.getfield 13, 3) := by decide +kernel
theorem d4_8 : decode prog_10_method_2_code 8 = .ok (.lcmp, 1) := by decide +kernel
theorem d4_9 : decode prog_10_method_2_code 9 = .ok (.ifCond .ne 40, 3) := by decide +kernel
theorem d4_12 : decode prog_10_method_2_code 12 = .ok (.aload_n 0, 1) := by decide +kernel
theorem d4_13 : decode prog_10_method_2_code 13 = .ok (.getfield 13, 3) := by decide +kernel
theorem d4_16 : decode prog_10_method_2_code 16 = .ok (.aload_n 0, 1) := by decide +kernel
theorem d4_17 : decode prog_10_method_2_code 17 = .ok (.getfield 16, 3) := by decide +kernel
theorem d4_20 : decode prog_10_method_2_code 20 = .ok (.lcmp, 1) := by decide +kernel
theorem d4_21 : decode prog_10_method_2_code 21 = .ok (.ifCond .ne 28, 3) := by decide +kernel
theorem d4_24 : decode prog_10_method_2_code 24 = .ok (.aload_n 0, 1) := by decide +kernel
theorem d4_25 : decode prog_10_method_2_code 25 = .ok (.getfield 16, 3) := by decide +kernel
theorem d4_28 : decode prog_10_method_2_code 28 = .ok (.aload_n 0, 1) := by decide +kernel
theorem d4_29 : decode prog_10_method_2_code 29 = .ok (.getfield 19, 3) := by decide +kernel
theorem d4_32 : decode prog_10_method_2_code 32 = .ok (.lcmp, 1) := by decide +kernel
theorem d4_33 : decode prog_10_method_2_code 33 = .ok (.ifCond .ne 16, 3) := by decide +kernel
theorem d4_36 : decode prog_10_method_2_code 36 = .ok (.aload_n 0, 1) := by decide +kernel
theorem d4_37 : decode prog_10_method_2_code 37 = .ok (.getfield 28, 3) := by decide +kernel
theorem d4_40 : decode prog_10_method_2_code 40 = .ok (.lconst 0, 1) := by decide +kernel
theorem d4_41 : decode prog_10_method_2_code 41 = .ok (.lcmp, 1) := by decide +kernel
theorem d4_42 : decode prog_10_method_2_code 42 = .ok (.ifCond .ne 7, 3) := by decide +kernel
theorem d4_45 : decode prog_10_method_2_code 45 = .ok (.iconst 1, 1) := by decide +kernel
theorem d4_46 : decode prog_10_method_2_code 46 = .ok (.goto 4, 3) := by decide +kernel
theorem d4_49 : decode prog_10_method_2_code 49 = .ok (.iconst 0, 1) := by decide +kernel
theorem d4_50 : decode prog_10_method_2_code 50 = .ok (.ireturn, 1) := by decide +kernel
theorem ef4 (m : MethodId) (a1 : Addr) : entryFrame m #[(.ref a1)] 1 = mkF m 0 #[.val (.ref a1)] [] := by first | (simp [entryFrame, mkF, argsToLocals, Value.category]; done) | rfl
def spec4 (f_accounts : Int64) (f_tellers : Int64) (f_branches : Int64) (f_history : Int64) (f_missing : Int64) : Int32 := (if f_accounts = f_tellers then (if f_tellers = f_branches then (if f_branches = f_history then (if f_missing = (0 : Int64) then (1 : Int32) else (0 : Int32)) else (0 : Int32)) else (0 : Int32)) else (0 : Int32))
def room4 : Room := { frames := 0, cells := 0, slots := 0, locals := 0 }
set_option maxRecDepth 65536 in
set_option maxHeartbeats 40000000 in
theorem rm4 (l : Launch) (Z : State) (a0 : Array Value) (hw : ∀ d ∈ tables_1, d.before a0 Z = true) (a1 : Addr) (f_accounts : Int64) (f_tellers : Int64) (f_branches : Int64) (f_history : Int64) (f_rows : Int64) (f_acked : Int64) (f_missing : Int64) (h0 : Heap) (n0 : Nat) (Z0 : n0 ≤ h0.size) (E0 : Exa Z h0 a1 "com/example/harborlog/harborlog/Bank$Check") (F_accounts : Fld Z h0 a1 "com/example/harborlog/harborlog/Bank$Check" "accounts" "J" (.long f_accounts)) (F_tellers : Fld Z h0 a1 "com/example/harborlog/harborlog/Bank$Check" "tellers" "J" (.long f_tellers)) (F_branches : Fld Z h0 a1 "com/example/harborlog/harborlog/Bank$Check" "branches" "J" (.long f_branches)) (F_history : Fld Z h0 a1 "com/example/harborlog/harborlog/Bank$Check" "history" "J" (.long f_history)) (F_rows : Fld Z h0 a1 "com/example/harborlog/harborlog/Bank$Check" "rows" "J" (.long f_rows)) (F_acked : Fld Z h0 a1 "com/example/harborlog/harborlog/Bank$Check" "acked" "J" (.long f_acked)) (F_missing : Fld Z h0 a1 "com/example/harborlog/harborlog/Bank$Check" "missing" "J" (.long f_missing))  :
    oCon l Z (⟨"com/example/harborlog/harborlog/Bank$Check", "consistent", "()Z"⟩ : MethodName) prog_10_method_2_code 1 (some .boolean) room4 #[(.ref a1)] h0 (fun v h L => v = some (.int (spec4 f_accounts f_tellers f_branches f_history f_missing)) ∧ L = [] ∧ h = h0) := by
  refine oCon.of (plainFor_of_name pn_1) ?_
  intro p e s m below meth c s₁ hx hby hml hown hnm hret hlk hZ X0 e0
  rw [ef4 m a1]
  have N0 := Fr.nil n0
  refine o_aloadN (pc' := 1) X0 hx (hb hby d4_0) rfl rfl rfl ?_
  obtain ⟨T1, X1, e1, st1⟩ := getF X0 hx hZ hown (host := "") (Or.inl (hw _ (List.mem_of_getElem? (i := 14) rfl))) Via.refl e0 F_accounts (g := (mkF m 1 #[.val (.ref a1)] [(.ref a1)])) rfl rfl (hb hby d4_1)
  refine oGo.step (f' := (mkF m 4 #[.val (.ref a1)] [(.long f_accounts)])) st1 ?_
  refine o_aloadN (pc' := 5) X1 hx (hb hby d4_4) rfl rfl rfl ?_
  obtain ⟨T2, X2, e2, st2⟩ := getF X1 hx hZ hown (host := "") (Or.inl (hw _ (List.mem_of_getElem? (i := 16) rfl))) Via.refl e1 F_tellers (g := (mkF m 5 #[.val (.ref a1)] [(.ref a1), (.long f_accounts)])) rfl rfl (hb hby d4_5)
  refine oGo.step (f' := (mkF m 8 #[.val (.ref a1)] [(.long f_tellers), (.long f_accounts)])) st2 ?_
  refine o_lcmp (pc' := 9) X2 hx (hb hby d4_8)  rfl ?_
  have J4 : ∀ (T14 : State) (X14 : Stand p l e room4 s m #[(.ref a1)] below meth c T14 [] (0) (0)) (e14 : T14.heap = h0) (v13 : Int32), v13 = (if f_accounts = f_tellers then (if f_tellers = f_branches then (if f_branches = f_history then (if f_missing = (0 : Int64) then (1 : Int32) else (0 : Int32)) else (0 : Int32)) else (0 : Int32)) else (0 : Int32)) → oGo p e below (oG s (fun v h L => v = some (.int (spec4 f_accounts f_tellers f_branches f_history f_missing)) ∧ L = [] ∧ h = h0) room4.cells room4.slots) T14 (mkF m 50 #[.val (.ref a1)] [(.int v13)]) := by
    intro T14 X14 e14 v13 hv13
    refine o_retZ X14 hx hret hlk (hb hby d4_50) (by rw [hv13]; (repeat' split) <;> (first | rfl | assumption)) (by decide) (by decide) ?_
    subst hv13
    exact ⟨rfl, rfl, e14⟩
  by_cases c3 : f_accounts = f_tellers
  · refine o_ifF (pc' := 12) X2 hx (hb hby d4_9) (XT.ll_ne_f c3) rfl ?_
    refine o_aloadN (pc' := 13) X2 hx (hb hby d4_12) rfl rfl rfl ?_
    obtain ⟨T5, X5, e5, st5⟩ := getF X2 hx hZ hown (host := "") (Or.inl (hw _ (List.mem_of_getElem? (i := 16) rfl))) Via.refl e2 F_tellers (g := (mkF m 13 #[.val (.ref a1)] [(.ref a1)])) rfl rfl (hb hby d4_13)
    refine oGo.step (f' := (mkF m 16 #[.val (.ref a1)] [(.long f_tellers)])) st5 ?_
    refine o_aloadN (pc' := 17) X5 hx (hb hby d4_16) rfl rfl rfl ?_
    obtain ⟨T6, X6, e6, st6⟩ := getF X5 hx hZ hown (host := "") (Or.inl (hw _ (List.mem_of_getElem? (i := 18) rfl))) Via.refl e5 F_branches (g := (mkF m 17 #[.val (.ref a1)] [(.ref a1), (.long f_tellers)])) rfl rfl (hb hby d4_17)
    refine oGo.step (f' := (mkF m 20 #[.val (.ref a1)] [(.long f_branches), (.long f_tellers)])) st6 ?_
    refine o_lcmp (pc' := 21) X6 hx (hb hby d4_20)  rfl ?_
    by_cases c7 : f_tellers = f_branches
    · refine o_ifF (pc' := 24) X6 hx (hb hby d4_21) (XT.ll_ne_f c7) rfl ?_
      refine o_aloadN (pc' := 25) X6 hx (hb hby d4_24) rfl rfl rfl ?_
      obtain ⟨T8, X8, e8, st8⟩ := getF X6 hx hZ hown (host := "") (Or.inl (hw _ (List.mem_of_getElem? (i := 18) rfl))) Via.refl e6 F_branches (g := (mkF m 25 #[.val (.ref a1)] [(.ref a1)])) rfl rfl (hb hby d4_25)
      refine oGo.step (f' := (mkF m 28 #[.val (.ref a1)] [(.long f_branches)])) st8 ?_
      refine o_aloadN (pc' := 29) X8 hx (hb hby d4_28) rfl rfl rfl ?_
      obtain ⟨T9, X9, e9, st9⟩ := getF X8 hx hZ hown (host := "") (Or.inl (hw _ (List.mem_of_getElem? (i := 20) rfl))) Via.refl e8 F_history (g := (mkF m 29 #[.val (.ref a1)] [(.ref a1), (.long f_branches)])) rfl rfl (hb hby d4_29)
      refine oGo.step (f' := (mkF m 32 #[.val (.ref a1)] [(.long f_history), (.long f_branches)])) st9 ?_
      refine o_lcmp (pc' := 33) X9 hx (hb hby d4_32)  rfl ?_
      by_cases c10 : f_branches = f_history
      · refine o_ifF (pc' := 36) X9 hx (hb hby d4_33) (XT.ll_ne_f c10) rfl ?_
        refine o_aloadN (pc' := 37) X9 hx (hb hby d4_36) rfl rfl rfl ?_
        obtain ⟨T11, X11, e11, st11⟩ := getF X9 hx hZ hown (host := "") (Or.inl (hw _ (List.mem_of_getElem? (i := 26) rfl))) Via.refl e9 F_missing (g := (mkF m 37 #[.val (.ref a1)] [(.ref a1)])) rfl rfl (hb hby d4_37)
        refine oGo.step (f' := (mkF m 40 #[.val (.ref a1)] [(.long f_missing)])) st11 ?_
        refine o_lconst (pc' := 41) (v := (0 : Int64)) X11 hx (hb hby d4_40) rfl rfl ?_
        refine o_lcmp (pc' := 42) X11 hx (hb hby d4_41)  rfl ?_
        by_cases c12 : f_missing = (0 : Int64)
        · refine o_ifF (pc' := 45) X11 hx (hb hby d4_42) (XT.ll_ne_f c12) rfl ?_
          refine o_iconst (pc' := 46) (v := (1 : Int32)) X11 hx (hb hby d4_45) rfl rfl ?_
          refine o_goto (pc' := 50) X11 hx (hb hby d4_46) (by decide) (by decide) ?_
          exact J4 T11 X11 e11 _ ((if_pos c3).trans ((if_pos c7).trans ((if_pos c10).trans (if_pos c12)))).symm
        · refine o_ifT (pc' := 49) X11 hx (hb hby d4_42) (XT.ll_ne_t c12) (by decide) (by decide) ?_
          refine o_iconst (pc' := 50) (v := (0 : Int32)) X11 hx (hb hby d4_49) rfl rfl ?_
          exact J4 T11 X11 e11 _ ((if_pos c3).trans ((if_pos c7).trans ((if_pos c10).trans (if_neg c12)))).symm
      · refine o_ifT (pc' := 49) X9 hx (hb hby d4_33) (XT.ll_ne_t c10) (by decide) (by decide) ?_
        refine o_iconst (pc' := 50) (v := (0 : Int32)) X9 hx (hb hby d4_49) rfl rfl ?_
        exact J4 T9 X9 e9 _ ((if_pos c3).trans ((if_pos c7).trans (if_neg c10))).symm
    · refine o_ifT (pc' := 49) X6 hx (hb hby d4_21) (XT.ll_ne_t c7) (by decide) (by decide) ?_
      refine o_iconst (pc' := 50) (v := (0 : Int32)) X6 hx (hb hby d4_49) rfl rfl ?_
      exact J4 T6 X6 e6 _ ((if_pos c3).trans (if_neg c7)).symm
  · refine o_ifT (pc' := 49) X2 hx (hb hby d4_9) (XT.ll_ne_t c3) (by decide) (by decide) ?_
    refine o_iconst (pc' := 50) (v := (0 : Int32)) X2 hx (hb hby d4_49) rfl rfl ?_
    exact J4 T2 X2 e2 _ (if_neg c3).symm
theorem pn_0 : plainName "com/example/harborlog/harborlog/CheckConsistentPinLaw" = true := by first | (simp [plainName, overriddenIn]; done) | decide +kernel
theorem ef_0 (m : MethodId) (x0 : Int64) (x1 : Int64) (x2 : Int64) (x3 : Int64) (x4 : Int64) (x5 : Int32) : entryFrame m #[(.long x0), (.long x1), (.long x2), (.long x3), (.long x4), (.int x5)] maxLocals = mkF m 0 #[.val (.long x0), .second, .val (.long x1), .second, .val (.long x2), .second, .val (.long x3), .second, .val (.long x4), .second, .val (.int x5), .unset, .unset, .unset, .unset, .unset, .unset, .unset, .unset, .unset, .unset, .unset, .unset, .unset, .unset, .unset] [] := by first | (simp [entryFrame, mkF, argsToLocals, Value.category, maxLocals]; done) | rfl
theorem pd1 : parseMethodDescriptor "(JJJJJJJ)V" = some ⟨[.long, .long, .long, .long, .long, .long, .long], none⟩ := by decide +kernel
theorem pd2 : parseMethodDescriptor "()Z" = some ⟨[], (some .boolean)⟩ := by decide +kernel
theorem pd3 : parseMethodDescriptor "(JJ)J" = some ⟨[.long, .long], (some .long)⟩ := by decide +kernel
def spec0 (x0 : Int64) (x1 : Int64) (x2 : Int64) (x3 : Int64) (x4 : Int64) (x5 : Int32) : Int32 := (if (spec4 x0 (if (x5 &&& (1 : Int32)) = 0 then x0 else (x0 + x1)) (if (x5 &&& (2 : Int32)) = 0 then x0 else (x0 + x1)) (if (x5 &&& (4 : Int32)) = 0 then x0 else (x0 + x1)) (if (x5 &&& (8 : Int32)) = 0 then x4 else (0 : Int64))) = (if (spec5 (spec5 x0 (if (x5 &&& (1 : Int32)) = 0 then x0 else (x0 + x1))) (spec5 (if (x5 &&& (2 : Int32)) = 0 then x0 else (x0 + x1)) (if (x5 &&& (4 : Int32)) = 0 then x0 else (x0 + x1)))) = (spec6 (spec6 x0 (if (x5 &&& (1 : Int32)) = 0 then x0 else (x0 + x1))) (spec6 (if (x5 &&& (2 : Int32)) = 0 then x0 else (x0 + x1)) (if (x5 &&& (4 : Int32)) = 0 then x0 else (x0 + x1)))) then (if (if (x5 &&& (8 : Int32)) = 0 then x4 else (0 : Int64)) = (0 : Int64) then (1 : Int32) else (0 : Int32)) else (0 : Int32)) then (1 : Int32) else (0 : Int32))
theorem own_min (x y : Int64) : (spec5 x y).toInt = min x.toInt y.toInt := by
  unfold spec5; split <;> rename_i h <;> rw [Int64.lt_iff_toInt_lt] at h <;> omega
theorem own_max (x y : Int64) : (spec6 x y).toInt = max x.toInt y.toInt := by
  unfold spec6; split <;> rename_i h <;> rw [Int64.lt_iff_toInt_lt] at h <;> omega
theorem own_all (a t b h : Int64) : (spec5 (spec5 a t) (spec5 b h) = spec6 (spec6 a t) (spec6 b h)) ↔ (a = t ∧ t = b ∧ b = h) := by
  simp only [← Int64.toInt_inj, own_min, own_max]
  omega
theorem own_law (x0 x1 x2 x3 x4 : Int64) (x5 : Int32) : spec0 x0 x1 x2 x3 x4 x5 = 1 := by
  unfold spec0
  generalize (if (x5 &&& (1 : Int32)) = 0 then x0 else (x0 + x1)) = t
  generalize (if (x5 &&& (2 : Int32)) = 0 then x0 else (x0 + x1)) = b
  generalize (if (x5 &&& (4 : Int32)) = 0 then x0 else (x0 + x1)) = h
  generalize (if (x5 &&& (8 : Int32)) = 0 then x4 else (0 : Int64)) = m
  have key := own_all x0 t b h
  unfold spec4
  by_cases q : x0 = t ∧ t = b ∧ b = h
  · rw [if_pos (key.mpr q), if_pos q.1, if_pos q.2.1, if_pos q.2.2, if_pos rfl]
  · rw [if_neg (fun r => q (key.mp r))]
    have : (if x0 = t then (if t = b then (if b = h then (if m = (0 : Int64) then (1 : Int32) else (0 : Int32)) else (0 : Int32)) else (0 : Int32)) else (0 : Int32)) = 0 := by
      by_cases q1 : x0 = t
      · rw [if_pos q1]
        by_cases q2 : t = b
        · rw [if_pos q2]
          by_cases q3 : b = h
          · exact absurd ⟨q1, q2, q3⟩ q
          · rw [if_neg q3]
        · rw [if_neg q2]
      · rw [if_neg q1]
    rw [if_pos this]
set_option maxRecDepth 65536 in
set_option maxHeartbeats 40000000 in
theorem rm0 (l : Launch) (Z : State) (a0 : Array Value) (hw : ∀ d ∈ tables_1, d.before a0 Z = true) (x0 : Int64) (x1 : Int64) (x2 : Int64) (x3 : Int64) (x4 : Int64) (x5 : Int32) (h0 : Heap) (n0 : Nat) (Z0 : n0 ≤ h0.size)  :
    oCon l Z x code maxLocals ret room_1 #[(.long x0), (.long x1), (.long x2), (.long x3), (.long x4), (.int x5)] h0 (fun v h L => v = some (.int 1) ∧ Fr n0 L) := by
  refine oCon.of (plainFor_of_name pn_0) ?_
  intro p e s m below meth c s₁ hx hby hml hown hnm hret hlk hZ X0 e0
  replace hml : c.maxLocals = 26 := hml
  rw [ef_0 m x0 x1 x2 x3 x4 x5]
  have N0 := Fr.nil n0
  refine o_iload (pc' := 2) X0 hx (hb hby at_0) rfl rfl ?_
  refine o_iconst (pc' := 3) (v := (1 : Int32)) X0 hx (hb hby at_2) rfl rfl ?_
  refine o_iand (pc' := 4) X0 hx (hb hby at_3)  rfl ?_
  have J2 : ∀ (v3 : Int64), v3 = (if (x5 &&& (1 : Int32)) = 0 then x0 else (x0 + x1)) → oGo p e below (oG s (fun v h L => v = some (.int 1) ∧ Fr n0 L) room_1.cells room_1.slots) s₁ (mkF m 14 #[.val (.long x0), .second, .val (.long x1), .second, .val (.long x2), .second, .val (.long x3), .second, .val (.long x4), .second, .val (.int x5), .unset, .unset, .unset, .unset, .unset, .unset, .unset, .unset, .unset, .unset, .unset, .unset, .unset, .unset, .unset] [(.long v3)]) := by
    intro v3 hv3
    refine o_lstore (pc' := 16) (l' := #[.val (.long x0), .second, .val (.long x1), .second, .val (.long x2), .second, .val (.long x3), .second, .val (.long x4), .second, .val (.int x5), .val (.long v3), .second, .unset, .unset, .unset, .unset, .unset, .unset, .unset, .unset, .unset, .unset, .unset, .unset, .unset]) X0 hx (hb hby at_14) rfl rfl ?_
    refine o_iload (pc' := 18) X0 hx (hb hby at_16) rfl rfl ?_
    refine o_iconst (pc' := 19) (v := (2 : Int32)) X0 hx (hb hby at_18) rfl rfl ?_
    refine o_iand (pc' := 20) X0 hx (hb hby at_19)  rfl ?_
    have J5 : ∀ (v6 : Int64), v6 = (if (x5 &&& (2 : Int32)) = 0 then x0 else (x0 + x1)) → oGo p e below (oG s (fun v h L => v = some (.int 1) ∧ Fr n0 L) room_1.cells room_1.slots) s₁ (mkF m 30 #[.val (.long x0), .second, .val (.long x1), .second, .val (.long x2), .second, .val (.long x3), .second, .val (.long x4), .second, .val (.int x5), .val (.long v3), .second, .unset, .unset, .unset, .unset, .unset, .unset, .unset, .unset, .unset, .unset, .unset, .unset, .unset] [(.long v6)]) := by
      intro v6 hv6
      refine o_lstore (pc' := 32) (l' := #[.val (.long x0), .second, .val (.long x1), .second, .val (.long x2), .second, .val (.long x3), .second, .val (.long x4), .second, .val (.int x5), .val (.long v3), .second, .val (.long v6), .second, .unset, .unset, .unset, .unset, .unset, .unset, .unset, .unset, .unset, .unset, .unset]) X0 hx (hb hby at_30) rfl rfl ?_
      refine o_iload (pc' := 34) X0 hx (hb hby at_32) rfl rfl ?_
      refine o_iconst (pc' := 35) (v := (4 : Int32)) X0 hx (hb hby at_34) rfl rfl ?_
      refine o_iand (pc' := 36) X0 hx (hb hby at_35)  rfl ?_
      have J8 : ∀ (v9 : Int64), v9 = (if (x5 &&& (4 : Int32)) = 0 then x0 else (x0 + x1)) → oGo p e below (oG s (fun v h L => v = some (.int 1) ∧ Fr n0 L) room_1.cells room_1.slots) s₁ (mkF m 46 #[.val (.long x0), .second, .val (.long x1), .second, .val (.long x2), .second, .val (.long x3), .second, .val (.long x4), .second, .val (.int x5), .val (.long v3), .second, .val (.long v6), .second, .unset, .unset, .unset, .unset, .unset, .unset, .unset, .unset, .unset, .unset, .unset] [(.long v9)]) := by
        intro v9 hv9
        refine o_lstore (pc' := 48) (l' := #[.val (.long x0), .second, .val (.long x1), .second, .val (.long x2), .second, .val (.long x3), .second, .val (.long x4), .second, .val (.int x5), .val (.long v3), .second, .val (.long v6), .second, .val (.long v9), .second, .unset, .unset, .unset, .unset, .unset, .unset, .unset, .unset, .unset]) X0 hx (hb hby at_46) rfl rfl ?_
        refine o_iload (pc' := 50) X0 hx (hb hby at_48) rfl rfl ?_
        refine o_bipush (pc' := 52) (v := (8 : Int32)) X0 hx (hb hby at_50) rfl rfl ?_
        refine o_iand (pc' := 53) X0 hx (hb hby at_52)  rfl ?_
        have J11 : ∀ (v12 : Int64), v12 = (if (x5 &&& (8 : Int32)) = 0 then x4 else (0 : Int64)) → oGo p e below (oG s (fun v h L => v = some (.int 1) ∧ Fr n0 L) room_1.cells room_1.slots) s₁ (mkF m 62 #[.val (.long x0), .second, .val (.long x1), .second, .val (.long x2), .second, .val (.long x3), .second, .val (.long x4), .second, .val (.int x5), .val (.long v3), .second, .val (.long v6), .second, .val (.long v9), .second, .unset, .unset, .unset, .unset, .unset, .unset, .unset, .unset, .unset] [(.long v12)]) := by
          intro v12 hv12
          refine o_lstore (pc' := 64) (l' := #[.val (.long x0), .second, .val (.long x1), .second, .val (.long x2), .second, .val (.long x3), .second, .val (.long x4), .second, .val (.int x5), .val (.long v3), .second, .val (.long v6), .second, .val (.long v9), .second, .val (.long v12), .second, .unset, .unset, .unset, .unset, .unset, .unset, .unset]) X0 hx (hb hby at_62) rfl rfl ?_
          obtain ⟨T13, h13_, X13, e13, E13, A13, D13, -, st13⟩ := newO X0 hx hZ hown (hw _ (List.mem_of_getElem? (i := 0) rfl)) (hw _ (List.mem_of_getElem? (i := 1) rfl)) (hw _ (List.mem_of_getElem? (i := 2) rfl)) e0 (g := (mkF m 64 #[.val (.long x0), .second, .val (.long x1), .second, .val (.long x2), .second, .val (.long x3), .second, .val (.long x4), .second, .val (.int x5), .val (.long v3), .second, .val (.long v6), .second, .val (.long v9), .second, .val (.long v12), .second, .unset, .unset, .unset, .unset, .unset, .unset, .unset] [])) rfl (hb hby at_64) (by decide) (by decide)
          obtain ⟨b13, g13⟩ : ∃ z, z = h0.size := ⟨_, rfl⟩
          rw [← g13] at A13 D13 st13
          have ge14 : n0 ≤ b13 := by rw [g13]; exact Z0
          have K15 := (Keep.refl h0 []).ext E13
          have Z16 := Nat.le_trans Z0 K15.1
          have F17 : Fld Z h13_ b13 "com/example/harborlog/harborlog/Bank$Check" "accounts" "J" (.long (0 : Int64)) := D13 (Or.inr (hw _ (List.mem_of_getElem? (i := 15) rfl))) (ty := .long) (by decide)
          have F18 : Fld Z h13_ b13 "com/example/harborlog/harborlog/Bank$Check" "tellers" "J" (.long (0 : Int64)) := D13 (Or.inr (hw _ (List.mem_of_getElem? (i := 17) rfl))) (ty := .long) (by decide)
          have F19 : Fld Z h13_ b13 "com/example/harborlog/harborlog/Bank$Check" "branches" "J" (.long (0 : Int64)) := D13 (Or.inr (hw _ (List.mem_of_getElem? (i := 19) rfl))) (ty := .long) (by decide)
          have F20 : Fld Z h13_ b13 "com/example/harborlog/harborlog/Bank$Check" "history" "J" (.long (0 : Int64)) := D13 (Or.inr (hw _ (List.mem_of_getElem? (i := 21) rfl))) (ty := .long) (by decide)
          have F21 : Fld Z h13_ b13 "com/example/harborlog/harborlog/Bank$Check" "rows" "J" (.long (0 : Int64)) := D13 (Or.inr (hw _ (List.mem_of_getElem? (i := 23) rfl))) (ty := .long) (by decide)
          have F22 : Fld Z h13_ b13 "com/example/harborlog/harborlog/Bank$Check" "acked" "J" (.long (0 : Int64)) := D13 (Or.inr (hw _ (List.mem_of_getElem? (i := 25) rfl))) (ty := .long) (by decide)
          have F23 : Fld Z h13_ b13 "com/example/harborlog/harborlog/Bank$Check" "missing" "J" (.long (0 : Int64)) := D13 (Or.inr (hw _ (List.mem_of_getElem? (i := 27) rfl))) (ty := .long) (by decide)
          refine oGo.step (f' := (mkF m 67 #[.val (.long x0), .second, .val (.long x1), .second, .val (.long x2), .second, .val (.long x3), .second, .val (.long x4), .second, .val (.int x5), .val (.long v3), .second, .val (.long v6), .second, .val (.long v9), .second, .val (.long v12), .second, .unset, .unset, .unset, .unset, .unset, .unset, .unset] [(.ref b13)])) st13 ?_
          refine o_dup (pc' := 68) X13 hx (hb hby at_67) rfl rfl ?_
          refine o_lloadN (pc' := 69) X13 hx (hb hby at_68) rfl rfl ?_
          refine o_lload (pc' := 71) X13 hx (hb hby at_69) rfl rfl ?_
          refine o_lload (pc' := 73) X13 hx (hb hby at_71) rfl rfl ?_
          refine o_lload (pc' := 75) X13 hx (hb hby at_73) rfl rfl ?_
          refine o_lload (pc' := 77) X13 hx (hb hby at_75) rfl rfl ?_
          refine o_lload (pc' := 79) X13 hx (hb hby at_77) rfl rfl ?_
          refine o_lload (pc' := 81) X13 hx (hb hby at_79) rfl rfl ?_
          obtain ⟨r24, T24, L24, X24, hq24, st24⟩ := o_callN X13 hx hZ hown rfl (hw _ (List.mem_of_getElem? (i := 3) rfl)) (hw _ (List.mem_of_getElem? (i := 4) rfl)) (hw _ (List.mem_of_getElem? (i := 2) rfl)) (hw _ (List.mem_of_getElem? (i := 5) rfl)) (by decide) (rm1 l Z a0 hw b13 x0 v3 v6 v9 x2 x3 v12 (0 : Int64) (0 : Int64) (0 : Int64) (0 : Int64) (0 : Int64) (0 : Int64) (0 : Int64) h13_ n0 Z16 A13 F17 F18 F19 F20 F21 F22 F23 ge14) e13 (pc' := 84) (Ls := #[.val (.long x0), .second, .val (.long x1), .second, .val (.long x2), .second, .val (.long x3), .second, .val (.long x4), .second, .val (.int x5), .val (.long v3), .second, .val (.long v6), .second, .val (.long v9), .second, .val (.long v12), .second, .unset, .unset, .unset, .unset, .unset, .unset, .unset]) (by rw [hml]; rfl) [(.long x0), (.long v3), (.long v6), (.long v9), (.long x2), (.long x3), (.long v12)] [(.ref b13)] rfl pd1 rfl rfl 1 (Nat.le_of_eq rfl) (hb hby at_81) rfl (by decide) (by decide) (by decide) (by decide)
          obtain ⟨rfl, N24, Kc24, E24_, F24_accounts, F24_tellers, F24_branches, F24_history, F24_rows, F24_acked, F24_missing⟩ := hq24
          refine oGo.step (f' := (mkF m 84 #[.val (.long x0), .second, .val (.long x1), .second, .val (.long x2), .second, .val (.long x3), .second, .val (.long x4), .second, .val (.int x5), .val (.long v3), .second, .val (.long v6), .second, .val (.long v9), .second, .val (.long v12), .second, .unset, .unset, .unset, .unset, .unset, .unset, .unset] [(.ref b13)])) st24 ?_
          have N24_ := Fr.app N0 N24
          have K25 := Kc24
          have F26 := A13.keep K25
          have Z34 := Nat.le_trans Z16 K25.1
          have X24 := o_flat X24 rfl rfl
          refine o_astore (pc' := 86) (l' := #[.val (.long x0), .second, .val (.long x1), .second, .val (.long x2), .second, .val (.long x3), .second, .val (.long x4), .second, .val (.int x5), .val (.long v3), .second, .val (.long v6), .second, .val (.long v9), .second, .val (.long v12), .second, .val (.ref b13), .unset, .unset, .unset, .unset, .unset, .unset]) X24 hx (hb hby at_84) rfl rfl rfl ?_
          refine o_aload (pc' := 88) X24 hx (hb hby at_86) rfl rfl rfl ?_
          obtain ⟨r35, T35, L35, X35, hq35, st35⟩ := o_callV X24 hx hZ hown (hw _ (List.mem_of_getElem? (i := 28) rfl)) (hw _ (List.mem_of_getElem? (i := 29) rfl)) (hw _ (List.mem_of_getElem? (i := 31) rfl)) (hw _ (List.mem_of_getElem? (i := 30) rfl)) (hw _ (List.mem_of_getElem? (i := 2) rfl)) (hw _ (List.mem_of_getElem? (i := 32) rfl)) (by decide) E24_ (rm4 l Z a0 hw b13 x0 v3 v6 v9 x2 x3 v12 T24.heap n0 Z34 E24_ F24_accounts F24_tellers F24_branches F24_history F24_rows F24_acked F24_missing) (rfl : T24.heap = _) (pc' := 91) (Ls := #[.val (.long x0), .second, .val (.long x1), .second, .val (.long x2), .second, .val (.long x3), .second, .val (.long x4), .second, .val (.int x5), .val (.long v3), .second, .val (.long v6), .second, .val (.long v9), .second, .val (.long v12), .second, .val (.ref b13), .unset, .unset, .unset, .unset, .unset, .unset]) (by rw [hml]; rfl) [] [] rfl pd2 rfl rfl 0 (Nat.le_of_eq rfl) (hb hby at_88) rfl (by decide) (by decide) (by decide) (by decide)
          obtain ⟨rfl, rfl, Kc35⟩ := hq35
          refine oGo.step (f' := (mkF m 91 #[.val (.long x0), .second, .val (.long x1), .second, .val (.long x2), .second, .val (.long x3), .second, .val (.long x4), .second, .val (.int x5), .val (.long v3), .second, .val (.long v6), .second, .val (.long v9), .second, .val (.long v12), .second, .val (.ref b13), .unset, .unset, .unset, .unset, .unset, .unset] [(.int (spec4 x0 v3 v6 v9 v12))])) st35 ?_
          have e35 : T35.heap = T24.heap := Kc35
          have X35 := o_same X35 rfl rfl
          refine o_istore (pc' := 93) (l' := #[.val (.long x0), .second, .val (.long x1), .second, .val (.long x2), .second, .val (.long x3), .second, .val (.long x4), .second, .val (.int x5), .val (.long v3), .second, .val (.long v6), .second, .val (.long v9), .second, .val (.long v12), .second, .val (.ref b13), .val (.int (spec4 x0 v3 v6 v9 v12)), .unset, .unset, .unset, .unset, .unset]) X35 hx (hb hby at_91) rfl rfl ?_
          refine o_lloadN (pc' := 94) X35 hx (hb hby at_93) rfl rfl ?_
          refine o_lload (pc' := 96) X35 hx (hb hby at_94) rfl rfl ?_
          obtain ⟨r36, T36, L36, X36, hq36, st36⟩ := o_callS X35 hx hZ hown (hw _ (List.mem_of_getElem? (i := 33) rfl)) (hw _ (List.mem_of_getElem? (i := 34) rfl)) (hw _ (List.mem_of_getElem? (i := 35) rfl)) (hw _ (List.mem_of_getElem? (i := 36) rfl)) (by decide) (rm5 l Z a0 hw x0 v3  T24.heap n0 Z34 ) e35 (pc' := 99) (Ls := #[.val (.long x0), .second, .val (.long x1), .second, .val (.long x2), .second, .val (.long x3), .second, .val (.long x4), .second, .val (.int x5), .val (.long v3), .second, .val (.long v6), .second, .val (.long v9), .second, .val (.long v12), .second, .val (.ref b13), .val (.int (spec4 x0 v3 v6 v9 v12)), .unset, .unset, .unset, .unset, .unset]) (by rw [hml]; rfl) [(.long x0), (.long v3)] [] rfl pd3 rfl rfl 0 (Nat.le_of_eq rfl) (hb hby at_96) rfl (by decide) (by decide) (by decide) (by decide)
          obtain ⟨rfl, rfl, Kc36⟩ := hq36
          refine oGo.step (f' := (mkF m 99 #[.val (.long x0), .second, .val (.long x1), .second, .val (.long x2), .second, .val (.long x3), .second, .val (.long x4), .second, .val (.int x5), .val (.long v3), .second, .val (.long v6), .second, .val (.long v9), .second, .val (.long v12), .second, .val (.ref b13), .val (.int (spec4 x0 v3 v6 v9 v12)), .unset, .unset, .unset, .unset, .unset] [(.long (spec5 x0 v3))])) st36 ?_
          have e36 : T36.heap = T24.heap := Kc36
          have X36 := o_same X36 rfl rfl
          refine o_lload (pc' := 101) X36 hx (hb hby at_99) rfl rfl ?_
          refine o_lload (pc' := 103) X36 hx (hb hby at_101) rfl rfl ?_
          obtain ⟨r37, T37, L37, X37, hq37, st37⟩ := o_callS X36 hx hZ hown (hw _ (List.mem_of_getElem? (i := 33) rfl)) (hw _ (List.mem_of_getElem? (i := 34) rfl)) (hw _ (List.mem_of_getElem? (i := 35) rfl)) (hw _ (List.mem_of_getElem? (i := 36) rfl)) (by decide) (rm5 l Z a0 hw v6 v9  T24.heap n0 Z34 ) e36 (pc' := 106) (Ls := #[.val (.long x0), .second, .val (.long x1), .second, .val (.long x2), .second, .val (.long x3), .second, .val (.long x4), .second, .val (.int x5), .val (.long v3), .second, .val (.long v6), .second, .val (.long v9), .second, .val (.long v12), .second, .val (.ref b13), .val (.int (spec4 x0 v3 v6 v9 v12)), .unset, .unset, .unset, .unset, .unset]) (by rw [hml]; rfl) [(.long v6), (.long v9)] [(.long (spec5 x0 v3))] rfl pd3 rfl rfl 2 (Nat.le_of_eq rfl) (hb hby at_103) rfl (by decide) (by decide) (by decide) (by decide)
          obtain ⟨rfl, rfl, Kc37⟩ := hq37
          refine oGo.step (f' := (mkF m 106 #[.val (.long x0), .second, .val (.long x1), .second, .val (.long x2), .second, .val (.long x3), .second, .val (.long x4), .second, .val (.int x5), .val (.long v3), .second, .val (.long v6), .second, .val (.long v9), .second, .val (.long v12), .second, .val (.ref b13), .val (.int (spec4 x0 v3 v6 v9 v12)), .unset, .unset, .unset, .unset, .unset] [(.long (spec5 v6 v9)), (.long (spec5 x0 v3))])) st37 ?_
          have e37 : T37.heap = T24.heap := Kc37
          have X37 := o_same X37 rfl rfl
          obtain ⟨r38, T38, L38, X38, hq38, st38⟩ := o_callS X37 hx hZ hown (hw _ (List.mem_of_getElem? (i := 33) rfl)) (hw _ (List.mem_of_getElem? (i := 34) rfl)) (hw _ (List.mem_of_getElem? (i := 35) rfl)) (hw _ (List.mem_of_getElem? (i := 36) rfl)) (by decide) (rm5 l Z a0 hw (spec5 x0 v3) (spec5 v6 v9)  T24.heap n0 Z34 ) e37 (pc' := 109) (Ls := #[.val (.long x0), .second, .val (.long x1), .second, .val (.long x2), .second, .val (.long x3), .second, .val (.long x4), .second, .val (.int x5), .val (.long v3), .second, .val (.long v6), .second, .val (.long v9), .second, .val (.long v12), .second, .val (.ref b13), .val (.int (spec4 x0 v3 v6 v9 v12)), .unset, .unset, .unset, .unset, .unset]) (by rw [hml]; rfl) [(.long (spec5 x0 v3)), (.long (spec5 v6 v9))] [] rfl pd3 rfl rfl 0 (Nat.le_of_eq rfl) (hb hby at_106) rfl (by decide) (by decide) (by decide) (by decide)
          obtain ⟨rfl, rfl, Kc38⟩ := hq38
          refine oGo.step (f' := (mkF m 109 #[.val (.long x0), .second, .val (.long x1), .second, .val (.long x2), .second, .val (.long x3), .second, .val (.long x4), .second, .val (.int x5), .val (.long v3), .second, .val (.long v6), .second, .val (.long v9), .second, .val (.long v12), .second, .val (.ref b13), .val (.int (spec4 x0 v3 v6 v9 v12)), .unset, .unset, .unset, .unset, .unset] [(.long (spec5 (spec5 x0 v3) (spec5 v6 v9)))])) st38 ?_
          have e38 : T38.heap = T24.heap := Kc38
          have X38 := o_same X38 rfl rfl
          refine o_lstore (pc' := 111) (l' := #[.val (.long x0), .second, .val (.long x1), .second, .val (.long x2), .second, .val (.long x3), .second, .val (.long x4), .second, .val (.int x5), .val (.long v3), .second, .val (.long v6), .second, .val (.long v9), .second, .val (.long v12), .second, .val (.ref b13), .val (.int (spec4 x0 v3 v6 v9 v12)), .val (.long (spec5 (spec5 x0 v3) (spec5 v6 v9))), .second, .unset, .unset, .unset]) X38 hx (hb hby at_109) rfl rfl ?_
          refine o_lloadN (pc' := 112) X38 hx (hb hby at_111) rfl rfl ?_
          refine o_lload (pc' := 114) X38 hx (hb hby at_112) rfl rfl ?_
          obtain ⟨r39, T39, L39, X39, hq39, st39⟩ := o_callS X38 hx hZ hown (hw _ (List.mem_of_getElem? (i := 37) rfl)) (hw _ (List.mem_of_getElem? (i := 38) rfl)) (hw _ (List.mem_of_getElem? (i := 35) rfl)) (hw _ (List.mem_of_getElem? (i := 39) rfl)) (by decide) (rm6 l Z a0 hw x0 v3  T24.heap n0 Z34 ) e38 (pc' := 117) (Ls := #[.val (.long x0), .second, .val (.long x1), .second, .val (.long x2), .second, .val (.long x3), .second, .val (.long x4), .second, .val (.int x5), .val (.long v3), .second, .val (.long v6), .second, .val (.long v9), .second, .val (.long v12), .second, .val (.ref b13), .val (.int (spec4 x0 v3 v6 v9 v12)), .val (.long (spec5 (spec5 x0 v3) (spec5 v6 v9))), .second, .unset, .unset, .unset]) (by rw [hml]; rfl) [(.long x0), (.long v3)] [] rfl pd3 rfl rfl 0 (Nat.le_of_eq rfl) (hb hby at_114) rfl (by decide) (by decide) (by decide) (by decide)
          obtain ⟨rfl, rfl, Kc39⟩ := hq39
          refine oGo.step (f' := (mkF m 117 #[.val (.long x0), .second, .val (.long x1), .second, .val (.long x2), .second, .val (.long x3), .second, .val (.long x4), .second, .val (.int x5), .val (.long v3), .second, .val (.long v6), .second, .val (.long v9), .second, .val (.long v12), .second, .val (.ref b13), .val (.int (spec4 x0 v3 v6 v9 v12)), .val (.long (spec5 (spec5 x0 v3) (spec5 v6 v9))), .second, .unset, .unset, .unset] [(.long (spec6 x0 v3))])) st39 ?_
          have e39 : T39.heap = T24.heap := Kc39
          have X39 := o_same X39 rfl rfl
          refine o_lload (pc' := 119) X39 hx (hb hby at_117) rfl rfl ?_
          refine o_lload (pc' := 121) X39 hx (hb hby at_119) rfl rfl ?_
          obtain ⟨r40, T40, L40, X40, hq40, st40⟩ := o_callS X39 hx hZ hown (hw _ (List.mem_of_getElem? (i := 37) rfl)) (hw _ (List.mem_of_getElem? (i := 38) rfl)) (hw _ (List.mem_of_getElem? (i := 35) rfl)) (hw _ (List.mem_of_getElem? (i := 39) rfl)) (by decide) (rm6 l Z a0 hw v6 v9  T24.heap n0 Z34 ) e39 (pc' := 124) (Ls := #[.val (.long x0), .second, .val (.long x1), .second, .val (.long x2), .second, .val (.long x3), .second, .val (.long x4), .second, .val (.int x5), .val (.long v3), .second, .val (.long v6), .second, .val (.long v9), .second, .val (.long v12), .second, .val (.ref b13), .val (.int (spec4 x0 v3 v6 v9 v12)), .val (.long (spec5 (spec5 x0 v3) (spec5 v6 v9))), .second, .unset, .unset, .unset]) (by rw [hml]; rfl) [(.long v6), (.long v9)] [(.long (spec6 x0 v3))] rfl pd3 rfl rfl 2 (Nat.le_of_eq rfl) (hb hby at_121) rfl (by decide) (by decide) (by decide) (by decide)
          obtain ⟨rfl, rfl, Kc40⟩ := hq40
          refine oGo.step (f' := (mkF m 124 #[.val (.long x0), .second, .val (.long x1), .second, .val (.long x2), .second, .val (.long x3), .second, .val (.long x4), .second, .val (.int x5), .val (.long v3), .second, .val (.long v6), .second, .val (.long v9), .second, .val (.long v12), .second, .val (.ref b13), .val (.int (spec4 x0 v3 v6 v9 v12)), .val (.long (spec5 (spec5 x0 v3) (spec5 v6 v9))), .second, .unset, .unset, .unset] [(.long (spec6 v6 v9)), (.long (spec6 x0 v3))])) st40 ?_
          have e40 : T40.heap = T24.heap := Kc40
          have X40 := o_same X40 rfl rfl
          obtain ⟨r41, T41, L41, X41, hq41, st41⟩ := o_callS X40 hx hZ hown (hw _ (List.mem_of_getElem? (i := 37) rfl)) (hw _ (List.mem_of_getElem? (i := 38) rfl)) (hw _ (List.mem_of_getElem? (i := 35) rfl)) (hw _ (List.mem_of_getElem? (i := 39) rfl)) (by decide) (rm6 l Z a0 hw (spec6 x0 v3) (spec6 v6 v9)  T24.heap n0 Z34 ) e40 (pc' := 127) (Ls := #[.val (.long x0), .second, .val (.long x1), .second, .val (.long x2), .second, .val (.long x3), .second, .val (.long x4), .second, .val (.int x5), .val (.long v3), .second, .val (.long v6), .second, .val (.long v9), .second, .val (.long v12), .second, .val (.ref b13), .val (.int (spec4 x0 v3 v6 v9 v12)), .val (.long (spec5 (spec5 x0 v3) (spec5 v6 v9))), .second, .unset, .unset, .unset]) (by rw [hml]; rfl) [(.long (spec6 x0 v3)), (.long (spec6 v6 v9))] [] rfl pd3 rfl rfl 0 (Nat.le_of_eq rfl) (hb hby at_124) rfl (by decide) (by decide) (by decide) (by decide)
          obtain ⟨rfl, rfl, Kc41⟩ := hq41
          refine oGo.step (f' := (mkF m 127 #[.val (.long x0), .second, .val (.long x1), .second, .val (.long x2), .second, .val (.long x3), .second, .val (.long x4), .second, .val (.int x5), .val (.long v3), .second, .val (.long v6), .second, .val (.long v9), .second, .val (.long v12), .second, .val (.ref b13), .val (.int (spec4 x0 v3 v6 v9 v12)), .val (.long (spec5 (spec5 x0 v3) (spec5 v6 v9))), .second, .unset, .unset, .unset] [(.long (spec6 (spec6 x0 v3) (spec6 v6 v9)))])) st41 ?_
          have e41 : T41.heap = T24.heap := Kc41
          have X41 := o_same X41 rfl rfl
          refine o_lstore (pc' := 129) (l' := #[.val (.long x0), .second, .val (.long x1), .second, .val (.long x2), .second, .val (.long x3), .second, .val (.long x4), .second, .val (.int x5), .val (.long v3), .second, .val (.long v6), .second, .val (.long v9), .second, .val (.long v12), .second, .val (.ref b13), .val (.int (spec4 x0 v3 v6 v9 v12)), .val (.long (spec5 (spec5 x0 v3) (spec5 v6 v9))), .second, .val (.long (spec6 (spec6 x0 v3) (spec6 v6 v9))), .second, .unset]) X41 hx (hb hby at_127) rfl rfl ?_
          refine o_lload (pc' := 131) X41 hx (hb hby at_129) rfl rfl ?_
          refine o_lload (pc' := 133) X41 hx (hb hby at_131) rfl rfl ?_
          refine o_lcmp (pc' := 134) X41 hx (hb hby at_133)  rfl ?_
          have J43 : ∀ (v45 : Int32), v45 = (if (spec5 (spec5 x0 v3) (spec5 v6 v9)) = (spec6 (spec6 x0 v3) (spec6 v6 v9)) then (if v12 = (0 : Int64) then (1 : Int32) else (0 : Int32)) else (0 : Int32)) → oGo p e below (oG s (fun v h L => v = some (.int 1) ∧ Fr n0 L) room_1.cells room_1.slots) T41 (mkF m 149 #[.val (.long x0), .second, .val (.long x1), .second, .val (.long x2), .second, .val (.long x3), .second, .val (.long x4), .second, .val (.int x5), .val (.long v3), .second, .val (.long v6), .second, .val (.long v9), .second, .val (.long v12), .second, .val (.ref b13), .val (.int (spec4 x0 v3 v6 v9 v12)), .val (.long (spec5 (spec5 x0 v3) (spec5 v6 v9))), .second, .val (.long (spec6 (spec6 x0 v3) (spec6 v6 v9))), .second, .unset] [(.int v45)]) := by
            intro v45 hv45
            refine o_istore (pc' := 151) (l' := #[.val (.long x0), .second, .val (.long x1), .second, .val (.long x2), .second, .val (.long x3), .second, .val (.long x4), .second, .val (.int x5), .val (.long v3), .second, .val (.long v6), .second, .val (.long v9), .second, .val (.long v12), .second, .val (.ref b13), .val (.int (spec4 x0 v3 v6 v9 v12)), .val (.long (spec5 (spec5 x0 v3) (spec5 v6 v9))), .second, .val (.long (spec6 (spec6 x0 v3) (spec6 v6 v9))), .second, .val (.int v45)]) X41 hx (hb hby at_149) rfl rfl ?_
            refine o_iload (pc' := 153) X41 hx (hb hby at_151) rfl rfl ?_
            refine o_iload (pc' := 155) X41 hx (hb hby at_153) rfl rfl ?_
            have J47 : ∀ (v48 : Int32), v48 = (if (spec4 x0 v3 v6 v9 v12) = v45 then (1 : Int32) else (0 : Int32)) → oGo p e below (oG s (fun v h L => v = some (.int 1) ∧ Fr n0 L) room_1.cells room_1.slots) T41 (mkF m 163 #[.val (.long x0), .second, .val (.long x1), .second, .val (.long x2), .second, .val (.long x3), .second, .val (.long x4), .second, .val (.int x5), .val (.long v3), .second, .val (.long v6), .second, .val (.long v9), .second, .val (.long v12), .second, .val (.ref b13), .val (.int (spec4 x0 v3 v6 v9 v12)), .val (.long (spec5 (spec5 x0 v3) (spec5 v6 v9))), .second, .val (.long (spec6 (spec6 x0 v3) (spec6 v6 v9))), .second, .val (.int v45)] [(.int v48)]) := by
              intro v48 hv48
              refine o_retZ X41 hx hret hlk (hb hby at_163) (by rw [hv48]; (repeat' split) <;> (first | rfl | assumption)) (by decide) (by decide) ?_
              subst hv48 hv45 hv12 hv9 hv6 hv3
              exact ⟨congrArg (fun z => some (Value.int z)) ((show _ = spec0 x0 x1 x2 x3 x4 x5 from (rfl).symm).trans (own_law x0 x1 x2 x3 x4 x5 )), N24_⟩
            by_cases c46 : (spec4 x0 v3 v6 v9 v12) = v45
            · refine o_icmpF (pc' := 158) X41 hx (hb hby at_155) (XT.ii_ne_f c46) rfl ?_
              refine o_iconst (pc' := 159) (v := (1 : Int32)) X41 hx (hb hby at_158) rfl rfl ?_
              refine o_goto (pc' := 163) X41 hx (hb hby at_159) (by decide) (by decide) ?_
              exact J47 _ (if_pos c46).symm
            · refine o_icmpT (pc' := 162) X41 hx (hb hby at_155) (XT.ii_ne_t c46) (by decide) (by decide) ?_
              refine o_iconst (pc' := 163) (v := (0 : Int32)) X41 hx (hb hby at_162) rfl rfl ?_
              exact J47 _ (if_neg c46).symm
          by_cases c42 : (spec5 (spec5 x0 v3) (spec5 v6 v9)) = (spec6 (spec6 x0 v3) (spec6 v6 v9))
          · refine o_ifF (pc' := 137) X41 hx (hb hby at_134) (XT.ll_ne_f c42) rfl ?_
            refine o_lload (pc' := 139) X41 hx (hb hby at_137) rfl rfl ?_
            refine o_lconst (pc' := 140) (v := (0 : Int64)) X41 hx (hb hby at_139) rfl rfl ?_
            refine o_lcmp (pc' := 141) X41 hx (hb hby at_140)  rfl ?_
            by_cases c44 : v12 = (0 : Int64)
            · refine o_ifF (pc' := 144) X41 hx (hb hby at_141) (XT.ll_ne_f c44) rfl ?_
              refine o_iconst (pc' := 145) (v := (1 : Int32)) X41 hx (hb hby at_144) rfl rfl ?_
              refine o_goto (pc' := 149) X41 hx (hb hby at_145) (by decide) (by decide) ?_
              exact J43 _ ((if_pos c42).trans (if_pos c44)).symm
            · refine o_ifT (pc' := 148) X41 hx (hb hby at_141) (XT.ll_ne_t c44) (by decide) (by decide) ?_
              refine o_iconst (pc' := 149) (v := (0 : Int32)) X41 hx (hb hby at_148) rfl rfl ?_
              exact J43 _ ((if_pos c42).trans (if_neg c44)).symm
          · refine o_ifT (pc' := 148) X41 hx (hb hby at_134) (XT.ll_ne_t c42) (by decide) (by decide) ?_
            refine o_iconst (pc' := 149) (v := (0 : Int32)) X41 hx (hb hby at_148) rfl rfl ?_
            exact J43 _ (if_neg c42).symm
        by_cases c10 : (x5 &&& (8 : Int32)) = 0
        · refine o_ifT (pc' := 60) X0 hx (hb hby at_53) (XT.i0_eq_t c10) (by decide) (by decide) ?_
          refine o_lload (pc' := 62) X0 hx (hb hby at_60) rfl rfl ?_
          exact J11 _ (if_pos c10).symm
        · refine o_ifF (pc' := 56) X0 hx (hb hby at_53) (XT.i0_eq_f c10) rfl ?_
          refine o_lconst (pc' := 57) (v := (0 : Int64)) X0 hx (hb hby at_56) rfl rfl ?_
          refine o_goto (pc' := 62) X0 hx (hb hby at_57) (by decide) (by decide) ?_
          exact J11 _ (if_neg c10).symm
      by_cases c7 : (x5 &&& (4 : Int32)) = 0
      · refine o_ifT (pc' := 45) X0 hx (hb hby at_36) (XT.i0_eq_t c7) (by decide) (by decide) ?_
        refine o_lloadN (pc' := 46) X0 hx (hb hby at_45) rfl rfl ?_
        exact J8 _ (if_pos c7).symm
      · refine o_ifF (pc' := 39) X0 hx (hb hby at_36) (XT.i0_eq_f c7) rfl ?_
        refine o_lloadN (pc' := 40) X0 hx (hb hby at_39) rfl rfl ?_
        refine o_lloadN (pc' := 41) X0 hx (hb hby at_40) rfl rfl ?_
        refine o_ladd (pc' := 42) X0 hx (hb hby at_41)  rfl ?_
        refine o_goto (pc' := 46) X0 hx (hb hby at_42) (by decide) (by decide) ?_
        exact J8 _ (if_neg c7).symm
    by_cases c4 : (x5 &&& (2 : Int32)) = 0
    · refine o_ifT (pc' := 29) X0 hx (hb hby at_20) (XT.i0_eq_t c4) (by decide) (by decide) ?_
      refine o_lloadN (pc' := 30) X0 hx (hb hby at_29) rfl rfl ?_
      exact J5 _ (if_pos c4).symm
    · refine o_ifF (pc' := 23) X0 hx (hb hby at_20) (XT.i0_eq_f c4) rfl ?_
      refine o_lloadN (pc' := 24) X0 hx (hb hby at_23) rfl rfl ?_
      refine o_lloadN (pc' := 25) X0 hx (hb hby at_24) rfl rfl ?_
      refine o_ladd (pc' := 26) X0 hx (hb hby at_25)  rfl ?_
      refine o_goto (pc' := 30) X0 hx (hb hby at_26) (by decide) (by decide) ?_
      exact J5 _ (if_neg c4).symm
  by_cases c1 : (x5 &&& (1 : Int32)) = 0
  · refine o_ifT (pc' := 13) X0 hx (hb hby at_4) (XT.i0_eq_t c1) (by decide) (by decide) ?_
    refine o_lloadN (pc' := 14) X0 hx (hb hby at_13) rfl rfl ?_
    exact J2 _ (if_pos c1).symm
  · refine o_ifF (pc' := 7) X0 hx (hb hby at_4) (XT.i0_eq_f c1) rfl ?_
    refine o_lloadN (pc' := 8) X0 hx (hb hby at_7) rfl rfl ?_
    refine o_lloadN (pc' := 9) X0 hx (hb hby at_8) rfl rfl ?_
    refine o_ladd (pc' := 10) X0 hx (hb hby at_9)  rfl ?_
    refine o_goto (pc' := 14) X0 hx (hb hby at_10) (by decide) (by decide) ?_
    exact J2 _ (if_neg c1).symm
set_option maxRecDepth 65536 in
set_option maxHeartbeats 40000000 in
theorem comes_1 {Post : Tables → Env → Array Value → State → Outcome → State → Prop} (hpost : ∀ tb e args s v u, (limb_1_1.after args s (.returned v) u = true ∧ limb_1_2.after args s (.returned v) u = true ∧ True) → FrameEnd s (.returned v) u (Jvm.fieldLocs frame_1_writes args s ++ Jvm.arrayLocs frame_1_arrays args s ++ Jvm.staticLocs frame_1_statics s) 16 128 → Post tb e args s (.returned v) u) :
    ArmFor flags0 classFile x code maxLocals ret World_1 tables_1 room_1 Calls_1 rest_1 Pre_1 Post := by
  intro l hfl _ _ p e ha hc hk s m args below hf hA hF happ hP
  obtain ⟨hcalls, hrest, hpre⟩ := hP
  obtain ⟨-, -, -, hnamed, -, -, -, hat⟩ := (Spec.applies_iff hf).mp happ
  obtain ⟨hg, hn⟩ := and_e (Cond.before_iff.mp (show (Jvm.Cond.and given_1 narrow_1).before args s = true from hpre))
  obtain ⟨hcount, q0⟩ := and_e hg
  obtain ⟨a0, q1⟩ := and_e q0
  obtain ⟨a1, q2⟩ := and_e q1
  obtain ⟨a2, q3⟩ := and_e q2
  obtain ⟨a3, q4⟩ := and_e q3
  obtain ⟨a4, q5⟩ := and_e q4
  obtain ⟨w0, w1, w2, w3, w4, w5, rfl⟩ : ∃ w0 w1 w2 w3 w4 w5 : Value, args = #[w0, w1, w2, w3, w4, w5] := by
    have hs : args.size = 6 := by simpa [Cond.value, given_1] using hcount
    obtain ⟨L⟩ := args
    match L, hs with
    | [w0, w1, w2, w3, w4, w5], _ => exact ⟨w0, w1, w2, w3, w4, w5, rfl⟩
  have hw := fun d (hd : d ∈ tables_1) => atoms_spec (ws := Jvm.Cond.code x code maxLocals ret :: tables_1) hat d (List.mem_cons_of_mem _ hd)
  have hfit : Fit s := fun {y c} hc i hi => by
    obtain ⟨ha, rfl⟩ := Array.getElem?_eq_some_iff.mp hc
    have q := List.all_eq_true.mp ((Array.all_eq_true_iff_forall_mem.mp hF) _ (Array.getElem_mem ha)) i (List.mem_range.mpr hi)
    simpa [Array.getElem?_eq_getElem hi] using q
  obtain ⟨x0, e0⟩ := isL_v a0
  obtain rfl : w0 = (.long x0) := Option.some.inj e0
  obtain ⟨x1, e1⟩ := isL_v a1
  obtain rfl : w1 = (.long x1) := Option.some.inj e1
  obtain ⟨x2, e2⟩ := isL_v a2
  obtain rfl : w2 = (.long x2) := Option.some.inj e2
  obtain ⟨x3, e3⟩ := isL_v a3
  obtain rfl : w3 = (.long x3) := Option.some.inj e3
  obtain ⟨x4, e4⟩ := isL_v a4
  obtain rfl : w4 = (.long x4) := Option.some.inj e4
  obtain ⟨x5, e5⟩ := is_v q5
  obtain rfl : w5 = (.int x5) := Option.some.inj e5
  obtain ⟨n, o, h1, h2, h3, _, L, rfl, ⟨rfl, N⟩, hq⟩ := rm0 l s _ hw x0 x1 x2 x3 x4 x5  s.heap s.heap.size (Nat.le_refl _)  tables_1 p e ha hc hk s m _ below hf ((Spec.applies_iff_loose hf).mp happ).1 ⟨rfl, State.Warmed39.refl s, rfl⟩ trivial
  refine ⟨n, _, h1, h2, h3, hpost _ _ _ _ _ _ ⟨Cond.after_iff.mpr rfl, Cond.after_iff.mpr (eq_i res_at (Term.int_eval (1)) rfl), trivial⟩ ⟨hq.1, hq.2.1, (hq.2.2.sift fun y hy => Or.inr (N y hy)).mono (by decide) (by decide)⟩⟩
theorem main_1_1 : Claimed_1_1 := comes_1 fun _ _ _ _ _ _ h hF => ⟨h.1, hF⟩
theorem main_1_2 : Claimed_1_2 := comes_1 fun _ _ _ _ _ _ h hF => ⟨h.2.1, hF⟩
end Jvm.Pilot.@@N@@
namespace Jvm.Pilot.@@N@@
open Jvm Jvm.ClassFile Sem Op Lib Jvm.Free Jvm.Stand Jvm.Pilot.@@N@@.Jvm.D
/-! MADE BY PROGRAM (witnessworld.py) out of the Statement's table words and the real class files: 11 classes; the members and pool entries that the words name. The judged class is class 1, her method 1. -/
namespace start1
open Jvm.ClassFile
def u (s : String) : CpInfo := .utf8 (stringToUtf16 s)
/-- a pool by its gaps: so many unusable entries, then the entry; so many at the end -/
def gap : Nat → List CpInfo → List CpInfo
  | 0, r => r
  | n + 1, r => .unusable :: gap n r
def poolList (es : List (Nat × CpInfo)) (last : Nat) : List CpInfo := es.foldr (fun e r => gap e.1 (e.2 :: r)) (gap last [])
def pool (es : List (Nat × CpInfo)) (last : Nat) : Array CpInfo := ⟨poolList es last⟩
def fileOf (pool : Array CpInfo) (this : Nat) (attrs : Array Attribute := #[]) (ms : Array MethodInfo := #[]) (fl : Nat := 33) (sup : Nat := 0) (ifs : Array Nat := #[]) (fds : Array FieldInfo := #[]) : ClassFile where
  minorVersion := 0
  majorVersion := 65
  constantPool := pool
  accessFlags := fl
  thisClass := this
  superClass := sup
  interfaces := ifs
  fields := fds
  methods := ms
  attributes := attrs
def plain (name : String) (sup : Option ClassId) : Class where
  name := name
  kind := .ordinary
  loader := none
  accessFlags := 33
  super := sup
  interfaces := #[]
  cf := none
  fields := #[]
  methods := #[]
  instanceTypes := #[]
  staticTypes := #[]
  resolved := #[]
  callSites := []
  init := .initialized
  statics := none
  mirror := none

def pool0 : Array CpInfo := pool [(5, u "<init>"), (0, u "()V"), (1, .class_ 10), (1, u "java/lang/Object")] 113

def k0c0 : Code := { maxStack := 0, maxLocals := 1, code := object_method_1_code, exceptionTable := #[], attributes := #[] }
def k0m0 : Method := { name := "<init>", desc := "()V", sig := { parameters := [], returnType := none }, accessFlags := 1, code := some k0c0 }
/-- java/lang/Object -/
def k0 : Class := { plain "java/lang/Object" none with
  accessFlags := 33
  interfaces := #[]
  cf := some (fileOf pool0 8 #[] #[{ accessFlags := 1, nameIndex := 5, descriptorIndex := 6, attributes := #[] }] 33 0 #[] #[])
  fields := #[]
  methods := #[k0m0]
  instanceTypes := #[]
  staticTypes := #[]
  resolved := Array.replicate 124 none
  statics := none }

def pool1 : Array CpInfo := pool [(2, .class_ 4), (1, u "java/lang/Object"), (0, u "<init>"), (0, u "()V"), (0, .class_ 8), (0, u "com/example/harborlog/harborlog/Bank$Check"), (0, .methodref 7 10), (0, .nameAndType 5 11), (0, u "(JJJJJJJ)V"), (0, .methodref 7 13), (0, .nameAndType 14 15), (0, u "consistent"), (0, u "()Z"), (0, .methodref 17 18), (0, .class_ 19), (0, .nameAndType 20 21), (0, u "java/lang/Math"), (0, u "min"), (0, u "(JJ)J"), (0, .methodref 17 23), (0, .nameAndType 24 21), (0, u "max"), (0, .class_ 26), (0, u "com/example/harborlog/harborlog/CheckConsistentPinLaw"), (2, u "law"), (0, u "(JJJJJI)Z")] 7

def k1m0 : Method := { name := "<init>", desc := "()V", sig := { parameters := [], returnType := none }, accessFlags := 2, code := none }
def k1c1 : Code := { maxStack := 16, maxLocals := 26, code := code, exceptionTable := #[], attributes := #[] }
def k1m1 : Method := { name := "law", desc := "(JJJJJI)Z", sig := { parameters := [.long, .long, .long, .long, .long, .int], returnType := some .boolean }, accessFlags := 9, code := some k1c1 }
/-- com/example/harborlog/harborlog/CheckConsistentPinLaw -/
def k1 : Class := { plain "com/example/harborlog/harborlog/CheckConsistentPinLaw" (some 0) with
  accessFlags := 49
  interfaces := #[]
  cf := some (fileOf pool1 25 #[] #[{ accessFlags := 2, nameIndex := 5, descriptorIndex := 6, attributes := #[] }, { accessFlags := 9, nameIndex := 29, descriptorIndex := 30, attributes := #[] }] 49 2 #[] #[])
  fields := #[]
  methods := #[k1m0, k1m1]
  instanceTypes := #[]
  staticTypes := #[]
  resolved := Array.replicate 38 none
  statics := none }

def pool2 : Array CpInfo := pool [(1, .methodref 2 3), (0, .class_ 4), (0, .nameAndType 5 6), (0, u "java/lang/Object"), (0, u "<init>"), (0, u "()V"), (0, .class_ 8), (0, u "java/lang/Record")] 13

def k2c0 : Code := { maxStack := 1, maxLocals := 1, code := jdk_30_method_1_code, exceptionTable := #[], attributes := #[] }
def k2m0 : Method := { name := "<init>", desc := "()V", sig := { parameters := [], returnType := none }, accessFlags := 4, code := some k2c0 }
/-- java/lang/Record -/
def k2 : Class := { plain "java/lang/Record" (some 0) with
  accessFlags := 1057
  interfaces := #[]
  cf := some (fileOf pool2 7 #[] #[{ accessFlags := 4, nameIndex := 5, descriptorIndex := 6, attributes := #[] }] 1057 2 #[] #[])
  fields := #[]
  methods := #[k2m0]
  instanceTypes := #[]
  staticTypes := #[]
  resolved := Array.replicate 22 none
  statics := none }

def pool3 : Array CpInfo := pool [(1, .methodref 2 3), (0, .class_ 4), (0, .nameAndType 5 6), (0, u "java/lang/Record"), (0, u "<init>"), (0, u "()V"), (0, .fieldref 8 9), (0, .class_ 10), (0, .nameAndType 11 12), (0, u "com/example/harborlog/harborlog/Bank$Check"), (0, u "accounts"), (0, u "J"), (0, .fieldref 8 14), (0, .nameAndType 15 12), (0, u "tellers"), (0, .fieldref 8 17), (0, .nameAndType 18 12), (0, u "branches"), (0, .fieldref 8 20), (0, .nameAndType 21 12), (0, u "history"), (0, .fieldref 8 23), (0, .nameAndType 24 12), (0, u "rows"), (0, .fieldref 8 26), (0, .nameAndType 27 12), (0, u "acked"), (0, .fieldref 8 29), (0, .nameAndType 30 12), (0, u "missing"), (12, u "(JJJJJJJ)V"), (3, u "consistent"), (0, u "()Z"), (8, .class_ 58), (0, u "com/example/harborlog/harborlog/Bank")] 25

def k3c0 : Code := { maxStack := 3, maxLocals := 15, code := prog_10_method_1_code, exceptionTable := #[], attributes := #[] }
def k3m0 : Method := { name := "<init>", desc := "(JJJJJJJ)V", sig := { parameters := [.long, .long, .long, .long, .long, .long, .long], returnType := none }, accessFlags := 0, code := some k3c0 }
def k3c1 : Code := { maxStack := 4, maxLocals := 1, code := prog_10_method_2_code, exceptionTable := #[], attributes := #[] }
def k3m1 : Method := { name := "consistent", desc := "()Z", sig := { parameters := [], returnType := some .boolean }, accessFlags := 0, code := some k3c1 }
/-- com/example/harborlog/harborlog/Bank$Check -/
def k3 : Class := { plain "com/example/harborlog/harborlog/Bank$Check" (some 2) with
  accessFlags := 48
  interfaces := #[]
  cf := some (fileOf pool3 8 #[.nestHost 57] #[{ accessFlags := 0, nameIndex := 5, descriptorIndex := 43, attributes := #[] }, { accessFlags := 0, nameIndex := 47, descriptorIndex := 48, attributes := #[] }] 48 2 #[] #[{ accessFlags := 18, nameIndex := 11, descriptorIndex := 12, attributes := #[] }, { accessFlags := 18, nameIndex := 15, descriptorIndex := 12, attributes := #[] }, { accessFlags := 18, nameIndex := 18, descriptorIndex := 12, attributes := #[] }, { accessFlags := 18, nameIndex := 21, descriptorIndex := 12, attributes := #[] }, { accessFlags := 18, nameIndex := 24, descriptorIndex := 12, attributes := #[] }, { accessFlags := 18, nameIndex := 27, descriptorIndex := 12, attributes := #[] }, { accessFlags := 18, nameIndex := 30, descriptorIndex := 12, attributes := #[] }])
  fields := #[{ name := "accounts", type := .long, accessFlags := 18, slot := 0, constantValue := 0 }, { name := "tellers", type := .long, accessFlags := 18, slot := 1, constantValue := 0 }, { name := "branches", type := .long, accessFlags := 18, slot := 2, constantValue := 0 }, { name := "history", type := .long, accessFlags := 18, slot := 3, constantValue := 0 }, { name := "rows", type := .long, accessFlags := 18, slot := 4, constantValue := 0 }, { name := "acked", type := .long, accessFlags := 18, slot := 5, constantValue := 0 }, { name := "missing", type := .long, accessFlags := 18, slot := 6, constantValue := 0 }]
  methods := #[k3m0, k3m1]
  instanceTypes := #[.long, .long, .long, .long, .long, .long, .long]
  staticTypes := #[]
  resolved := Array.replicate 84 none
  statics := none }

def pool4 : Array CpInfo := pool [(1, .class_ 2), (0, u "java/lang/Math"), (1, .class_ 6), (1, u "java/lang/Object"), (0, u "<init>"), (0, u "()V"), (89, .class_ 100), (1, u "java/lang/Math$RandomNumberGeneratorHolder"), (20, u "(JJ)J"), (50, u "negativeZeroFloatBits"), (0, u "J"), (2, u "negativeZeroDoubleBits"), (21, u "max"), (2, u "min"), (43, u "$assertionsDisabled"), (0, u "Z"), (91, u "twoToTheDoubleScaleDown"), (0, u "D"), (4, u "twoToTheDoubleScaleUp"), (9, u "E"), (3, u "PI"), (2, u "TAU"), (2, u "DEGREES_TO_RADIANS"), (0, u "RADIANS_TO_DEGREES")] 94

def k4m0 : Method := { name := "<init>", desc := "()V", sig := { parameters := [], returnType := none }, accessFlags := 2, code := none }
def k4c1 : Code := { maxStack := 4, maxLocals := 4, code := jdk_29_method_66_code, exceptionTable := #[], attributes := #[] }
def k4m1 : Method := { name := "max", desc := "(JJ)J", sig := { parameters := [.long, .long], returnType := some .long }, accessFlags := 9, code := some k4c1 }
def k4c2 : Code := { maxStack := 4, maxLocals := 4, code := jdk_29_method_70_code, exceptionTable := #[], attributes := #[] }
def k4m2 : Method := { name := "min", desc := "(JJ)J", sig := { parameters := [.long, .long], returnType := some .long }, accessFlags := 9, code := some k4c2 }
/-- java/lang/Math -/
def k4 : Class := { plain "java/lang/Math" (some 0) with
  accessFlags := 49
  interfaces := #[]
  cf := some (fileOf pool4 1 #[.nestMembers #[98]] #[{ accessFlags := 2, nameIndex := 7, descriptorIndex := 8, attributes := #[] }, { accessFlags := 9, nameIndex := 198, descriptorIndex := 121, attributes := #[] }, { accessFlags := 9, nameIndex := 201, descriptorIndex := 121, attributes := #[] }] 49 4 #[] #[{ accessFlags := 25, nameIndex := 354, descriptorIndex := 339, attributes := #[] }, { accessFlags := 25, nameIndex := 358, descriptorIndex := 339, attributes := #[] }, { accessFlags := 25, nameIndex := 361, descriptorIndex := 339, attributes := #[] }, { accessFlags := 26, nameIndex := 364, descriptorIndex := 339, attributes := #[] }, { accessFlags := 26, nameIndex := 365, descriptorIndex := 339, attributes := #[] }, { accessFlags := 26, nameIndex := 172, descriptorIndex := 173, attributes := #[] }, { accessFlags := 26, nameIndex := 176, descriptorIndex := 173, attributes := #[] }, { accessFlags := 8, nameIndex := 344, descriptorIndex := 339, attributes := #[] }, { accessFlags := 8, nameIndex := 338, descriptorIndex := 339, attributes := #[] }, { accessFlags := 4120, nameIndex := 245, descriptorIndex := 246, attributes := #[] }])
  fields := #[{ name := "E", type := .double, accessFlags := 25, slot := 0, constantValue := 0 }, { name := "PI", type := .double, accessFlags := 25, slot := 1, constantValue := 0 }, { name := "TAU", type := .double, accessFlags := 25, slot := 2, constantValue := 0 }, { name := "DEGREES_TO_RADIANS", type := .double, accessFlags := 26, slot := 3, constantValue := 0 }, { name := "RADIANS_TO_DEGREES", type := .double, accessFlags := 26, slot := 4, constantValue := 0 }, { name := "negativeZeroFloatBits", type := .long, accessFlags := 26, slot := 5, constantValue := 0 }, { name := "negativeZeroDoubleBits", type := .long, accessFlags := 26, slot := 6, constantValue := 0 }, { name := "twoToTheDoubleScaleUp", type := .double, accessFlags := 8, slot := 7, constantValue := 0 }, { name := "twoToTheDoubleScaleDown", type := .double, accessFlags := 8, slot := 8, constantValue := 0 }, { name := "$assertionsDisabled", type := .boolean, accessFlags := 4120, slot := 9, constantValue := 0 }]
  methods := #[k4m0, k4m1, k4m2]
  instanceTypes := #[]
  staticTypes := #[.double, .double, .double, .double, .double, .long, .long, .double, .double, .boolean]
  resolved := Array.replicate 460 none
  statics := none }

def pool5 : Array CpInfo := pool [(1, u "java/lang/Cloneable"), (0, .class_ 1), (0, u "java/lang/Object"), (0, .class_ 3)] 3

/-- java/lang/Cloneable -/
def k5 : Class := { plain "java/lang/Cloneable" (some 0) with
  accessFlags := 1537
  interfaces := #[]
  cf := some (fileOf pool5 2 #[] #[] 1537 4 #[] #[])
  fields := #[]
  methods := #[]
  instanceTypes := #[]
  staticTypes := #[]
  resolved := Array.replicate 8 none
  statics := none }

def pool6 : Array CpInfo := pool [(1, u "java/io/Serializable"), (0, .class_ 1), (0, u "java/lang/Object"), (0, .class_ 3)] 3

/-- java/io/Serializable -/
def k6 : Class := { plain "java/io/Serializable" (some 0) with
  accessFlags := 1537
  interfaces := #[]
  cf := some (fileOf pool6 2 #[] #[] 1537 4 #[] #[])
  fields := #[]
  methods := #[]
  instanceTypes := #[]
  staticTypes := #[]
  resolved := Array.replicate 8 none
  statics := none }

/-- the primitive byte -/
def k7 : Class := { plain "byte" none with kind := .primitive 'B', accessFlags := 0x411 }
/-- [B -/
def k8 : Class := { plain "[B" (some 0) with kind := .array 7 .byte, interfaces := #[5, 6], accessFlags := 1041 }

/-- the primitive int -/
def k9 : Class := { plain "int" none with kind := .primitive 'I', accessFlags := 0x411 }
/-- [I -/
def k10 : Class := { plain "[I" (some 0) with kind := .array 9 .int, interfaces := #[5, 6], accessFlags := 1041 }

def heap : Heap := #[]
def classes : Array Class := #[k0, k1, k2, k3, k4, k5, k6, k7, k8, k9, k10]
def interned : List (Array UInt16 × Addr) := []
def slotsUsed : Nat := 0
def theMethod : MethodId := ⟨1, 1⟩
def args0 : Array Value := #[.long 5, .long 5, .long 5, .long 5, .long 5, .int 5]
def aboutOver (below : List Frame) : State where
  vm := { classes := classes, interned := interned.toArray }
  heap := heap
  slotsUsed := slotsUsed
  threads := #[{ frames := .invoking theMethod args0 :: below }]
def below0 : List Frame := [.native { method := ⟨0, 0⟩, args := #[] }]
def about1 : State := aboutOver below0
def p0 : Program := .bare "" "" ""
def e0 : Env := launch0.env 0 0 0
theorem w_frames : about1.frames = Frame.invoking theMethod args0 :: below0 := rfl
set_option maxRecDepth 65536 in
theorem w_args : argsFit about1.vm theMethod args0 = true := by decide +kernel
set_option maxRecDepth 65536 in
theorem w_heap : heapFits about1 = true := by decide +kernel
set_option maxRecDepth 65536 in
theorem w_runnable : about1.curStatus? = some .runnable := by decide +kernel
set_option maxRecDepth 65536 in
theorem w_alone : about1.alone = true := by decide +kernel
set_option maxRecDepth 65536 in
theorem w_named : about1.methodNamed? x = some theMethod := by decide +kernel
set_option maxRecDepth 65536 in
theorem w_hears : about1.hears theMethod below0 = true := by decide +kernel
set_option maxRecDepth 65536 in
theorem w_ripe : about1.ripe theMethod args0 below0 = true := by decide +kernel
theorem w_running : about1.status = .running := rfl
set_option maxRecDepth 65536 in
theorem w_room : about1.hasRoom e0.platform room_1 = true :=
  launch0.hasRoom_least _ room_1 (by decide +kernel) (by decide +kernel) (by decide +kernel) (by decide +kernel) (by decide +kernel) (by decide +kernel)
theorem allAtoms_all (ts : List Jvm.Cond) (a : Array Jvm.Value) (st : Jvm.State) : (allAtoms ts).before a st = ts.all (fun c => c.before a st) := by
  induction ts with
  | nil => rfl
  | cons c t ih =>
    show (Jvm.Cond.and c (allAtoms t)).before a st = _
    rw [Jvm.Cond.before_and, ih, List.all_cons]
def words1 : List Jvm.Cond := Jvm.Cond.code x code maxLocals ret :: tables_1
/-- a 'code' word, met by the world's own term for the bytes: nothing is compared byte by byte -/
theorem code_word {y : MethodName} {bytes : ByteArray} {mx : Nat} {rt : Option FieldType} {a : Array Value} {s : State} {m : MethodId} {meth : Method} {c : Code} (h1 : s.methodNamed? y = some m) (h2 : s.vm.method? m = some meth) (h3 : meth.code = some c) (h4 : c.code = bytes)
    (h5 : (c.maxLocals == mx && c.exceptionTable.isEmpty && decide (c.maxStack ≤ mostOperands) && decide (meth.sig.returnType = rt) && !meth.locks && decide (parseMethodDescriptor y.desc = some meth.sig)) = true) : (Jvm.Cond.code y bytes mx rt).before a s = true := by
  simp only [Bool.and_eq_true, beq_iff_eq, Bool.not_eq_true', decide_eq_true_eq] at h5
  obtain ⟨⟨⟨⟨⟨g1, g2⟩, g3⟩, g4⟩, g5⟩, g6⟩ := h5
  simp [Cond.before, Cond.holds, Cond.value, h1, h2, h3, h4, g1, g2, g3, g4, g5, g6]
def isCode : Jvm.Cond → Bool
  | .code _ _ _ _ => true
  | _ => false
theorem all_split {L : List Jvm.Cond} {P : Jvm.Cond → Bool} (h1 : L.all (fun c => isCode c || P c) = true) (h2 : ∀ c ∈ L.filter isCode, P c = true) : L.all P = true := by
  refine List.all_eq_true.mpr fun c hc => ?_
  have h := List.all_eq_true.mp h1 c hc
  rcases Bool.eq_false_or_eq_true (isCode c) with hi | hi
  · exact h2 c (List.mem_filter.mpr ⟨hc, hi⟩)
  · simpa [hi] using h
set_option maxRecDepth 65536 in
theorem w_c0 : (Jvm.Cond.code x code maxLocals ret).before args0 about1 = true := code_word (m := ⟨1, 1⟩) (meth := k1m1) (c := k1c1) (by decide +kernel) rfl rfl rfl (by decide +kernel)
set_option maxRecDepth 65536 in
theorem w_c1 : (Jvm.Cond.code ({ cls := "com/example/harborlog/harborlog/Bank$Check", name := "<init>", desc := "(JJJJJJJ)V" } : Jvm.MethodName) prog_10_method_1_code (15 : Nat) (Option.none : Option Jvm.ClassFile.FieldType)).before args0 about1 = true := code_word (m := ⟨3, 0⟩) (meth := k3m0) (c := k3c0) (by decide +kernel) rfl rfl rfl (by decide +kernel)
set_option maxRecDepth 65536 in
theorem w_c2 : (Jvm.Cond.code ({ cls := "java/lang/Record", name := "<init>", desc := "()V" } : Jvm.MethodName) jdk_30_method_1_code (1 : Nat) (Option.none : Option Jvm.ClassFile.FieldType)).before args0 about1 = true := code_word (m := ⟨2, 0⟩) (meth := k2m0) (c := k2c0) (by decide +kernel) rfl rfl rfl (by decide +kernel)
set_option maxRecDepth 65536 in
theorem w_c3 : (Jvm.Cond.code ({ cls := "java/lang/Object", name := "<init>", desc := "()V" } : Jvm.MethodName) object_method_1_code (1 : Nat) (Option.none : Option Jvm.ClassFile.FieldType)).before args0 about1 = true := code_word (m := ⟨0, 0⟩) (meth := k0m0) (c := k0c0) (by decide +kernel) rfl rfl rfl (by decide +kernel)
set_option maxRecDepth 65536 in
theorem w_c4 : (Jvm.Cond.code ({ cls := "com/example/harborlog/harborlog/Bank$Check", name := "consistent", desc := "()Z" } : Jvm.MethodName) prog_10_method_2_code (1 : Nat) (Option.some Jvm.ClassFile.FieldType.boolean)).before args0 about1 = true := code_word (m := ⟨3, 1⟩) (meth := k3m1) (c := k3c1) (by decide +kernel) rfl rfl rfl (by decide +kernel)
set_option maxRecDepth 65536 in
theorem w_c5 : (Jvm.Cond.code ({ cls := "java/lang/Math", name := "min", desc := "(JJ)J" } : Jvm.MethodName) jdk_29_method_70_code (4 : Nat) (Option.some Jvm.ClassFile.FieldType.long)).before args0 about1 = true := code_word (m := ⟨4, 2⟩) (meth := k4m2) (c := k4c2) (by decide +kernel) rfl rfl rfl (by decide +kernel)
set_option maxRecDepth 65536 in
theorem w_c6 : (Jvm.Cond.code ({ cls := "java/lang/Math", name := "max", desc := "(JJ)J" } : Jvm.MethodName) jdk_29_method_66_code (4 : Nat) (Option.some Jvm.ClassFile.FieldType.long)).before args0 about1 = true := code_word (m := ⟨4, 1⟩) (meth := k4m1) (c := k4c1) (by decide +kernel) rfl rfl rfl (by decide +kernel)
def codes1 : List Jvm.Cond := [Jvm.Cond.code x code maxLocals ret, Jvm.Cond.code ({ cls := "com/example/harborlog/harborlog/Bank$Check", name := "<init>", desc := "(JJJJJJJ)V" } : Jvm.MethodName) prog_10_method_1_code (15 : Nat) (Option.none : Option Jvm.ClassFile.FieldType), Jvm.Cond.code ({ cls := "java/lang/Record", name := "<init>", desc := "()V" } : Jvm.MethodName) jdk_30_method_1_code (1 : Nat) (Option.none : Option Jvm.ClassFile.FieldType), Jvm.Cond.code ({ cls := "java/lang/Object", name := "<init>", desc := "()V" } : Jvm.MethodName) object_method_1_code (1 : Nat) (Option.none : Option Jvm.ClassFile.FieldType), Jvm.Cond.code ({ cls := "com/example/harborlog/harborlog/Bank$Check", name := "consistent", desc := "()Z" } : Jvm.MethodName) prog_10_method_2_code (1 : Nat) (Option.some Jvm.ClassFile.FieldType.boolean), Jvm.Cond.code ({ cls := "java/lang/Math", name := "min", desc := "(JJ)J" } : Jvm.MethodName) jdk_29_method_70_code (4 : Nat) (Option.some Jvm.ClassFile.FieldType.long), Jvm.Cond.code ({ cls := "java/lang/Math", name := "max", desc := "(JJ)J" } : Jvm.MethodName) jdk_29_method_66_code (4 : Nat) (Option.some Jvm.ClassFile.FieldType.long)]
set_option maxRecDepth 65536 in
theorem codes_eq : words1.filter isCode = codes1 := rfl
theorem w_codes : ∀ c ∈ words1.filter isCode, c.before args0 about1 = true := by
  rw [codes_eq]
  intro c hc
  simp only [codes1, List.mem_cons, List.not_mem_nil, or_false] at hc
  rcases hc with rfl | rfl | rfl | rfl | rfl | rfl | rfl
  · exact w_c0
  · exact w_c1
  · exact w_c2
  · exact w_c3
  · exact w_c4
  · exact w_c5
  · exact w_c6
set_option maxRecDepth 65536 in
theorem w_t1 : (words1.take 24).all (fun c => isCode c || c.before args0 about1) = true := by decide +kernel
set_option maxRecDepth 65536 in
theorem w_t2 : (words1.drop 24).all (fun c => isCode c || c.before args0 about1) = true := by decide +kernel
theorem w_tables : (allAtoms (Jvm.Cond.code x code maxLocals ret :: tables_1)).before args0 about1 = true := by
  rw [allAtoms_all]
  show words1.all (fun c => c.before args0 about1) = true
  refine all_split ?_ w_codes
  rw [← List.take_append_drop 24 words1, List.all_append, w_t1, w_t2]
  rfl
set_option maxRecDepth 65536 in
theorem w_case : (Jvm.Cond.and given_1 narrow_1).before args0 about1 = true := by decide +kernel
theorem w_applies : (headSpec (Jvm.Cond.code x code maxLocals ret :: tables_1) room_1).applies x e0.platform about1 = true :=
  (Spec.applies_iff w_frames).mpr ⟨w_running, w_runnable, w_alone, w_named, w_hears, w_ripe, w_room, w_tables⟩
theorem atStart : AtStart classFile x code maxLocals ret World_1 tables_1 room_1 Calls_1 rest_1 Pre_1 launch0 p0 e0 about1 theMethod args0 below0 :=
  ⟨lists_1, trivial, launch0.admits_env _ _ _, launch0.least_env, fairChoices_fair.cas, fairChoices_fair.clock, w_frames, w_args, w_heap, w_applies, trivial, trivial, w_case⟩
end start1
theorem witness_1 : WitnessClaimed_1 := ⟨start1.p0, start1.e0, start1.about1, start1.theMethod, start1.args0, start1.below0, start1.atStart⟩
end Jvm.Pilot.@@N@@
