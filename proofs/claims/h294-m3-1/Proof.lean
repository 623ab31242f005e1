import JvmDerived
import JvmDerived.Pilot.@@N@@Statement
import JvmDerived.Pilot.@@N@@Code
set_option linter.unusedVariables false
set_option linter.unusedSimpArgs false
namespace Jvm.Pilot.@@N@@
open Jvm Jvm.ClassFile Sem Op Lib Jvm.Free Jvm.Stand Jvm.LawKit Jvm.RoadKit Bundle Jvm.Pilot.@@N@@.Jvm.D
section OwnKit
variable {p : Program} {l : Launch} {e : Env} {R : Room} {s : State} {m : MethodId} {args : Array Value} {below : List Frame} {meth : Method} {c : Code} {T : State} {locs : List Loc} {cells slots : Nat} {Z : State} {a0 : Array Value} {h : Heap} {G : Outcome → State → Prop}
def oGo (p : Program) (e : Env) (below : List Frame) (G : Outcome → State → Prop) (T : State) (f : JFrame) : Prop :=
  ∃ s₂ o, Steps p.tables e below (T.setTop f) s₂ ∧ s₂.status = .running ∧ Ended s₂ below o ∧ G o s₂
theorem oGo.step {T' : State} {f f' : JFrame} (st : ∀ t, Steps p.tables e below (T'.setTop f') t → Steps p.tables e below (T.setTop f) t) (k : oGo p e below G T' f') : oGo p e below G T f := by
  obtain ⟨s₂, o, h1, h2⟩ := k
  exact ⟨s₂, o, st _ h1, h2⟩
def oG (s : State) (Q : Option Value → Heap → List Loc → Prop) (C N : Nat) : Outcome → State → Prop := fun o U' => ∃ v L, o = .returned v ∧ Q v U'.heap L ∧ FrameEnd s o U' L C N
def oCon (l : Launch) (Z : State) (y : MethodName) (bytes : ByteArray) (maxL : Nat) (ret : Option FieldType) (rm : Room) (as' : Array Value) (h : Heap) (Q : Option Value → Heap → List Loc → Prop) : Prop :=
  ∀ ws, MetFree l y (head1 (Jvm.Cond.code y bytes maxL ret :: ws) rm) (fun a U => a = as' ∧ Z.Warmed39 U.vm ∧ U.heap = h) (fun _ _ _ _ _ => True) (fun _ U o U' => ∃ v L, o = .returned v ∧ Q v U'.heap L ∧ FrameEnd U o U' L rm.cells rm.slots)
theorem oCon.of {y : MethodName} {bytes : ByteArray} {maxL : Nat} {ret : Option FieldType} {rm : Room} {as' : Array Value} {Q : Option Value → Heap → List Loc → Prop} (hpn : plainFor y = true)
    (body : ∀ p e s m below meth c s₁, p.tables.exec = Jvm.exec → c.code = bytes → c.maxLocals = maxL → s.vm.findClass y.cls = some m.cls → meth.name = y.name → meth.sig.returnType = ret → meth.locks = false → Z.Warmed39 s.vm → Stand p l e rm s m as' below meth c s₁ [] 0 0 → s₁.heap = h → oGo p e below (oG s Q rm.cells rm.slots) s₁ (entryFrame m as' maxL)) :
    oCon l Z y bytes maxL ret rm as' h Q := by
  intro ws
  refine MetFree.of_bodySF hpn hisR ?_
  intro p e s m args below meth c s₁ Bd hml0 hP hK
  obtain ⟨rfl, hZ, hh⟩ := hP
  exact body p e s m below meth c s₁ Bd.exec Bd.bytes hml0 (findClass_of_methodNamed Bd.named) (name_of_methodNamed Bd.named Bd.method).1 Bd.returns (BodyLoose.notSynchronized Bd) hZ (Stand.of_body Bd) (by rw [← hh, Bd.state]; rfl)
theorem o_iloadN (X : Stand p l e R s m args below meth c T locs cells slots) (hx : p.tables.exec = Jvm.exec) {pc pc' : Nat} {Ls : Array Slot} {st : List Value} {k : Fin 4} {v : Int32} (hd : decode c.code pc = .ok (.iload_n k, 1)) (hl : Ls[k.val]? = some (.val (.int v))) (hp : pc + 1 = pc') (q : oGo p e below G T (mkF m pc' Ls (.int v :: st))) : oGo p e below G T (mkF m pc Ls (st)) := by
  subst hp; exact q.step fun t r => XS.iloadN X.here hx rfl hd hl r
theorem o_iload (X : Stand p l e R s m args below meth c T locs cells slots) (hx : p.tables.exec = Jvm.exec) {pc pc' : Nat} {Ls : Array Slot} {st : List Value} {k : Nat} {v : Int32} (hd : decode c.code pc = .ok (.iload k, 2)) (hl : Ls[k]? = some (.val (.int v))) (hp : pc + 2 = pc') (q : oGo p e below G T (mkF m pc' Ls (.int v :: st))) : oGo p e below G T (mkF m pc Ls (st)) := by
  subst hp; exact q.step fun t r => XS.iload X.here hx rfl hd hl r
theorem o_istoreN (X : Stand p l e R s m args below meth c T locs cells slots) (hx : p.tables.exec = Jvm.exec) {pc pc' : Nat} {Ls : Array Slot} {st : List Value} {k : Fin 4} {v : Int32} {l' : Array Slot} (hd : decode c.code pc = .ok (.istore_n k, 1)) (hl : storeLocals Ls k.val (.int v) = some l') (hp : pc + 1 = pc') (q : oGo p e below G T (mkF m pc' l' (st))) : oGo p e below G T (mkF m pc Ls (.int v :: st)) := by
  subst hp; exact q.step fun t r => XS.istoreN X.here hx rfl hd rfl hl r
theorem o_istore (X : Stand p l e R s m args below meth c T locs cells slots) (hx : p.tables.exec = Jvm.exec) {pc pc' : Nat} {Ls : Array Slot} {st : List Value} {k : Nat} {v : Int32} {l' : Array Slot} (hd : decode c.code pc = .ok (.istore k, 2)) (hl : storeLocals Ls k (.int v) = some l') (hp : pc + 2 = pc') (q : oGo p e below G T (mkF m pc' l' (st))) : oGo p e below G T (mkF m pc Ls (.int v :: st)) := by
  subst hp; exact q.step fun t r => XS.istore X.here hx rfl hd rfl hl r
theorem o_lloadN (X : Stand p l e R s m args below meth c T locs cells slots) (hx : p.tables.exec = Jvm.exec) {pc pc' : Nat} {Ls : Array Slot} {st : List Value} {k : Fin 4} {v : Int64} (hd : decode c.code pc = .ok (.lload_n k, 1)) (hl : Ls[k.val]? = some (.val (.long v))) (hp : pc + 1 = pc') (q : oGo p e below G T (mkF m pc' Ls (.long v :: st))) : oGo p e below G T (mkF m pc Ls (st)) := by
  subst hp; exact q.step fun t r => XT.lloadN X.here hx rfl hd hl r
theorem o_lload (X : Stand p l e R s m args below meth c T locs cells slots) (hx : p.tables.exec = Jvm.exec) {pc pc' : Nat} {Ls : Array Slot} {st : List Value} {k : Nat} {v : Int64} (hd : decode c.code pc = .ok (.lload k, 2)) (hl : Ls[k]? = some (.val (.long v))) (hp : pc + 2 = pc') (q : oGo p e below G T (mkF m pc' Ls (.long v :: st))) : oGo p e below G T (mkF m pc Ls (st)) := by
  subst hp; exact q.step fun t r => XT.lload X.here hx rfl hd hl r
theorem o_lstoreN (X : Stand p l e R s m args below meth c T locs cells slots) (hx : p.tables.exec = Jvm.exec) {pc pc' : Nat} {Ls : Array Slot} {st : List Value} {k : Fin 4} {v : Int64} {l' : Array Slot} (hd : decode c.code pc = .ok (.lstore_n k, 1)) (hl : storeLocals Ls k.val (.long v) = some l') (hp : pc + 1 = pc') (q : oGo p e below G T (mkF m pc' l' (st))) : oGo p e below G T (mkF m pc Ls (.long v :: st)) := by
  subst hp; exact q.step fun t r => XT.lstoreN X.here hx rfl hd rfl hl r
theorem o_lstore (X : Stand p l e R s m args below meth c T locs cells slots) (hx : p.tables.exec = Jvm.exec) {pc pc' : Nat} {Ls : Array Slot} {st : List Value} {k : Nat} {v : Int64} {l' : Array Slot} (hd : decode c.code pc = .ok (.lstore k, 2)) (hl : storeLocals Ls k (.long v) = some l') (hp : pc + 2 = pc') (q : oGo p e below G T (mkF m pc' l' (st))) : oGo p e below G T (mkF m pc Ls (.long v :: st)) := by
  subst hp; exact q.step fun t r => XT.lstore X.here hx rfl hd rfl hl r
theorem o_aloadN (X : Stand p l e R s m args below meth c T locs cells slots) (hx : p.tables.exec = Jvm.exec) {pc pc' : Nat} {Ls : Array Slot} {st : List Value} {k : Fin 4} {v : Value} (hd : decode c.code pc = .ok (.aload_n k, 1)) (hl : Ls[k.val]? = some (.val v)) (hv : v.isRef = true) (hp : pc + 1 = pc') (q : oGo p e below G T (mkF m pc' Ls (v :: st))) : oGo p e below G T (mkF m pc Ls (st)) := by
  subst hp; exact q.step fun t r => XS.aloadN X.here hx rfl hd hl hv r
theorem o_aload (X : Stand p l e R s m args below meth c T locs cells slots) (hx : p.tables.exec = Jvm.exec) {pc pc' : Nat} {Ls : Array Slot} {st : List Value} {k : Nat} {v : Value} (hd : decode c.code pc = .ok (.aload k, 2)) (hl : Ls[k]? = some (.val v)) (hv : v.isRef = true) (hp : pc + 2 = pc') (q : oGo p e below G T (mkF m pc' Ls (v :: st))) : oGo p e below G T (mkF m pc Ls (st)) := by
  subst hp; exact q.step fun t r => XS.aload X.here hx rfl hd hl hv r
theorem o_astoreN (X : Stand p l e R s m args below meth c T locs cells slots) (hx : p.tables.exec = Jvm.exec) {pc pc' : Nat} {Ls : Array Slot} {st : List Value} {k : Fin 4} {v : Value} {l' : Array Slot} (hd : decode c.code pc = .ok (.astore_n k, 1)) (hv : v.isRef = true) (hl : storeLocals Ls k.val v = some l') (hp : pc + 1 = pc') (q : oGo p e below G T (mkF m pc' l' (st))) : oGo p e below G T (mkF m pc Ls (v :: st)) := by
  subst hp; exact q.step fun t r => XS.astoreN X.here hx rfl hd rfl hv hl r
theorem o_astore (X : Stand p l e R s m args below meth c T locs cells slots) (hx : p.tables.exec = Jvm.exec) {pc pc' : Nat} {Ls : Array Slot} {st : List Value} {k : Nat} {v : Value} {l' : Array Slot} (hd : decode c.code pc = .ok (.astore k, 2)) (hv : v.isRef = true) (hl : storeLocals Ls k v = some l') (hp : pc + 2 = pc') (q : oGo p e below G T (mkF m pc' l' (st))) : oGo p e below G T (mkF m pc Ls (v :: st)) := by
  subst hp; exact q.step fun t r => XS.astore X.here hx rfl hd rfl hv hl r
theorem o_iconst (X : Stand p l e R s m args below meth c T locs cells slots) (hx : p.tables.exec = Jvm.exec) {pc pc' : Nat} {Ls : Array Slot} {st : List Value} {i : Int} (v : Int32) (hd : decode c.code pc = .ok (.iconst i, 1)) (hv : Int32.ofInt i = v) (hp : pc + 1 = pc') (q : oGo p e below G T (mkF m pc' Ls (.int v :: st))) : oGo p e below G T (mkF m pc Ls (st)) := by
  subst hp; exact q.step fun t r => XT.iconstV X.here hx rfl v hd hv r
theorem o_bipush (X : Stand p l e R s m args below meth c T locs cells slots) (hx : p.tables.exec = Jvm.exec) {pc pc' : Nat} {Ls : Array Slot} {st : List Value} {i : Int} (v : Int32) (hd : decode c.code pc = .ok (.bipush i, 2)) (hv : (Int8.ofInt i).toInt32 = v) (hp : pc + 2 = pc') (q : oGo p e below G T (mkF m pc' Ls (.int v :: st))) : oGo p e below G T (mkF m pc Ls (st)) := by
  subst hp; exact q.step fun t r => XT.bipushV X.here hx rfl v hd hv r
theorem o_sipush (X : Stand p l e R s m args below meth c T locs cells slots) (hx : p.tables.exec = Jvm.exec) {pc pc' : Nat} {Ls : Array Slot} {st : List Value} {i : Int} (v : Int32) (hd : decode c.code pc = .ok (.sipush i, 3)) (hv : (Int16.ofInt i).toInt32 = v) (hp : pc + 3 = pc') (q : oGo p e below G T (mkF m pc' Ls (.int v :: st))) : oGo p e below G T (mkF m pc Ls (st)) := by
  subst hp; exact q.step fun t r => XT.sipushV X.here hx rfl v hd hv r
theorem o_lconst (X : Stand p l e R s m args below meth c T locs cells slots) (hx : p.tables.exec = Jvm.exec) {pc pc' : Nat} {Ls : Array Slot} {st : List Value} {k : Fin 2} (v : Int64) (hd : decode c.code pc = .ok (.lconst k, 1)) (hv : Int64.ofNat k = v) (hp : pc + 1 = pc') (q : oGo p e below G T (mkF m pc' Ls (.long v :: st))) : oGo p e below G T (mkF m pc Ls (st)) := by
  subst hp; exact q.step fun t r => XT.lconstV X.here hx rfl v hd hv r
theorem o_anull (X : Stand p l e R s m args below meth c T locs cells slots) (hx : p.tables.exec = Jvm.exec) {pc pc' : Nat} {Ls : Array Slot} {st : List Value} (hd : decode c.code pc = .ok (.aconst_null, 1)) (hp : pc + 1 = pc') (q : oGo p e below G T (mkF m pc' Ls (.null :: st))) : oGo p e below G T (mkF m pc Ls (st)) := by
  subst hp; exact q.step fun t r => XS.aconstNull X.here hx rfl hd r
theorem o_ldc (X : Stand p l e R s m args below meth c T locs cells slots) (hx : p.tables.exec = Jvm.exec) {pc pc' : Nat} {Ls : Array Slot} {st : List Value} {own : String} {index : Nat} {v : Int32} (hZ : Z.Warmed39 s.vm) (hown : s.vm.findClass own = some m.cls) (w : (Jvm.Cond.constant own index v).before a0 Z = true) (hd : decode c.code pc = .ok (.ldc index, 2)) (hp : pc + 2 = pc') (q : oGo p e below G T (mkF m pc' Ls (.int v :: st))) : oGo p e below G T (mkF m pc Ls (st)) := by
  subst hp; exact q.step fun t r => X.ldcI hx hown (mvT hZ w) rfl hd r
theorem o_ldcw (X : Stand p l e R s m args below meth c T locs cells slots) (hx : p.tables.exec = Jvm.exec) {pc pc' : Nat} {Ls : Array Slot} {st : List Value} {own : String} {index : Nat} {v : Int32} (hZ : Z.Warmed39 s.vm) (hown : s.vm.findClass own = some m.cls) (w : (Jvm.Cond.constant own index v).before a0 Z = true) (hd : decode c.code pc = .ok (.ldc_w index, 3)) (hp : pc + 3 = pc') (q : oGo p e below G T (mkF m pc' Ls (.int v :: st))) : oGo p e below G T (mkF m pc Ls (st)) := by
  subst hp; exact q.step fun t r => X.ldcWI hx hown (mvT hZ w) rfl hd r
theorem o_ldc2 (X : Stand p l e R s m args below meth c T locs cells slots) (hx : p.tables.exec = Jvm.exec) {pc pc' : Nat} {Ls : Array Slot} {st : List Value} {own : String} {index : Nat} {v : Int64} (hZ : Z.Warmed39 s.vm) (hown : s.vm.findClass own = some m.cls) (w : (Jvm.Cond.constantLong own index v).before a0 Z = true) (hd : decode c.code pc = .ok (.ldc2_w index, 3)) (hp : pc + 3 = pc') (q : oGo p e below G T (mkF m pc' Ls (.long v :: st))) : oGo p e below G T (mkF m pc Ls (st)) := by
  subst hp; exact q.step fun t r => X.ldc2J hx hown (mvT hZ w) rfl hd r
theorem o_iadd (X : Stand p l e R s m args below meth c T locs cells slots) (hx : p.tables.exec = Jvm.exec) {pc pc' : Nat} {Ls : Array Slot} {st : List Value} {x y : Int32} (hd : decode c.code pc = .ok (.iadd, 1)) (hp : pc + 1 = pc') (q : oGo p e below G T (mkF m pc' Ls (.int (x + y) :: st))) : oGo p e below G T (mkF m pc Ls (.int y :: .int x :: st)) := by
  subst hp; exact q.step fun t r => XS.iadd X.here hx rfl hd rfl r
theorem o_isub (X : Stand p l e R s m args below meth c T locs cells slots) (hx : p.tables.exec = Jvm.exec) {pc pc' : Nat} {Ls : Array Slot} {st : List Value} {x y : Int32} (hd : decode c.code pc = .ok (.isub, 1)) (hp : pc + 1 = pc') (q : oGo p e below G T (mkF m pc' Ls (.int (x - y) :: st))) : oGo p e below G T (mkF m pc Ls (.int y :: .int x :: st)) := by
  subst hp; exact q.step fun t r => XS.isub X.here hx rfl hd rfl r
theorem o_imul (X : Stand p l e R s m args below meth c T locs cells slots) (hx : p.tables.exec = Jvm.exec) {pc pc' : Nat} {Ls : Array Slot} {st : List Value} {x y : Int32} (hd : decode c.code pc = .ok (.imul, 1)) (hp : pc + 1 = pc') (q : oGo p e below G T (mkF m pc' Ls (.int (x * y) :: st))) : oGo p e below G T (mkF m pc Ls (.int y :: .int x :: st)) := by
  subst hp; exact q.step fun t r => XS.imul X.here hx rfl hd rfl r
theorem o_iand (X : Stand p l e R s m args below meth c T locs cells slots) (hx : p.tables.exec = Jvm.exec) {pc pc' : Nat} {Ls : Array Slot} {st : List Value} {x y : Int32} (hd : decode c.code pc = .ok (.iand, 1)) (hp : pc + 1 = pc') (q : oGo p e below G T (mkF m pc' Ls (.int (x &&& y) :: st))) : oGo p e below G T (mkF m pc Ls (.int y :: .int x :: st)) := by
  subst hp; exact q.step fun t r => XS.iand X.here hx rfl hd rfl r
theorem o_ior (X : Stand p l e R s m args below meth c T locs cells slots) (hx : p.tables.exec = Jvm.exec) {pc pc' : Nat} {Ls : Array Slot} {st : List Value} {x y : Int32} (hd : decode c.code pc = .ok (.ior, 1)) (hp : pc + 1 = pc') (q : oGo p e below G T (mkF m pc' Ls (.int (x ||| y) :: st))) : oGo p e below G T (mkF m pc Ls (.int y :: .int x :: st)) := by
  subst hp; exact q.step fun t r => XT.ior X.here hx rfl hd rfl r
theorem o_ixor (X : Stand p l e R s m args below meth c T locs cells slots) (hx : p.tables.exec = Jvm.exec) {pc pc' : Nat} {Ls : Array Slot} {st : List Value} {x y : Int32} (hd : decode c.code pc = .ok (.ixor, 1)) (hp : pc + 1 = pc') (q : oGo p e below G T (mkF m pc' Ls (.int (x ^^^ y) :: st))) : oGo p e below G T (mkF m pc Ls (.int y :: .int x :: st)) := by
  subst hp; exact q.step fun t r => XT.ixor X.here hx rfl hd rfl r
theorem o_ishl (X : Stand p l e R s m args below meth c T locs cells slots) (hx : p.tables.exec = Jvm.exec) {pc pc' : Nat} {Ls : Array Slot} {st : List Value} {x y : Int32} (hd : decode c.code pc = .ok (.ishl, 1)) (hp : pc + 1 = pc') (q : oGo p e below G T (mkF m pc' Ls (.int (x <<< (y &&& 31)) :: st))) : oGo p e below G T (mkF m pc Ls (.int y :: .int x :: st)) := by
  subst hp; exact q.step fun t r => XT.ishl X.here hx rfl hd rfl r
theorem o_ishr (X : Stand p l e R s m args below meth c T locs cells slots) (hx : p.tables.exec = Jvm.exec) {pc pc' : Nat} {Ls : Array Slot} {st : List Value} {x y : Int32} (hd : decode c.code pc = .ok (.ishr, 1)) (hp : pc + 1 = pc') (q : oGo p e below G T (mkF m pc' Ls (.int (x >>> (y &&& 31)) :: st))) : oGo p e below G T (mkF m pc Ls (.int y :: .int x :: st)) := by
  subst hp; exact q.step fun t r => XT.ishr X.here hx rfl hd rfl r
theorem o_iushr (X : Stand p l e R s m args below meth c T locs cells slots) (hx : p.tables.exec = Jvm.exec) {pc pc' : Nat} {Ls : Array Slot} {st : List Value} {x y : Int32} (hd : decode c.code pc = .ok (.iushr, 1)) (hp : pc + 1 = pc') (q : oGo p e below G T (mkF m pc' Ls (.int (XT.ushr x y) :: st))) : oGo p e below G T (mkF m pc Ls (.int y :: .int x :: st)) := by
  subst hp; exact q.step fun t r => XT.iushr X.here hx rfl hd rfl r
theorem o_ladd (X : Stand p l e R s m args below meth c T locs cells slots) (hx : p.tables.exec = Jvm.exec) {pc pc' : Nat} {Ls : Array Slot} {st : List Value} {x y : Int64} (hd : decode c.code pc = .ok (.ladd, 1)) (hp : pc + 1 = pc') (q : oGo p e below G T (mkF m pc' Ls (.long (x + y) :: st))) : oGo p e below G T (mkF m pc Ls (.long y :: .long x :: st)) := by
  subst hp; exact q.step fun t r => XT.ladd X.here hx rfl hd rfl r
theorem o_lsub (X : Stand p l e R s m args below meth c T locs cells slots) (hx : p.tables.exec = Jvm.exec) {pc pc' : Nat} {Ls : Array Slot} {st : List Value} {x y : Int64} (hd : decode c.code pc = .ok (.lsub, 1)) (hp : pc + 1 = pc') (q : oGo p e below G T (mkF m pc' Ls (.long (x - y) :: st))) : oGo p e below G T (mkF m pc Ls (.long y :: .long x :: st)) := by
  subst hp; exact q.step fun t r => XT.lsub X.here hx rfl hd rfl r
theorem o_lmul (X : Stand p l e R s m args below meth c T locs cells slots) (hx : p.tables.exec = Jvm.exec) {pc pc' : Nat} {Ls : Array Slot} {st : List Value} {x y : Int64} (hd : decode c.code pc = .ok (.lmul, 1)) (hp : pc + 1 = pc') (q : oGo p e below G T (mkF m pc' Ls (.long (x * y) :: st))) : oGo p e below G T (mkF m pc Ls (.long y :: .long x :: st)) := by
  subst hp; exact q.step fun t r => XT.lmul X.here hx rfl hd rfl r
theorem o_land (X : Stand p l e R s m args below meth c T locs cells slots) (hx : p.tables.exec = Jvm.exec) {pc pc' : Nat} {Ls : Array Slot} {st : List Value} {x y : Int64} (hd : decode c.code pc = .ok (.land, 1)) (hp : pc + 1 = pc') (q : oGo p e below G T (mkF m pc' Ls (.long (x &&& y) :: st))) : oGo p e below G T (mkF m pc Ls (.long y :: .long x :: st)) := by
  subst hp; exact q.step fun t r => XT.land X.here hx rfl hd rfl r
theorem o_lor (X : Stand p l e R s m args below meth c T locs cells slots) (hx : p.tables.exec = Jvm.exec) {pc pc' : Nat} {Ls : Array Slot} {st : List Value} {x y : Int64} (hd : decode c.code pc = .ok (.lor, 1)) (hp : pc + 1 = pc') (q : oGo p e below G T (mkF m pc' Ls (.long (x ||| y) :: st))) : oGo p e below G T (mkF m pc Ls (.long y :: .long x :: st)) := by
  subst hp; exact q.step fun t r => XT.lor X.here hx rfl hd rfl r
theorem o_lxor (X : Stand p l e R s m args below meth c T locs cells slots) (hx : p.tables.exec = Jvm.exec) {pc pc' : Nat} {Ls : Array Slot} {st : List Value} {x y : Int64} (hd : decode c.code pc = .ok (.lxor, 1)) (hp : pc + 1 = pc') (q : oGo p e below G T (mkF m pc' Ls (.long (x ^^^ y) :: st))) : oGo p e below G T (mkF m pc Ls (.long y :: .long x :: st)) := by
  subst hp; exact q.step fun t r => XT.lxor X.here hx rfl hd rfl r
theorem o_lshl (X : Stand p l e R s m args below meth c T locs cells slots) (hx : p.tables.exec = Jvm.exec) {pc pc' : Nat} {Ls : Array Slot} {st : List Value} {x : Int64} {y : Int32} (hd : decode c.code pc = .ok (.lshl, 1)) (hp : pc + 1 = pc') (q : oGo p e below G T (mkF m pc' Ls (.long (x <<< (y.toInt64 &&& 63)) :: st))) : oGo p e below G T (mkF m pc Ls (.int y :: .long x :: st)) := by
  subst hp; exact q.step fun t r => XT.lshl X.here hx rfl hd rfl r
theorem o_lshr (X : Stand p l e R s m args below meth c T locs cells slots) (hx : p.tables.exec = Jvm.exec) {pc pc' : Nat} {Ls : Array Slot} {st : List Value} {x : Int64} {y : Int32} (hd : decode c.code pc = .ok (.lshr, 1)) (hp : pc + 1 = pc') (q : oGo p e below G T (mkF m pc' Ls (.long (x >>> (y.toInt64 &&& 63)) :: st))) : oGo p e below G T (mkF m pc Ls (.int y :: .long x :: st)) := by
  subst hp; exact q.step fun t r => XT.lshr X.here hx rfl hd rfl r
theorem o_lushr (X : Stand p l e R s m args below meth c T locs cells slots) (hx : p.tables.exec = Jvm.exec) {pc pc' : Nat} {Ls : Array Slot} {st : List Value} {x : Int64} {y : Int32} (hd : decode c.code pc = .ok (.lushr, 1)) (hp : pc + 1 = pc') (q : oGo p e below G T (mkF m pc' Ls (.long (XT.ushrL x y) :: st))) : oGo p e below G T (mkF m pc Ls (.int y :: .long x :: st)) := by
  subst hp; exact q.step fun t r => XT.lushr X.here hx rfl hd rfl r
theorem o_lcmp (X : Stand p l e R s m args below meth c T locs cells slots) (hx : p.tables.exec = Jvm.exec) {pc pc' : Nat} {Ls : Array Slot} {st : List Value} {x y : Int64} (hd : decode c.code pc = .ok (.lcmp, 1)) (hp : pc + 1 = pc') (q : oGo p e below G T (mkF m pc' Ls (.int (XT.cmpL x y) :: st))) : oGo p e below G T (mkF m pc Ls (.long y :: .long x :: st)) := by
  subst hp; exact q.step fun t r => XT.lcmp X.here hx rfl hd rfl r
theorem o_irem (X : Stand p l e R s m args below meth c T locs cells slots) (hx : p.tables.exec = Jvm.exec) {pc pc' : Nat} {Ls : Array Slot} {st : List Value} {x y : Int32} (hd : decode c.code pc = .ok (.irem, 1)) (hy : y ≠ 0) (hp : pc + 1 = pc') (q : oGo p e below G T (mkF m pc' Ls (.int (x % y) :: st))) : oGo p e below G T (mkF m pc Ls (.int y :: .int x :: st)) := by
  subst hp; exact q.step fun t r => iremM X hx rfl hd rfl hy r
theorem o_lrem (X : Stand p l e R s m args below meth c T locs cells slots) (hx : p.tables.exec = Jvm.exec) {pc pc' : Nat} {Ls : Array Slot} {st : List Value} {x y : Int64} (hd : decode c.code pc = .ok (.lrem, 1)) (hy : y ≠ 0) (hp : pc + 1 = pc') (q : oGo p e below G T (mkF m pc' Ls (.long (x % y) :: st))) : oGo p e below G T (mkF m pc Ls (.long y :: .long x :: st)) := by
  subst hp; exact q.step fun t r => XT.lrem X.here hx rfl hd rfl hy (by rw [lrem_mod]; exact r)
theorem o_i2l (X : Stand p l e R s m args below meth c T locs cells slots) (hx : p.tables.exec = Jvm.exec) {pc pc' : Nat} {Ls : Array Slot} {st : List Value} {x : Int32} (hd : decode c.code pc = .ok (.i2l, 1)) (hp : pc + 1 = pc') (q : oGo p e below G T (mkF m pc' Ls (.long (x.toInt64) :: st))) : oGo p e below G T (mkF m pc Ls (.int x :: st)) := by
  subst hp; exact q.step fun t r => XT.i2l X.here hx rfl hd rfl r
theorem o_l2i (X : Stand p l e R s m args below meth c T locs cells slots) (hx : p.tables.exec = Jvm.exec) {pc pc' : Nat} {Ls : Array Slot} {st : List Value} {x : Int64} (hd : decode c.code pc = .ok (.l2i, 1)) (hp : pc + 1 = pc') (q : oGo p e below G T (mkF m pc' Ls (.int (x.toInt32) :: st))) : oGo p e below G T (mkF m pc Ls (.long x :: st)) := by
  subst hp; exact q.step fun t r => XT.l2i X.here hx rfl hd rfl r
theorem o_i2c (X : Stand p l e R s m args below meth c T locs cells slots) (hx : p.tables.exec = Jvm.exec) {pc pc' : Nat} {Ls : Array Slot} {st : List Value} {x : Int32} (hd : decode c.code pc = .ok (.i2c, 1)) (hp : pc + 1 = pc') (q : oGo p e below G T (mkF m pc' Ls (.int (x.toUInt32.toUInt16.toUInt32.toInt32) :: st))) : oGo p e below G T (mkF m pc Ls (.int x :: st)) := by
  subst hp; exact q.step fun t r => XT.i2c X.here hx rfl hd rfl r
theorem o_i2b (X : Stand p l e R s m args below meth c T locs cells slots) (hx : p.tables.exec = Jvm.exec) {pc pc' : Nat} {Ls : Array Slot} {st : List Value} {x : Int32} (hd : decode c.code pc = .ok (.i2b, 1)) (hp : pc + 1 = pc') (q : oGo p e below G T (mkF m pc' Ls (.int (x.toInt8.toInt32) :: st))) : oGo p e below G T (mkF m pc Ls (.int x :: st)) := by
  subst hp; exact q.step fun t r => XT.i2b X.here hx rfl hd rfl r
theorem o_iinc (X : Stand p l e R s m args below meth c T locs cells slots) (hx : p.tables.exec = Jvm.exec) {pc pc' : Nat} {Ls : Array Slot} {st : List Value} {k : Nat} {cst : Int} {x : Int32} {l' : Array Slot} (v : Int32) (hd : decode c.code pc = .ok (.iinc k cst, 3)) (hv : Int32.ofInt cst = v) (hl : Ls[k]? = some (.val (.int x))) (hl' : storeLocals Ls k (.int (x + v)) = some l') (hp : pc + 3 = pc') (q : oGo p e below G T (mkF m pc' l' (st))) : oGo p e below G T (mkF m pc Ls (st)) := by
  subst hp; exact q.step fun t r => XT.iincV X.here hx rfl v hd hv hl hl' r
theorem o_dup (X : Stand p l e R s m args below meth c T locs cells slots) (hx : p.tables.exec = Jvm.exec) {pc pc' : Nat} {Ls : Array Slot} {st : List Value} {v : Value} (hd : decode c.code pc = .ok (.dup, 1)) (hc : v.category = 1) (hp : pc + 1 = pc') (q : oGo p e below G T (mkF m pc' Ls (v :: v :: st))) : oGo p e below G T (mkF m pc Ls (v :: st)) := by
  subst hp; exact q.step fun t r => XS.dup X.here hx rfl hd rfl hc r
theorem o_pop (X : Stand p l e R s m args below meth c T locs cells slots) (hx : p.tables.exec = Jvm.exec) {pc pc' : Nat} {Ls : Array Slot} {st : List Value} {v : Value} (hd : decode c.code pc = .ok (.pop, 1)) (hc : v.category = 1) (hp : pc + 1 = pc') (q : oGo p e below G T (mkF m pc' Ls (st))) : oGo p e below G T (mkF m pc Ls (v :: st)) := by
  subst hp; exact q.step fun t r => XT.pop X.here hx rfl hd rfl hc r
theorem o_goto (X : Stand p l e R s m args below meth c T locs cells slots) (hx : p.tables.exec = Jvm.exec) {pc pc' : Nat} {Ls : Array Slot} {st : List Value} {o : Int} (hd : decode c.code pc = .ok (.goto o, 3)) (ho : 0 ≤ (pc : Int) + o) (hp : ((pc : Int) + o).toNat = pc') (q : oGo p e below G T (mkF m pc' Ls (st))) : oGo p e below G T (mkF m pc Ls (st)) :=
  q.step fun t r => XS.goto X.here hx rfl rfl hd ho hp r
theorem o_icmpT (X : Stand p l e R s m args below meth c T locs cells slots) (hx : p.tables.exec = Jvm.exec) {pc pc' : Nat} {Ls : Array Slot} {st : List Value} {o : Int} {cd : ClassFile.Cond} {x y : Int32} (hd : decode c.code pc = .ok (.if_icmp cd o, 3)) (hc : if_icmp.holds cd x y = true) (ho : 0 ≤ (pc : Int) + o) (hp : ((pc : Int) + o).toNat = pc') (q : oGo p e below G T (mkF m pc' Ls (st))) : oGo p e below G T (mkF m pc Ls (.int y :: .int x :: st)) :=
  q.step fun t r => XS.icmpYes X.here hx rfl rfl hd rfl hc ho hp r
theorem o_icmpF (X : Stand p l e R s m args below meth c T locs cells slots) (hx : p.tables.exec = Jvm.exec) {pc pc' : Nat} {Ls : Array Slot} {st : List Value} {o : Int} {cd : ClassFile.Cond} {x y : Int32} (hd : decode c.code pc = .ok (.if_icmp cd o, 3)) (hc : if_icmp.holds cd x y = false) (hp : pc + 3 = pc') (q : oGo p e below G T (mkF m pc' Ls (st))) : oGo p e below G T (mkF m pc Ls (.int y :: .int x :: st)) := by
  subst hp; exact q.step fun t r => XS.icmpNo X.here hx rfl hd rfl hc r
theorem o_ifT (X : Stand p l e R s m args below meth c T locs cells slots) (hx : p.tables.exec = Jvm.exec) {pc pc' : Nat} {Ls : Array Slot} {st : List Value} {o : Int} {cd : ClassFile.Cond} {x : Int32} (hd : decode c.code pc = .ok (.ifCond cd o, 3)) (hc : ifCond.holds cd x = true) (ho : 0 ≤ (pc : Int) + o) (hp : ((pc : Int) + o).toNat = pc') (q : oGo p e below G T (mkF m pc' Ls (st))) : oGo p e below G T (mkF m pc Ls (.int x :: st)) :=
  q.step fun t r => XS.ifYes X.here hx rfl rfl hd rfl hc ho hp r
theorem o_ifF (X : Stand p l e R s m args below meth c T locs cells slots) (hx : p.tables.exec = Jvm.exec) {pc pc' : Nat} {Ls : Array Slot} {st : List Value} {o : Int} {cd : ClassFile.Cond} {x : Int32} (hd : decode c.code pc = .ok (.ifCond cd o, 3)) (hc : ifCond.holds cd x = false) (hp : pc + 3 = pc') (q : oGo p e below G T (mkF m pc' Ls (st))) : oGo p e below G T (mkF m pc Ls (.int x :: st)) := by
  subst hp; exact q.step fun t r => XS.ifNo X.here hx rfl hd rfl hc r
theorem o_acmpT (X : Stand p l e R s m args below meth c T locs cells slots) (hx : p.tables.exec = Jvm.exec) {pc pc' : Nat} {Ls : Array Slot} {st : List Value} {o : Int} {cd : ClassFile.ACond} {x y : Value} (hd : decode c.code pc = .ok (.if_acmp cd o, 3)) (h1 : x.isRef = true) (h2 : y.isRef = true) (hc : XT.acmp cd x y = true) (ho : 0 ≤ (pc : Int) + o) (hp : ((pc : Int) + o).toNat = pc') (q : oGo p e below G T (mkF m pc' Ls (st))) : oGo p e below G T (mkF m pc Ls (y :: x :: st)) :=
  q.step fun t r => XT.acmpYes X.here hx rfl rfl hd rfl h1 h2 hc ho hp r
theorem o_acmpF (X : Stand p l e R s m args below meth c T locs cells slots) (hx : p.tables.exec = Jvm.exec) {pc pc' : Nat} {Ls : Array Slot} {st : List Value} {o : Int} {cd : ClassFile.ACond} {x y : Value} (hd : decode c.code pc = .ok (.if_acmp cd o, 3)) (h1 : x.isRef = true) (h2 : y.isRef = true) (hc : XT.acmp cd x y = false) (hp : pc + 3 = pc') (q : oGo p e below G T (mkF m pc' Ls (st))) : oGo p e below G T (mkF m pc Ls (y :: x :: st)) := by
  subst hp; exact q.step fun t r => XT.acmpNo X.here hx rfl hd rfl h1 h2 hc r
theorem o_retI (X : Stand p l e R s m args below meth c T locs cells slots) (hx : p.tables.exec = Jvm.exec) (hret : meth.sig.returnType = some .int) (hlk : meth.locks = false) {pc : Nat} {Ls : Array Slot} {st : List Value} {z : Int32} (hd : decode c.code pc = .ok (.ireturn, 1)) {Q : Option Value → Heap → List Loc → Prop} {C N : Nat} (hc : cells ≤ C) (hn : slots ≤ N) (hQ : Q (some (.int z)) T.heap locs) : oGo p e below (oG s Q C N) T (mkF m pc Ls (.int z :: st)) := by
  obtain ⟨fs, hr, hrun, hended, hW, hsame⟩ := X.leave (v := some (.int z)) (fun h => by rw [hret] at h; cases h) hlk
  exact ⟨_, _, retOut X hx hret rfl (Or.inl ⟨rfl, Or.inl rfl, _, rfl⟩) hd hr, hrun, hended, _, _, rfl, hQ, ⟨_, rfl⟩, hW, hsame.mono hc hn⟩
theorem o_retJ (X : Stand p l e R s m args below meth c T locs cells slots) (hx : p.tables.exec = Jvm.exec) (hret : meth.sig.returnType = some .long) (hlk : meth.locks = false) {pc : Nat} {Ls : Array Slot} {st : List Value} {z : Int64} (hd : decode c.code pc = .ok (.lreturn, 1)) {Q : Option Value → Heap → List Loc → Prop} {C N : Nat} (hc : cells ≤ C) (hn : slots ≤ N) (hQ : Q (some (.long z)) T.heap locs) : oGo p e below (oG s Q C N) T (mkF m pc Ls (.long z :: st)) := by
  obtain ⟨fs, hr, hrun, hended, hW, hsame⟩ := X.leave (v := some (.long z)) (fun h => by rw [hret] at h; cases h) hlk
  exact ⟨_, _, retOut X hx hret rfl (Or.inr (Or.inl ⟨rfl, rfl, _, rfl⟩)) hd hr, hrun, hended, _, _, rfl, hQ, ⟨_, rfl⟩, hW, hsame.mono hc hn⟩
theorem o_retD (X : Stand p l e R s m args below meth c T locs cells slots) (hx : p.tables.exec = Jvm.exec) (hret : meth.sig.returnType = some .double) (hlk : meth.locks = false) {pc : Nat} {Ls : Array Slot} {st : List Value} {z : UInt64} (hd : decode c.code pc = .ok (.dreturn, 1)) {Q : Option Value → Heap → List Loc → Prop} {C N : Nat} (hc : cells ≤ C) (hn : slots ≤ N) (hQ : Q (some (.double z)) T.heap locs) : oGo p e below (oG s Q C N) T (mkF m pc Ls (.double z :: st)) := by
  obtain ⟨fs, hr, hrun, hended, hW, hsame⟩ := X.leave (v := some (.double z)) (fun h => by rw [hret] at h; cases h) hlk
  exact ⟨_, _, retOut X hx hret rfl (Or.inr (Or.inr (Or.inl ⟨rfl, rfl, _, rfl⟩))) hd hr, hrun, hended, _, _, rfl, hQ, ⟨_, rfl⟩, hW, hsame.mono hc hn⟩
theorem o_retZ (X : Stand p l e R s m args below meth c T locs cells slots) (hx : p.tables.exec = Jvm.exec) (hret : meth.sig.returnType = some .boolean) (hlk : meth.locks = false) {pc : Nat} {Ls : Array Slot} {st : List Value} {z : Int32} (hd : decode c.code pc = .ok (.ireturn, 1)) (hz : z &&& 1 = z) {Q : Option Value → Heap → List Loc → Prop} {C N : Nat} (hc : cells ≤ C) (hn : slots ≤ N) (hQ : Q (some (.int z)) T.heap locs) : oGo p e below (oG s Q C N) T (mkF m pc Ls (.int z :: st)) := by
  obtain ⟨fs, hr, hrun, hended, hW, hsame⟩ := X.leave (v := some (.int z)) (fun h => by rw [hret] at h; cases h) hlk
  have hz' : nar .boolean z = z := hz
  exact ⟨_, _, retN X hx (t := .boolean) hret (Or.inl rfl) hd (by rw [hz']; exact hr), hrun, hended, _, _, rfl, hQ, ⟨_, rfl⟩, hW, hsame.mono hc hn⟩
theorem o_retA (X : Stand p l e R s m args below meth c T locs cells slots) (hx : p.tables.exec = Jvm.exec) {C1 : FieldType} (hret : meth.sig.returnType = some C1) (ht : C1.isReference = true) (hlk : meth.locks = false) {pc : Nat} {Ls : Array Slot} {st : List Value} {z : Value} (hz : z.isRef = true) (hna : narrow C1 z = z) (hd : decode c.code pc = .ok (.areturn, 1)) {Q : Option Value → Heap → List Loc → Prop} {C N : Nat} (hc : cells ≤ C) (hn : slots ≤ N) (hQ : Q (some z) T.heap locs) : oGo p e below (oG s Q C N) T (mkF m pc Ls (z :: st)) := by
  obtain ⟨fs, hr, hrun, hended, hW, hsame⟩ := X.leave (v := some z) (fun h => by rw [hret] at h; cases h) hlk
  exact ⟨_, _, retOut X hx hret hna (Or.inr (Or.inr (Or.inr (Or.inr ⟨rfl, ht, hz⟩)))) hd hr, hrun, hended, _, _, rfl, hQ, ⟨_, rfl⟩, hW, hsame.mono hc hn⟩
theorem o_retV (X : Stand p l e R s m args below meth c T locs cells slots) (hx : p.tables.exec = Jvm.exec) (hret : meth.sig.returnType = none) (hlk : meth.locks = false) {pc : Nat} {Ls : Array Slot} (hd : decode c.code pc = .ok (.return_, 1)) {Q : Option Value → Heap → List Loc → Prop} {C N : Nat} (hc : cells ≤ C) (hn : slots ≤ N) (hQ : Q none T.heap locs) : oGo p e below (oG s Q C N) T (mkF m pc Ls []) := by
  obtain ⟨fs, hr, hrun, hended, hW, hsame⟩ := X.leave (v := none) (fun _ => rfl) hlk
  exact ⟨_, _, X.returnOut hx hret hd hr, hrun, hended, _, _, rfl, hQ, ⟨_, rfl⟩, hW, hsame.mono hc hn⟩
theorem o_callS (X : Stand p l e R s m args below meth c T locs cells slots) (hx : p.tables.exec = Jvm.exec) (hZ : Z.Warmed39 s.vm) {own : String} {index : Nat} {y : MethodName} {bytes : ByteArray} {maxL : Nat} {ret : Option FieldType} (hown : s.vm.findClass own = some m.cls) (w1 : (Jvm.Cond.methodLink own index y).before a0 Z = true) (w2 : (Jvm.Cond.static y).before a0 Z = true) (w3 : (Jvm.Cond.initialized y.cls).before a0 Z = true) (w4 : (Jvm.Cond.code y bytes maxL ret).before a0 Z = true) (hy : y.cls ≠ "java/lang/invoke/MethodHandle" ∧ y.cls ≠ "java/lang/invoke/VarHandle") {rm : Room} {as' : Array Value} {Q : Option Value → Heap → List Loc → Prop} (hM : oCon l Z y bytes maxL ret rm as' h Q) (eT : T.heap = h) {pc pc' : Nat} {Ls : Array Slot} {st : List Value} (hsz : Ls.size = c.maxLocals) (argsL rest : List Value) (has : argsL.toArray = as') {ps : List FieldType} {rr : Option FieldType} (hpd : parseMethodDescriptor y.desc = some ⟨ps, rr⟩) (hlen : argsL.length = ps.length) (hst : st = argsL.reverse ++ rest) (W : Nat) (hW : (rest.map fun v => v.category).sum ≤ W) (hd : decode c.code pc = .ok (.invokestatic index, 3)) (hp : pc + 3 = pc') (hf : rm.frames + 1 ≤ R.frames) (hl : W + (maxL + 11) + rm.locals ≤ R.locals) (hc : cells + rm.cells ≤ R.cells) (hn : slots + rm.slots ≤ R.slots) :
    ∃ v T' L, Stand p l e R s m args below meth c T' (locs ++ L) (cells + rm.cells) (slots + rm.slots) ∧ Q v T'.heap L ∧ ∀ t, Steps p.tables e below (T'.setTop (mkF m pc' Ls (v.toList ++ rest))) t → Steps p.tables e below (T.setTop (mkF m pc Ls st)) t := by
  subst hp has
  obtain ⟨v, vm₁, ⟨T', L', k', n'⟩, -, X', ⟨Lc, hQ, l1, y1, z1⟩, st'⟩ := Jvm.LawKit.callS X hx hown (mvT hZ w1) (mvT hZ w2) (mvT hZ w3) (mvT hZ w4) hy (backOf (W := W) (hM []) hZ w4 w3 hf hl) (g := mkF m pc Ls st) rfl hsz (argsL := argsL) (rest := rest) (lenOf hpd hlen) hst (by show 2 * 0 + _ ≤ _; omega) hd (fun _ _ => ⟨rfl, eT, hc, hn⟩)
  dsimp only [Pt.U, Pt.locs, Pt.cells, Pt.slots] at X' l1 y1 z1 st' hQ
  subst l1 y1 z1
  exact ⟨v, T', Lc, X', hQ, st'⟩
theorem o_callN (X : Stand p l e R s m args below meth c T locs cells slots) (hx : p.tables.exec = Jvm.exec) (hZ : Z.Warmed39 s.vm) {own : String} {index : Nat} {y : MethodName} {bytes : ByteArray} {maxL : Nat} (hown : s.vm.findClass own = some m.cls) (hi : y.name = "<init>") (w1 : (Jvm.Cond.methodLink own index y).before a0 Z = true) (w2 : (Jvm.Cond.instanceMethod y).before a0 Z = true) (w3 : (Jvm.Cond.initialized y.cls).before a0 Z = true) (w4 : (Jvm.Cond.code y bytes maxL none).before a0 Z = true) (hy : y.cls ≠ "java/lang/invoke/MethodHandle" ∧ y.cls ≠ "java/lang/invoke/VarHandle") {rm : Room} {as' : Array Value} {Q : Option Value → Heap → List Loc → Prop} (hM : oCon l Z y bytes maxL none rm as' h Q) (eT : T.heap = h) {pc pc' : Nat} {Ls : Array Slot} {st : List Value} (hsz : Ls.size = c.maxLocals) {a : Addr} (argsL rest : List Value) (has : (Value.ref a :: argsL).toArray = as') {ps : List FieldType} {rr : Option FieldType} (hpd : parseMethodDescriptor y.desc = some ⟨ps, rr⟩) (hlen : argsL.length = ps.length) (hst : st = argsL.reverse ++ .ref a :: rest) (W : Nat) (hW : (rest.map fun v => v.category).sum ≤ W) (hd : decode c.code pc = .ok (.invokespecial index, 3)) (hp : pc + 3 = pc') (hf : rm.frames + 1 ≤ R.frames) (hl : W + (maxL + 11) + rm.locals ≤ R.locals) (hc : cells + rm.cells ≤ R.cells) (hn : slots + rm.slots ≤ R.slots) :
    ∃ v T' L, Stand p l e R s m args below meth c T' (locs ++ L) (cells + rm.cells) (slots + rm.slots) ∧ Q v T'.heap L ∧ ∀ t, Steps p.tables e below (T'.setTop (mkF m pc' Ls (v.toList ++ rest))) t → Steps p.tables e below (T.setTop (mkF m pc Ls st)) t := by
  subst hp has
  obtain ⟨v, vm₁, ⟨T', L', k', n'⟩, -, X', ⟨Lc, hQ, l1, y1, z1⟩, st'⟩ := X.specialBack hx hi hown (mvT hZ w1) (mvT hZ w2) (mvT hZ w4) hy (backOf (W := W) (hM []) hZ w4 w3 hf hl) (g := mkF m pc Ls st) rfl hsz (Steps.refl _) (a := a) (argsL := argsL) (rest := rest) (lenOf hpd hlen) hst (by show 2 * 0 + _ ≤ _; omega) hd (fun _ _ => ⟨rfl, eT, hc, hn⟩)
  dsimp only [Pt.U, Pt.locs, Pt.cells, Pt.slots] at X' l1 y1 z1 st' hQ
  subst l1 y1 z1
  exact ⟨v, T', Lc, X', hQ, fun t r => st'.trans r⟩
theorem o_callV (X : Stand p l e R s m args below meth c T locs cells slots) (hx : p.tables.exec = Jvm.exec) (hZ : Z.Warmed39 s.vm) {own : String} {index : Nat} {y : MethodName} {bytes : ByteArray} {maxL : Nat} {ret : Option FieldType} (hown : s.vm.findClass own = some m.cls) {C : String} (w1 : (Jvm.Cond.methodLink own index y).before a0 Z = true) (w2 : (Jvm.Cond.declares y).before a0 Z = true) (w5 : (Jvm.Cond.selects C y y).before a0 Z = true) (w6 : (Jvm.Cond.instanceMethod y).before a0 Z = true) (w3 : (Jvm.Cond.initialized y.cls).before a0 Z = true) (w4 : (Jvm.Cond.code y bytes maxL ret).before a0 Z = true) (hy : y.cls ≠ "java/lang/invoke/MethodHandle" ∧ y.cls ≠ "java/lang/invoke/VarHandle") {aa : Addr} (E : Exa Z h aa C) {rm : Room} {as' : Array Value} {Q : Option Value → Heap → List Loc → Prop} (hM : oCon l Z y bytes maxL ret rm as' h Q) (eT : T.heap = h) {pc pc' : Nat} {Ls : Array Slot} {st : List Value} (hsz : Ls.size = c.maxLocals) (argsL rest : List Value) (has : (Value.ref aa :: argsL).toArray = as') {ps : List FieldType} {rr : Option FieldType} (hpd : parseMethodDescriptor y.desc = some ⟨ps, rr⟩) (hlen : argsL.length = ps.length) (hst : st = argsL.reverse ++ .ref aa :: rest) (W : Nat) (hW : (rest.map fun v => v.category).sum ≤ W) (hd : decode c.code pc = .ok (.invokevirtual index, 3)) (hp : pc + 3 = pc') (hf : rm.frames + 1 ≤ R.frames) (hl : W + (maxL + 11) + rm.locals ≤ R.locals) (hc : cells + rm.cells ≤ R.cells) (hn : slots + rm.slots ≤ R.slots) :
    ∃ v T' L, Stand p l e R s m args below meth c T' (locs ++ L) (cells + rm.cells) (slots + rm.slots) ∧ Q v T'.heap L ∧ ∀ t, Steps p.tables e below (T'.setTop (mkF m pc' Ls (v.toList ++ rest))) t → Steps p.tables e below (T.setTop (mkF m pc Ls st)) t := by
  subst hp has
  obtain ⟨v, vm₁, ⟨T', L', k', n'⟩, -, X', ⟨Lc, hQ, l1, y1, z1⟩, st'⟩ := X.virtualBack hx hown (mvT hZ w1) (mvT hZ w2) (notFace_of_selects (args := #[]) (mvT hZ w5)) (mvT hZ w5) (mvT hZ w6) hy (backOf (W := W) (hM []) hZ w4 w3 hf hl) (isOf hZ eT E).choose_spec.choose_spec.1 (isOf hZ eT E).choose_spec.choose_spec.2.2 (g := mkF m pc Ls st) rfl hsz (Steps.refl _) (argsL := argsL) (rest := rest) (lenOf hpd hlen) hst (by show 2 * 0 + _ ≤ _; omega) hd (fun _ _ => ⟨rfl, eT, hc, hn⟩)
  dsimp only [Pt.U, Pt.locs, Pt.cells, Pt.slots] at X' l1 y1 z1 st' hQ
  subst l1 y1 z1
  exact ⟨v, T', Lc, X', hQ, fun t r => st'.trans r⟩
theorem o_bz (b : Prop) [Decidable b] : (if b then (1 : Int32) else 0) &&& 1 = if b then 1 else 0 := by by_cases q : b <;> simp [q]
theorem o_same {k n : Nat} (X : Stand p l e R s m args below meth c T (locs ++ []) (cells + k) (slots + n)) (hk : k = 0) (hn : n = 0) : Stand p l e R s m args below meth c T locs cells slots := by subst hk hn; simpa using X
theorem o_flat {k n : Nat} (X : Stand p l e R s m args below meth c T locs (cells + k) (slots + n)) (hk : k = 0) (hn : n = 0) : Stand p l e R s m args below meth c T locs cells slots := by subst hk hn; exact X
theorem o_fldI {a : Addr} {C n d : String} {x y : Int32} (q : y = x) (F : Fld Z h a C n d (.int x)) : Fld Z h a C n d (.int y) := q ▸ F
theorem o_fldJ {a : Addr} {C n d : String} {x y : Int64} (q : y = x) (F : Fld Z h a C n d (.long x)) : Fld Z h a C n d (.long y) := q ▸ F
theorem o_nb {z : Int32} (q : z = 0 ∨ z = 1) : narrow .boolean (.int z) = .int z := by rcases q with rfl | rfl <;> rfl
theorem o_fb {z : Int32} (q : z = 0 ∨ z = 1) : fits .boolean (.int z) = true := by rcases q with rfl | rfl <;> rfl
theorem o_zb {z : Int32} (q : z = 0 ∨ z = 1) : z &&& 1 = z := by rcases q with rfl | rfl <;> rfl
theorem o_or1 {z : Int32} (q : z = 0 ∨ z = 1) : (z ||| 1) = 0 ∨ (z ||| 1) = 1 := by rcases q with rfl | rfl <;> simp
theorem o_or0 {z : Int32} (q : z = 0 ∨ z = 1) : (z ||| 0) = 0 ∨ (z ||| 0) = 1 := by rcases q with rfl | rfl <;> simp
def oInts (Z : State) (h : Heap) (a : Addr) (xs : List Int32) : Prop := ∃ c : Cell, Arr Z h a c .int ∧ c.slots = (xs.map Value.int).toArray ∧ xs.length < 2 ^ 31
theorem oInts.lt {a : Addr} {xs : List Int32} (F : oInts Z h a xs) : a < h.size := by obtain ⟨c, A, -⟩ := F; exact A.lt
theorem oInts.ext {h' : Heap} {a : Addr} {xs : List Int32} (F : oInts Z h a xs) (E : Ext h h') : oInts Z h' a xs := by obtain ⟨c, A, r⟩ := F; exact ⟨c, A.ext E, r⟩
theorem oInts.keep {h' : Heap} {a : Addr} {xs : List Int32} {ws : List Addr} (F : oInts Z h a xs) (K : Keep h h' ws) (q : a ∉ ws) : oInts Z h' a xs := by obtain ⟨c, A, r⟩ := F; exact ⟨c, ⟨K.2.1 a c A.1 q, A.2⟩, r⟩
theorem oInts.set {h' : Heap} {a : Addr} {xs : List Int32} {i : Nat} {v : Int32} (F : oInts Z h a xs) (W : Wr h h' a i (.int v)) : oInts Z h' a (xs.set i v) := by
  obtain ⟨c, A, S, L⟩ := F
  refine ⟨_, A.same W, ?_, by simpa using L⟩
  simp [Cell.setSlot, S, List.map_set]
theorem oInts.new {a : Addr} {k : ClassId} {n : Int32} (A : Arr Z h a (newA k .int n) .int) (q : ¬ n < 0) : oInts Z h a (List.replicate n.toNatClampNeg 0) := by
  refine ⟨_, A, ?_, ?_⟩
  · simp [newA, defaultValue]
  · have := n.toInt_lt; simp only [List.length_replicate]; have h2 : n.toInt = (n.toNatClampNeg : Int) := nat_of q; omega
theorem oInts.at {a : Addr} {xs : List Int32} {j v : Int32} (F : oInts Z h a xs) (q : ¬ j < 0) (hj : xs[j.toNatClampNeg]? = some v) : ∃ c : Cell, Arr Z h a c .int ∧ ¬ (j < 0 ∨ c.slots.size ≤ j.toNatClampNeg) ∧ c.slots[j.toNatClampNeg]? = some (.int v) := by
  obtain ⟨c, A, S, L⟩ := F
  have hl : j.toNatClampNeg < xs.length := by
    rcases Nat.lt_or_ge j.toNatClampNeg xs.length with r | r
    · exact r
    · rw [List.getElem?_eq_none r] at hj; cases hj
  refine ⟨c, A, ?_, ?_⟩
  · rw [S]; simp only [List.size_toArray, List.length_map]; rintro (r | r)
    · exact q r
    · omega
  · rw [S]; simp [hj]
theorem o_iaload (X : Stand p l e R s m args below meth c T locs cells slots) (hx : p.tables.exec = Jvm.exec) (hZ : Z.Warmed39 s.vm) (eT : T.heap = h) {a : Addr} {xs : List Int32} (F : oInts Z h a xs) {pc pc' : Nat} {Ls : Array Slot} {st : List Value} {j v : Int32} (hd : decode c.code pc = .ok (.iaload, 1)) (q0 : ¬ j < 0) (hj : xs[j.toNatClampNeg]? = some v) (hp : pc + 1 = pc') (q : oGo p e below G T (mkF m pc' Ls (.int v :: st))) : oGo p e below G T (mkF m pc Ls (.int j :: .ref a :: st)) := by
  subst hp
  obtain ⟨cl, A, h1, h2⟩ := F.at q0 hj
  exact q.step fun t r => X.iaload (g := mkF m pc Ls (.int j :: .ref a :: st)) (rest := st) hx (by rw [eT]; exact A.1) (State.isArrayOf_alike hZ.alike A.2.1) A.2.2 h1 h2 rfl rfl hd t r
theorem o_alen (X : Stand p l e R s m args below meth c T locs cells slots) (hx : p.tables.exec = Jvm.exec) (hZ : Z.Warmed39 s.vm) (eT : T.heap = h) {a : Addr} {xs : List Int32} (F : oInts Z h a xs) {pc pc' : Nat} {Ls : Array Slot} {st : List Value} (hd : decode c.code pc = .ok (.arraylength, 1)) (hp : pc + 1 = pc') (q : oGo p e below G T (mkF m pc' Ls (.int xs.length.toInt32 :: st))) : oGo p e below G T (mkF m pc Ls (.ref a :: st)) := by
  subst hp
  obtain ⟨cl, A, S, L⟩ := F
  refine q.step fun t r => X.arraylength (g := mkF m pc Ls (.ref a :: st)) (rest := st) hx (by rw [eT]; exact A.1) (State.isArrayOf_alike hZ.alike A.2.1) rfl rfl hd t ?_
  have : cl.slots.size = xs.length := by rw [S]; simp
  rw [this]; exact r
theorem o_iastore (X : Stand p l e R s m args below meth c T locs cells slots) (hx : p.tables.exec = Jvm.exec) (hZ : Z.Warmed39 s.vm) (eT : T.heap = h) {a : Addr} {xs : List Int32} (F : oInts Z h a xs) {pc pc' : Nat} {Ls : Array Slot} {st : List Value} {j x : Int32} (hd : decode c.code pc = .ok (.iastore, 1)) (q0 : ¬ j < 0) (hj : j.toNatClampNeg < xs.length) (hp : pc + 1 = pc') :
    ∃ T' h', Stand p l e R s m args below meth c T' (locs ++ [⟨a, j.toNatClampNeg⟩]) cells slots ∧ T'.heap = h' ∧ Wr h h' a j.toNatClampNeg (.int x) ∧ ∀ t, Steps p.tables e below (T'.setTop (mkF m pc' Ls st)) t → Steps p.tables e below (T.setTop (mkF m pc Ls (.int x :: .int j :: .ref a :: st))) t := by
  subst hp
  obtain ⟨v, hv⟩ : ∃ v, xs[j.toNatClampNeg]? = some v := ⟨_, List.getElem?_eq_getElem hj⟩
  obtain ⟨cl, A, h1, h2⟩ := F.at q0 hv
  obtain ⟨T', h', X', e', W', st'⟩ := stI X hx hZ eT A (x := x) h1 (g := mkF m pc Ls (.int x :: .int j :: .ref a :: st)) (rest := st) rfl rfl hd
  exact ⟨T', h', X', e', W', st'⟩
theorem o_newI (X : Stand p l e R s m args below meth c T locs cells slots) (hx : p.tables.exec = Jvm.exec) (hZ : Z.Warmed39 s.vm) (w : (Jvm.Cond.arrayClass .int).before a0 Z = true) (eT : T.heap = h) {pc pc' : Nat} {Ls : Array Slot} {st : List Value} {n : Int32} (hd : decode c.code pc = .ok (.newarray .int, 2)) (hn : ¬ n < 0) (cap : Nat) (hcap : n.toNatClampNeg ≤ cap) (hb : cap * 8 ≤ 536870912) (hc : cells + 1 ≤ R.cells) (hl : slots + cap ≤ R.slots) (hp : pc + 2 = pc') :
    ∃ T' h', Stand p l e R s m args below meth c T' locs (cells + 1) (slots + cap) ∧ T'.heap = h' ∧ Ext h h' ∧ oInts Z h' h.size (List.replicate n.toNatClampNeg 0) ∧ ∀ t, Steps p.tables e below (T'.setTop (mkF m pc' Ls (.ref h.size :: st))) t → Steps p.tables e below (T.setTop (mkF m pc Ls (.int n :: st))) t := by
  subst hp
  obtain ⟨T', h', cA, X', e', E, A, st'⟩ := newP X hx hZ (aty := .int) w eT (g := mkF m pc Ls (.int n :: st)) rfl hd (n := n) (rest := st) rfl hn hcap hb hc hl
  have A' := oInts.new A hn
  exact ⟨T', h', X', e', E, A', st'⟩
end OwnKit
def oInv (k g z : Int32) : Prop := ((k = 0 ∧ g = 0) ∨ (k = 1 ∧ (g = 1 ∨ g = 2 ∨ g = 3)) ∨ (k = 2 ∧ (g = 1 ∨ g = 2)) ∨ (k = 3 ∧ g = 1)) ∧ (z = 0 ∨ z = 1)
def oLeast (g : Int32) : Int32 := if g = 0 then 0 else if g = 1 then 128 else if g = 2 then 2048 else 65536
theorem own_idx {k g z : Int32} (I : oInv k g z) : (¬ ((g + 1) - 1) < 0) ∧ [(0 : Int32), 128, 2048, 65536][((g + 1) - 1).toNatClampNeg]? = some (oLeast g) := by
  obtain ⟨(⟨-, rfl⟩ | ⟨-, rfl | rfl | rfl⟩ | ⟨-, rfl | rfl⟩ | ⟨-, rfl⟩), -⟩ := I <;> decide
theorem o_orB {x y : Int32} (q : x = 0 ∨ x = 1) (r : y = 0 ∨ y = 1) : (x ||| y) = 0 ∨ (x ||| y) = 1 := by rcases q with rfl | rfl <;> rcases r with rfl | rfl <;> decide
theorem own_inv0 : oInv 0 0 0 := ⟨Or.inl ⟨rfl, rfl⟩, Or.inl rfl⟩
theorem d1_0 : decode prog_155_method_1_code 0 = .ok (.aload_n 0, 1) := by decide +kernel
theorem d1_1 : decode prog_155_method_1_code 1 = .ok (.invokespecial 1, 3) := by decide +kernel
theorem d1_4 : decode prog_155_method_1_code 4 = .ok (.return_, 1) := by decide +kernel
theorem pn_1 : plainName "com/example/harborlog/harborlog/Utf8Decoder" = true := by first | (simp [plainName, overriddenIn]; done) | decide +kernel
theorem ef1 (m : MethodId) (a1 : Addr) : entryFrame m #[(.ref a1)] 1 = mkF m 0 #[.val (.ref a1)] [] := by first | (simp [entryFrame, mkF, argsToLocals, Value.category]; done) | rfl
def room1 : Room := { frames := 1, cells := 0, slots := 0, locals := 12 }
set_option maxRecDepth 65536 in
set_option maxHeartbeats 40000000 in
theorem rm1 (l : Launch) (Z : State) (a0 : Array Value) (hw : ∀ d ∈ tables_1, d.before a0 Z = true) (a1 : Addr) (h0 : Heap) (n0 : Nat) (Z0 : n0 ≤ h0.size)   :
    oCon l Z (⟨"com/example/harborlog/harborlog/Utf8Decoder", "<init>", "()V"⟩ : MethodName) prog_155_method_1_code 1 none room1 #[(.ref a1)] h0 (fun v h L => v = none ∧ L = [] ∧ h = h0) := by
  refine oCon.of (plainFor_of_name pn_1) ?_
  intro p e s m below meth c s₁ hx hby hml hown hnm hret hlk hZ X0 e0
  rw [ef1 m a1]
  have N0 := Fr.nil n0
  refine o_aloadN (pc' := 1) X0 hx (hb hby d1_0) rfl rfl rfl ?_
  obtain ⟨T1, X1, e1, st1⟩ := initO X0 hx hZ hown (hw _ (List.mem_of_getElem? (i := 8) rfl)) (hw _ (List.mem_of_getElem? (i := 9) rfl)) (hw _ (List.mem_of_getElem? (i := 10) rfl)) e0 (g := (mkF m 1 #[.val (.ref a1)] [(.ref a1)])) rfl (by rw [hml]; rfl) rfl (hb hby d1_1) (by decide) (W := 0) (by show 2 * 0 + _ ≤ _; exact Nat.le_of_eq rfl) (by decide)
  refine oGo.step (f' := (mkF m 4 #[.val (.ref a1)] [])) st1 ?_
  refine o_retV X1 hx hret hlk (hb hby d1_4) (by decide) (by decide) ?_
  exact ⟨rfl, rfl, e1⟩
theorem d7_0 : decode prog_155_method_3_code 0 = .ok (.iconst (-1), 1) := by decide +kernel
theorem d7_1 : decode prog_155_method_3_code 1 = .ok (.istore_n 2, 1) := by decide +kernel
theorem d7_2 : decode prog_155_method_3_code 2 = .ok (.aload_n 0, 1) := by decide +kernel
theorem d7_3 : decode prog_155_method_3_code 3 = .ok (.getfield 14, 3) := by decide +kernel
theorem d7_6 : decode prog_155_method_3_code 6 = .ok (.ifCond .le 146, 3) := by decide +kernel
theorem d7_9 : decode prog_155_method_3_code 9 = .ok (.iload_n 1, 1) := by decide +kernel
theorem d7_10 : decode prog_155_method_3_code 10 = .ok (.sipush 192, 3) := by decide +kernel
theorem d7_13 : decode prog_155_method_3_code 13 = .ok (.iand, 1) := by decide +kernel
theorem d7_14 : decode prog_155_method_3_code 14 = .ok (.sipush 128, 3) := by decide +kernel
theorem d7_17 : decode prog_155_method_3_code 17 = .ok (.if_icmp .ne 135, 3) := by decide +kernel
theorem d7_20 : decode prog_155_method_3_code 20 = .ok (.aload_n 0, 1) := by decide +kernel
theorem d7_21 : decode prog_155_method_3_code 21 = .ok (.aload_n 0, 1) := by decide +kernel
theorem d7_22 : decode prog_155_method_3_code 22 = .ok (.getfield 26, 3) := by decide +kernel
theorem d7_25 : decode prog_155_method_3_code 25 = .ok (.bipush 6, 2) := by decide +kernel
theorem d7_27 : decode prog_155_method_3_code 27 = .ok (.ishl, 1) := by decide +kernel
theorem d7_28 : decode prog_155_method_3_code 28 = .ok (.iload_n 1, 1) := by decide +kernel
theorem d7_29 : decode prog_155_method_3_code 29 = .ok (.bipush 63, 2) := by decide +kernel
theorem d7_31 : decode prog_155_method_3_code 31 = .ok (.iand, 1) := by decide +kernel
theorem d7_32 : decode prog_155_method_3_code 32 = .ok (.ior, 1) := by decide +kernel
theorem d7_33 : decode prog_155_method_3_code 33 = .ok (.putfield 26, 3) := by decide +kernel
theorem d7_36 : decode prog_155_method_3_code 36 = .ok (.aload_n 0, 1) := by decide +kernel
theorem d7_37 : decode prog_155_method_3_code 37 = .ok (.dup, 1) := by decide +kernel
theorem d7_38 : decode prog_155_method_3_code 38 = .ok (.getfield 29, 3) := by decide +kernel
theorem d7_41 : decode prog_155_method_3_code 41 = .ok (.iconst 1, 1) := by decide +kernel
theorem d7_42 : decode prog_155_method_3_code 42 = .ok (.iadd, 1) := by decide +kernel
theorem d7_43 : decode prog_155_method_3_code 43 = .ok (.putfield 29, 3) := by decide +kernel
theorem d7_46 : decode prog_155_method_3_code 46 = .ok (.aload_n 0, 1) := by decide +kernel
theorem d7_47 : decode prog_155_method_3_code 47 = .ok (.dup, 1) := by decide +kernel
theorem d7_48 : decode prog_155_method_3_code 48 = .ok (.getfield 14, 3) := by decide +kernel
theorem d7_51 : decode prog_155_method_3_code 51 = .ok (.iconst 1, 1) := by decide +kernel
theorem d7_52 : decode prog_155_method_3_code 52 = .ok (.isub, 1) := by decide +kernel
theorem d7_53 : decode prog_155_method_3_code 53 = .ok (.putfield 14, 3) := by decide +kernel
theorem d7_56 : decode prog_155_method_3_code 56 = .ok (.aload_n 0, 1) := by decide +kernel
theorem d7_57 : decode prog_155_method_3_code 57 = .ok (.getfield 14, 3) := by decide +kernel
theorem d7_60 : decode prog_155_method_3_code 60 = .ok (.ifCond .ne 206, 3) := by decide +kernel
theorem d7_63 : decode prog_155_method_3_code 63 = .ok (.aload_n 0, 1) := by decide +kernel
theorem d7_64 : decode prog_155_method_3_code 64 = .ok (.getfield 26, 3) := by decide +kernel
theorem d7_67 : decode prog_155_method_3_code 67 = .ok (.getstatic 32, 3) := by decide +kernel
theorem d7_70 : decode prog_155_method_3_code 70 = .ok (.aload_n 0, 1) := by decide +kernel
theorem d7_71 : decode prog_155_method_3_code 71 = .ok (.getfield 29, 3) := by decide +kernel
theorem d7_74 : decode prog_155_method_3_code 74 = .ok (.iconst 1, 1) := by decide +kernel
theorem d7_75 : decode prog_155_method_3_code 75 = .ok (.isub, 1) := by decide +kernel
theorem d7_76 : decode prog_155_method_3_code 76 = .ok (.iaload, 1) := by decide +kernel
theorem d7_77 : decode prog_155_method_3_code 77 = .ok (.if_icmp .lt 34, 3) := by decide +kernel
theorem d7_80 : decode prog_155_method_3_code 80 = .ok (.aload_n 0, 1) := by decide +kernel
theorem d7_81 : decode prog_155_method_3_code 81 = .ok (.getfield 26, 3) := by decide +kernel
theorem d7_84 : decode prog_155_method_3_code 84 = .ok (.ldc 38, 2) := by decide +kernel
theorem d7_86 : decode prog_155_method_3_code 86 = .ok (.if_icmp .gt 25, 3) := by decide +kernel
theorem d7_89 : decode prog_155_method_3_code 89 = .ok (.aload_n 0, 1) := by decide +kernel
theorem d7_90 : decode prog_155_method_3_code 90 = .ok (.getfield 26, 3) := by decide +kernel
theorem d7_93 : decode prog_155_method_3_code 93 = .ok (.ldc 39, 2) := by decide +kernel
theorem d7_95 : decode prog_155_method_3_code 95 = .ok (.if_icmp .lt 12, 3) := by decide +kernel
theorem d7_98 : decode prog_155_method_3_code 98 = .ok (.aload_n 0, 1) := by decide +kernel
theorem d7_99 : decode prog_155_method_3_code 99 = .ok (.getfield 26, 3) := by decide +kernel
theorem d7_102 : decode prog_155_method_3_code 102 = .ok (.ldc 40, 2) := by decide +kernel
theorem d7_104 : decode prog_155_method_3_code 104 = .ok (.if_icmp .le 7, 3) := by decide +kernel
theorem d7_107 : decode prog_155_method_3_code 107 = .ok (.iconst 1, 1) := by decide +kernel
theorem d7_108 : decode prog_155_method_3_code 108 = .ok (.goto 4, 3) := by decide +kernel
theorem d7_111 : decode prog_155_method_3_code 111 = .ok (.iconst 0, 1) := by decide +kernel
theorem d7_112 : decode prog_155_method_3_code 112 = .ok (.istore_n 3, 1) := by decide +kernel
theorem d7_113 : decode prog_155_method_3_code 113 = .ok (.iload_n 3, 1) := by decide +kernel
theorem d7_114 : decode prog_155_method_3_code 114 = .ok (.ifCond .eq 10, 3) := by decide +kernel
theorem d7_117 : decode prog_155_method_3_code 117 = .ok (.aload_n 0, 1) := by decide +kernel
theorem d7_118 : decode prog_155_method_3_code 118 = .ok (.getfield 26, 3) := by decide +kernel
theorem d7_121 : decode prog_155_method_3_code 121 = .ok (.goto 4, 3) := by decide +kernel
theorem d7_124 : decode prog_155_method_3_code 124 = .ok (.iconst (-1), 1) := by decide +kernel
theorem d7_125 : decode prog_155_method_3_code 125 = .ok (.istore_n 2, 1) := by decide +kernel
theorem d7_126 : decode prog_155_method_3_code 126 = .ok (.aload_n 0, 1) := by decide +kernel
theorem d7_127 : decode prog_155_method_3_code 127 = .ok (.dup, 1) := by decide +kernel
theorem d7_128 : decode prog_155_method_3_code 128 = .ok (.getfield 10, 3) := by decide +kernel
theorem d7_131 : decode prog_155_method_3_code 131 = .ok (.iload_n 3, 1) := by decide +kernel
theorem d7_132 : decode prog_155_method_3_code 132 = .ok (.ifCond .ne 7, 3) := by decide +kernel
theorem d7_135 : decode prog_155_method_3_code 135 = .ok (.iconst 1, 1) := by decide +kernel
theorem d7_136 : decode prog_155_method_3_code 136 = .ok (.goto 4, 3) := by decide +kernel
theorem d7_139 : decode prog_155_method_3_code 139 = .ok (.iconst 0, 1) := by decide +kernel
theorem d7_140 : decode prog_155_method_3_code 140 = .ok (.ior, 1) := by decide +kernel
theorem d7_141 : decode prog_155_method_3_code 141 = .ok (.putfield 10, 3) := by decide +kernel
theorem d7_144 : decode prog_155_method_3_code 144 = .ok (.aload_n 0, 1) := by decide +kernel
theorem d7_145 : decode prog_155_method_3_code 145 = .ok (.iconst 0, 1) := by decide +kernel
theorem d7_146 : decode prog_155_method_3_code 146 = .ok (.putfield 29, 3) := by decide +kernel
theorem d7_149 : decode prog_155_method_3_code 149 = .ok (.goto 117, 3) := by decide +kernel
theorem d7_152 : decode prog_155_method_3_code 152 = .ok (.aload_n 0, 1) := by decide +kernel
theorem d7_153 : decode prog_155_method_3_code 153 = .ok (.dup, 1) := by decide +kernel
theorem d7_154 : decode prog_155_method_3_code 154 = .ok (.getfield 10, 3) := by decide +kernel
theorem d7_157 : decode prog_155_method_3_code 157 = .ok (.aload_n 0, 1) := by decide +kernel
theorem d7_158 : decode prog_155_method_3_code 158 = .ok (.getfield 14, 3) := by decide +kernel
theorem d7_161 : decode prog_155_method_3_code 161 = .ok (.ifCond .le 7, 3) := by decide +kernel
theorem d7_164 : decode prog_155_method_3_code 164 = .ok (.iconst 1, 1) := by decide +kernel
theorem d7_165 : decode prog_155_method_3_code 165 = .ok (.goto 4, 3) := by decide +kernel
theorem d7_168 : decode prog_155_method_3_code 168 = .ok (.iconst 0, 1) := by decide +kernel
theorem d7_169 : decode prog_155_method_3_code 169 = .ok (.ior, 1) := by decide +kernel
theorem d7_170 : decode prog_155_method_3_code 170 = .ok (.putfield 10, 3) := by decide +kernel
theorem d7_173 : decode prog_155_method_3_code 173 = .ok (.aload_n 0, 1) := by decide +kernel
theorem d7_174 : decode prog_155_method_3_code 174 = .ok (.iconst 0, 1) := by decide +kernel
theorem d7_175 : decode prog_155_method_3_code 175 = .ok (.putfield 14, 3) := by decide +kernel
theorem d7_178 : decode prog_155_method_3_code 178 = .ok (.aload_n 0, 1) := by decide +kernel
theorem d7_179 : decode prog_155_method_3_code 179 = .ok (.iconst 0, 1) := by decide +kernel
theorem d7_180 : decode prog_155_method_3_code 180 = .ok (.putfield 29, 3) := by decide +kernel
theorem d7_183 : decode prog_155_method_3_code 183 = .ok (.iload_n 1, 1) := by decide +kernel
theorem d7_184 : decode prog_155_method_3_code 184 = .ok (.sipush 128, 3) := by decide +kernel
theorem d7_187 : decode prog_155_method_3_code 187 = .ok (.if_icmp .ge 8, 3) := by decide +kernel
theorem d7_190 : decode prog_155_method_3_code 190 = .ok (.iload_n 1, 1) := by decide +kernel
theorem d7_191 : decode prog_155_method_3_code 191 = .ok (.istore_n 2, 1) := by decide +kernel
theorem d7_192 : decode prog_155_method_3_code 192 = .ok (.goto 74, 3) := by decide +kernel
theorem d7_195 : decode prog_155_method_3_code 195 = .ok (.iload_n 1, 1) := by decide +kernel
theorem d7_196 : decode prog_155_method_3_code 196 = .ok (.sipush 192, 3) := by decide +kernel
theorem d7_199 : decode prog_155_method_3_code 199 = .ok (.if_icmp .lt 10, 3) := by decide +kernel
theorem d7_202 : decode prog_155_method_3_code 202 = .ok (.iload_n 1, 1) := by decide +kernel
theorem d7_203 : decode prog_155_method_3_code 203 = .ok (.sipush 247, 3) := by decide +kernel
theorem d7_206 : decode prog_155_method_3_code 206 = .ok (.if_icmp .le 11, 3) := by decide +kernel
theorem d7_209 : decode prog_155_method_3_code 209 = .ok (.aload_n 0, 1) := by decide +kernel
theorem d7_210 : decode prog_155_method_3_code 210 = .ok (.iconst 1, 1) := by decide +kernel
theorem d7_211 : decode prog_155_method_3_code 211 = .ok (.putfield 10, 3) := by decide +kernel
theorem d7_214 : decode prog_155_method_3_code 214 = .ok (.goto 52, 3) := by decide +kernel
theorem d7_217 : decode prog_155_method_3_code 217 = .ok (.aload_n 0, 1) := by decide +kernel
theorem d7_218 : decode prog_155_method_3_code 218 = .ok (.iconst 1, 1) := by decide +kernel
theorem d7_219 : decode prog_155_method_3_code 219 = .ok (.iload_n 1, 1) := by decide +kernel
theorem d7_220 : decode prog_155_method_3_code 220 = .ok (.sipush 224, 3) := by decide +kernel
theorem d7_223 : decode prog_155_method_3_code 223 = .ok (.if_icmp .lt 7, 3) := by decide +kernel
theorem d7_226 : decode prog_155_method_3_code 226 = .ok (.iconst 1, 1) := by decide +kernel
theorem d7_227 : decode prog_155_method_3_code 227 = .ok (.goto 4, 3) := by decide +kernel
theorem d7_230 : decode prog_155_method_3_code 230 = .ok (.iconst 0, 1) := by decide +kernel
theorem d7_231 : decode prog_155_method_3_code 231 = .ok (.iadd, 1) := by decide +kernel
theorem d7_232 : decode prog_155_method_3_code 232 = .ok (.iload_n 1, 1) := by decide +kernel
theorem d7_233 : decode prog_155_method_3_code 233 = .ok (.sipush 240, 3) := by decide +kernel
theorem d7_236 : decode prog_155_method_3_code 236 = .ok (.if_icmp .lt 7, 3) := by decide +kernel
theorem d7_239 : decode prog_155_method_3_code 239 = .ok (.iconst 1, 1) := by decide +kernel
theorem d7_240 : decode prog_155_method_3_code 240 = .ok (.goto 4, 3) := by decide +kernel
theorem d7_243 : decode prog_155_method_3_code 243 = .ok (.iconst 0, 1) := by decide +kernel
theorem d7_244 : decode prog_155_method_3_code 244 = .ok (.iadd, 1) := by decide +kernel
theorem d7_245 : decode prog_155_method_3_code 245 = .ok (.putfield 14, 3) := by decide +kernel
theorem d7_248 : decode prog_155_method_3_code 248 = .ok (.aload_n 0, 1) := by decide +kernel
theorem d7_249 : decode prog_155_method_3_code 249 = .ok (.iload_n 1, 1) := by decide +kernel
theorem d7_250 : decode prog_155_method_3_code 250 = .ok (.bipush 63, 2) := by decide +kernel
theorem d7_252 : decode prog_155_method_3_code 252 = .ok (.aload_n 0, 1) := by decide +kernel
theorem d7_253 : decode prog_155_method_3_code 253 = .ok (.getfield 14, 3) := by decide +kernel
theorem d7_256 : decode prog_155_method_3_code 256 = .ok (.ishr, 1) := by decide +kernel
theorem d7_257 : decode prog_155_method_3_code 257 = .ok (.iand, 1) := by decide +kernel
theorem d7_258 : decode prog_155_method_3_code 258 = .ok (.putfield 26, 3) := by decide +kernel
theorem d7_261 : decode prog_155_method_3_code 261 = .ok (.aload_n 0, 1) := by decide +kernel
theorem d7_262 : decode prog_155_method_3_code 262 = .ok (.iconst 1, 1) := by decide +kernel
theorem d7_263 : decode prog_155_method_3_code 263 = .ok (.putfield 29, 3) := by decide +kernel
theorem d7_266 : decode prog_155_method_3_code 266 = .ok (.iload_n 2, 1) := by decide +kernel
theorem d7_267 : decode prog_155_method_3_code 267 = .ok (.ireturn, 1) := by decide +kernel
theorem ef7 (m : MethodId) (a1 : Addr) (x1 : Int32) : entryFrame m #[(.ref a1), (.int x1)] 4 = mkF m 0 #[.val (.ref a1), .val (.int x1), .unset, .unset] [] := by first | (simp [entryFrame, mkF, argsToLocals, Value.category]; done) | rfl
def spec7 (x1 : Int32) (f_codePoint : Int32) (f_lacking : Int32) (f_given : Int32) : Int32 := (if 0 < f_lacking then (if (x1 &&& (192 : Int32)) = (128 : Int32) then (if (f_lacking - (1 : Int32)) = 0 then (if (if ((f_codePoint <<< ((6 : Int32) &&& 31)) ||| (x1 &&& (63 : Int32))) < (oLeast f_given) then (0 : Int32) else (if (1114111 : Int32) < ((f_codePoint <<< ((6 : Int32) &&& 31)) ||| (x1 &&& (63 : Int32))) then (0 : Int32) else (if ((f_codePoint <<< ((6 : Int32) &&& 31)) ||| (x1 &&& (63 : Int32))) < (55296 : Int32) then (1 : Int32) else (if (57343 : Int32) < ((f_codePoint <<< ((6 : Int32) &&& 31)) ||| (x1 &&& (63 : Int32))) then (1 : Int32) else (0 : Int32))))) = 0 then (-1 : Int32) else ((f_codePoint <<< ((6 : Int32) &&& 31)) ||| (x1 &&& (63 : Int32)))) else (-1 : Int32)) else (if x1 < (128 : Int32) then x1 else (-1 : Int32))) else (if x1 < (128 : Int32) then x1 else (-1 : Int32)))
def fld7_codePoint (x1 : Int32) (f_codePoint : Int32) (f_lacking : Int32) : Int32 := (if 0 < f_lacking then (if (x1 &&& (192 : Int32)) = (128 : Int32) then ((f_codePoint <<< ((6 : Int32) &&& 31)) ||| (x1 &&& (63 : Int32))) else (if x1 < (128 : Int32) then f_codePoint else (if x1 < (192 : Int32) then f_codePoint else (if (247 : Int32) < x1 then f_codePoint else (x1 &&& ((63 : Int32) >>> ((((1 : Int32) + (if x1 < (224 : Int32) then (0 : Int32) else (1 : Int32))) + (if x1 < (240 : Int32) then (0 : Int32) else (1 : Int32))) &&& 31))))))) else (if x1 < (128 : Int32) then f_codePoint else (if x1 < (192 : Int32) then f_codePoint else (if (247 : Int32) < x1 then f_codePoint else (x1 &&& ((63 : Int32) >>> ((((1 : Int32) + (if x1 < (224 : Int32) then (0 : Int32) else (1 : Int32))) + (if x1 < (240 : Int32) then (0 : Int32) else (1 : Int32))) &&& 31)))))))
def fld7_lacking (x1 : Int32) (f_lacking : Int32) : Int32 := (if 0 < f_lacking then (if (x1 &&& (192 : Int32)) = (128 : Int32) then (f_lacking - (1 : Int32)) else (if x1 < (128 : Int32) then (0 : Int32) else (if x1 < (192 : Int32) then (0 : Int32) else (if (247 : Int32) < x1 then (0 : Int32) else (((1 : Int32) + (if x1 < (224 : Int32) then (0 : Int32) else (1 : Int32))) + (if x1 < (240 : Int32) then (0 : Int32) else (1 : Int32))))))) else (if x1 < (128 : Int32) then (0 : Int32) else (if x1 < (192 : Int32) then (0 : Int32) else (if (247 : Int32) < x1 then (0 : Int32) else (((1 : Int32) + (if x1 < (224 : Int32) then (0 : Int32) else (1 : Int32))) + (if x1 < (240 : Int32) then (0 : Int32) else (1 : Int32)))))))
def fld7_given (x1 : Int32) (f_lacking : Int32) (f_given : Int32) : Int32 := (if 0 < f_lacking then (if (x1 &&& (192 : Int32)) = (128 : Int32) then (if (f_lacking - (1 : Int32)) = 0 then (0 : Int32) else (f_given + (1 : Int32))) else (if x1 < (128 : Int32) then (0 : Int32) else (if x1 < (192 : Int32) then (0 : Int32) else (if (247 : Int32) < x1 then (0 : Int32) else (1 : Int32))))) else (if x1 < (128 : Int32) then (0 : Int32) else (if x1 < (192 : Int32) then (0 : Int32) else (if (247 : Int32) < x1 then (0 : Int32) else (1 : Int32)))))
def fld7_malformed (x1 : Int32) (f_codePoint : Int32) (f_lacking : Int32) (f_given : Int32) (f_malformed : Int32) : Int32 := (if 0 < f_lacking then (if (x1 &&& (192 : Int32)) = (128 : Int32) then (if (f_lacking - (1 : Int32)) = 0 then (f_malformed ||| (if (if ((f_codePoint <<< ((6 : Int32) &&& 31)) ||| (x1 &&& (63 : Int32))) < (oLeast f_given) then (0 : Int32) else (if (1114111 : Int32) < ((f_codePoint <<< ((6 : Int32) &&& 31)) ||| (x1 &&& (63 : Int32))) then (0 : Int32) else (if ((f_codePoint <<< ((6 : Int32) &&& 31)) ||| (x1 &&& (63 : Int32))) < (55296 : Int32) then (1 : Int32) else (if (57343 : Int32) < ((f_codePoint <<< ((6 : Int32) &&& 31)) ||| (x1 &&& (63 : Int32))) then (1 : Int32) else (0 : Int32))))) = 0 then (1 : Int32) else (0 : Int32))) else f_malformed) else (if x1 < (128 : Int32) then (f_malformed ||| (1 : Int32)) else (if x1 < (192 : Int32) then (1 : Int32) else (if (247 : Int32) < x1 then (1 : Int32) else (f_malformed ||| (1 : Int32)))))) else (if x1 < (128 : Int32) then (f_malformed ||| (0 : Int32)) else (if x1 < (192 : Int32) then (1 : Int32) else (if (247 : Int32) < x1 then (1 : Int32) else (f_malformed ||| (0 : Int32))))))
def room7 : Room := { frames := 0, cells := 0, slots := 0, locals := 0 }
set_option maxRecDepth 65536 in
set_option maxHeartbeats 40000000 in
theorem rm7 (l : Launch) (Z : State) (a0 : Array Value) (hw : ∀ d ∈ tables_1, d.before a0 Z = true) (a1 : Addr) (x1 : Int32) (f_codePoint : Int32) (f_lacking : Int32) (f_given : Int32) (f_malformed : Int32) (r_LEAST : Addr) (h0 : Heap) (n0 : Nat) (Z0 : n0 ≤ h0.size) (E0 : Exa Z h0 a1 "com/example/harborlog/harborlog/Utf8Decoder") (F_codePoint : Fld Z h0 a1 "com/example/harborlog/harborlog/Utf8Decoder" "codePoint" "I" (.int f_codePoint)) (F_lacking : Fld Z h0 a1 "com/example/harborlog/harborlog/Utf8Decoder" "lacking" "I" (.int f_lacking)) (F_given : Fld Z h0 a1 "com/example/harborlog/harborlog/Utf8Decoder" "given" "I" (.int f_given)) (F_malformed : Fld Z h0 a1 "com/example/harborlog/harborlog/Utf8Decoder" "malformed" "Z" (.int f_malformed)) (ga : n0 ≤ a1) (hI : oInv f_lacking f_given f_malformed) (O0 : Old Z n0 h0) (S_LEAST : Sta Z Z.heap "com/example/harborlog/harborlog/Utf8Decoder" "LEAST" "[I" (.ref r_LEAST)) (A_LEAST : oInts Z Z.heap r_LEAST [(0 : Int32), 128, 2048, 65536]) :
    oCon l Z (⟨"com/example/harborlog/harborlog/Utf8Decoder", "next", "(I)I"⟩ : MethodName) prog_155_method_3_code 4 (some .int) room7 #[(.ref a1), (.int x1)] h0 (fun v h L => v = some (.int (spec7 x1 f_codePoint f_lacking f_given)) ∧ Fr n0 L ∧ Keep h0 h [a1] ∧ Exa Z h a1 "com/example/harborlog/harborlog/Utf8Decoder" ∧ Fld Z h a1 "com/example/harborlog/harborlog/Utf8Decoder" "codePoint" "I" (.int (fld7_codePoint x1 f_codePoint f_lacking)) ∧ Fld Z h a1 "com/example/harborlog/harborlog/Utf8Decoder" "lacking" "I" (.int (fld7_lacking x1 f_lacking)) ∧ Fld Z h a1 "com/example/harborlog/harborlog/Utf8Decoder" "given" "I" (.int (fld7_given x1 f_lacking f_given)) ∧ Fld Z h a1 "com/example/harborlog/harborlog/Utf8Decoder" "malformed" "Z" (.int (fld7_malformed x1 f_codePoint f_lacking f_given f_malformed))) := by
  refine oCon.of (plainFor_of_name pn_1) ?_
  intro p e s m below meth c s₁ hx hby hml hown hnm hret hlk hZ X0 e0
  rw [ef7 m a1 x1]
  have N0 := Fr.nil n0
  have K0 := Keep.refl h0 [a1]
  refine o_iconst (pc' := 1) (v := (-1 : Int32)) X0 hx (hb hby d7_0) rfl rfl ?_
  refine o_istoreN (pc' := 2) (l' := #[.val (.ref a1), .val (.int x1), .val (.int (-1 : Int32)), .unset]) X0 hx (hb hby d7_1) rfl rfl ?_
  refine o_aloadN (pc' := 3) X0 hx (hb hby d7_2) rfl rfl rfl ?_
  obtain ⟨T1, X1, e1, st1⟩ := getF X0 hx hZ hown (host := "") (Or.inl (hw _ (List.mem_of_getElem? (i := 25) rfl))) Via.refl e0 F_lacking (g := (mkF m 3 #[.val (.ref a1), .val (.int x1), .val (.int (-1 : Int32)), .unset] [(.ref a1)])) rfl rfl (hb hby d7_3)
  refine oGo.step (f' := (mkF m 6 #[.val (.ref a1), .val (.int x1), .val (.int (-1 : Int32)), .unset] [(.int f_lacking)])) st1 ?_
  have J3 : ∀ (T299 : State) (h299_ : Heap) (L299 : List Loc) (X299 : Stand p l e room7 s m #[(.ref a1), (.int x1)] below meth c T299 L299 (0) (0)) (e299 : T299.heap = h299_) (N299 : Fr n0 L299) (Z299 : n0 ≤ h299_.size) (K299_ : Keep h0 h299_ [a1]) (u288 : Slot) (hu288 : One u288) (v287 : Int32) (v292 : Int32) (v294 : Int32) (v296 : Int32) (v298 : Int32), v287 = (if 0 < f_lacking then (if (x1 &&& (192 : Int32)) = (128 : Int32) then (if (f_lacking - (1 : Int32)) = 0 then (if (if ((f_codePoint <<< ((6 : Int32) &&& 31)) ||| (x1 &&& (63 : Int32))) < (oLeast f_given) then (0 : Int32) else (if (1114111 : Int32) < ((f_codePoint <<< ((6 : Int32) &&& 31)) ||| (x1 &&& (63 : Int32))) then (0 : Int32) else (if ((f_codePoint <<< ((6 : Int32) &&& 31)) ||| (x1 &&& (63 : Int32))) < (55296 : Int32) then (1 : Int32) else (if (57343 : Int32) < ((f_codePoint <<< ((6 : Int32) &&& 31)) ||| (x1 &&& (63 : Int32))) then (1 : Int32) else (0 : Int32))))) = 0 then (-1 : Int32) else ((f_codePoint <<< ((6 : Int32) &&& 31)) ||| (x1 &&& (63 : Int32)))) else (-1 : Int32)) else (if x1 < (128 : Int32) then x1 else (-1 : Int32))) else (if x1 < (128 : Int32) then x1 else (-1 : Int32))) → v292 = (if 0 < f_lacking then (if (x1 &&& (192 : Int32)) = (128 : Int32) then ((f_codePoint <<< ((6 : Int32) &&& 31)) ||| (x1 &&& (63 : Int32))) else (if x1 < (128 : Int32) then f_codePoint else (if x1 < (192 : Int32) then f_codePoint else (if (247 : Int32) < x1 then f_codePoint else (x1 &&& ((63 : Int32) >>> ((((1 : Int32) + (if x1 < (224 : Int32) then (0 : Int32) else (1 : Int32))) + (if x1 < (240 : Int32) then (0 : Int32) else (1 : Int32))) &&& 31))))))) else (if x1 < (128 : Int32) then f_codePoint else (if x1 < (192 : Int32) then f_codePoint else (if (247 : Int32) < x1 then f_codePoint else (x1 &&& ((63 : Int32) >>> ((((1 : Int32) + (if x1 < (224 : Int32) then (0 : Int32) else (1 : Int32))) + (if x1 < (240 : Int32) then (0 : Int32) else (1 : Int32))) &&& 31))))))) → v294 = (if 0 < f_lacking then (if (x1 &&& (192 : Int32)) = (128 : Int32) then (f_lacking - (1 : Int32)) else (if x1 < (128 : Int32) then (0 : Int32) else (if x1 < (192 : Int32) then (0 : Int32) else (if (247 : Int32) < x1 then (0 : Int32) else (((1 : Int32) + (if x1 < (224 : Int32) then (0 : Int32) else (1 : Int32))) + (if x1 < (240 : Int32) then (0 : Int32) else (1 : Int32))))))) else (if x1 < (128 : Int32) then (0 : Int32) else (if x1 < (192 : Int32) then (0 : Int32) else (if (247 : Int32) < x1 then (0 : Int32) else (((1 : Int32) + (if x1 < (224 : Int32) then (0 : Int32) else (1 : Int32))) + (if x1 < (240 : Int32) then (0 : Int32) else (1 : Int32))))))) → v296 = (if 0 < f_lacking then (if (x1 &&& (192 : Int32)) = (128 : Int32) then (if (f_lacking - (1 : Int32)) = 0 then (0 : Int32) else (f_given + (1 : Int32))) else (if x1 < (128 : Int32) then (0 : Int32) else (if x1 < (192 : Int32) then (0 : Int32) else (if (247 : Int32) < x1 then (0 : Int32) else (1 : Int32))))) else (if x1 < (128 : Int32) then (0 : Int32) else (if x1 < (192 : Int32) then (0 : Int32) else (if (247 : Int32) < x1 then (0 : Int32) else (1 : Int32))))) → v298 = (if 0 < f_lacking then (if (x1 &&& (192 : Int32)) = (128 : Int32) then (if (f_lacking - (1 : Int32)) = 0 then (f_malformed ||| (if (if ((f_codePoint <<< ((6 : Int32) &&& 31)) ||| (x1 &&& (63 : Int32))) < (oLeast f_given) then (0 : Int32) else (if (1114111 : Int32) < ((f_codePoint <<< ((6 : Int32) &&& 31)) ||| (x1 &&& (63 : Int32))) then (0 : Int32) else (if ((f_codePoint <<< ((6 : Int32) &&& 31)) ||| (x1 &&& (63 : Int32))) < (55296 : Int32) then (1 : Int32) else (if (57343 : Int32) < ((f_codePoint <<< ((6 : Int32) &&& 31)) ||| (x1 &&& (63 : Int32))) then (1 : Int32) else (0 : Int32))))) = 0 then (1 : Int32) else (0 : Int32))) else f_malformed) else (if x1 < (128 : Int32) then (f_malformed ||| (1 : Int32)) else (if x1 < (192 : Int32) then (1 : Int32) else (if (247 : Int32) < x1 then (1 : Int32) else (f_malformed ||| (1 : Int32)))))) else (if x1 < (128 : Int32) then (f_malformed ||| (0 : Int32)) else (if x1 < (192 : Int32) then (1 : Int32) else (if (247 : Int32) < x1 then (1 : Int32) else (f_malformed ||| (0 : Int32)))))) → Old Z n0 h299_ → Exa Z h299_ a1 "com/example/harborlog/harborlog/Utf8Decoder" → Fld Z h299_ a1 "com/example/harborlog/harborlog/Utf8Decoder" "codePoint" "I" (.int v292) → Fld Z h299_ a1 "com/example/harborlog/harborlog/Utf8Decoder" "lacking" "I" (.int v294) → Fld Z h299_ a1 "com/example/harborlog/harborlog/Utf8Decoder" "given" "I" (.int v296) → Fld Z h299_ a1 "com/example/harborlog/harborlog/Utf8Decoder" "malformed" "Z" (.int v298) → oGo p e below (oG s (fun v h L => v = some (.int (spec7 x1 f_codePoint f_lacking f_given)) ∧ Fr n0 L ∧ Keep h0 h [a1] ∧ Exa Z h a1 "com/example/harborlog/harborlog/Utf8Decoder" ∧ Fld Z h a1 "com/example/harborlog/harborlog/Utf8Decoder" "codePoint" "I" (.int (fld7_codePoint x1 f_codePoint f_lacking)) ∧ Fld Z h a1 "com/example/harborlog/harborlog/Utf8Decoder" "lacking" "I" (.int (fld7_lacking x1 f_lacking)) ∧ Fld Z h a1 "com/example/harborlog/harborlog/Utf8Decoder" "given" "I" (.int (fld7_given x1 f_lacking f_given)) ∧ Fld Z h a1 "com/example/harborlog/harborlog/Utf8Decoder" "malformed" "Z" (.int (fld7_malformed x1 f_codePoint f_lacking f_given f_malformed))) room7.cells room7.slots) T299 (mkF m 266 #[.val (.ref a1), .val (.int x1), .val (.int v287), u288] []) := by
    intro T299 h299_ L299 X299 e299 N299 Z299 K299_ u288 hu288 v287 v292 v294 v296 v298 hv287 hv292 hv294 hv296 hv298 F289 F290 F291 F293 F295 F297
    refine o_iloadN (pc' := 267) X299 hx (hb hby d7_266) rfl rfl ?_
    refine o_retI X299 hx hret hlk (hb hby d7_267) (by decide) (by decide) ?_
    subst hv298 hv296 hv294 hv292 hv287
    rw [e299]
    exact ⟨rfl, N299, K299_, F290, F291, F293, F295, F297⟩
  by_cases c2 : 0 < f_lacking
  · refine o_ifF (pc' := 9) X1 hx (hb hby d7_6) (XT.i0_le_f c2) rfl ?_
    refine o_iloadN (pc' := 10) X1 hx (hb hby d7_9) rfl rfl ?_
    refine o_sipush (pc' := 13) (v := (192 : Int32)) X1 hx (hb hby d7_10) rfl rfl ?_
    refine o_iand (pc' := 14) X1 hx (hb hby d7_13)  rfl ?_
    refine o_sipush (pc' := 17) (v := (128 : Int32)) X1 hx (hb hby d7_14) rfl rfl ?_
    by_cases c4 : (x1 &&& (192 : Int32)) = (128 : Int32)
    · refine o_icmpF (pc' := 20) X1 hx (hb hby d7_17) (XT.ii_ne_f c4) rfl ?_
      refine o_aloadN (pc' := 21) X1 hx (hb hby d7_20) rfl rfl rfl ?_
      refine o_aloadN (pc' := 22) X1 hx (hb hby d7_21) rfl rfl rfl ?_
      obtain ⟨T5, X5, e5, st5⟩ := getF X1 hx hZ hown (host := "") (Or.inl (hw _ (List.mem_of_getElem? (i := 27) rfl))) Via.refl e1 F_codePoint (g := (mkF m 22 #[.val (.ref a1), .val (.int x1), .val (.int (-1 : Int32)), .unset] [(.ref a1), (.ref a1)])) rfl rfl (hb hby d7_22)
      refine oGo.step (f' := (mkF m 25 #[.val (.ref a1), .val (.int x1), .val (.int (-1 : Int32)), .unset] [(.int f_codePoint), (.ref a1)])) st5 ?_
      refine o_bipush (pc' := 27) (v := (6 : Int32)) X5 hx (hb hby d7_25) rfl rfl ?_
      refine o_ishl (pc' := 28) X5 hx (hb hby d7_27)  rfl ?_
      refine o_iloadN (pc' := 29) X5 hx (hb hby d7_28) rfl rfl ?_
      refine o_bipush (pc' := 31) (v := (63 : Int32)) X5 hx (hb hby d7_29) rfl rfl ?_
      refine o_iand (pc' := 32) X5 hx (hb hby d7_31)  rfl ?_
      refine o_ior (pc' := 33) X5 hx (hb hby d7_32)  rfl ?_
      obtain ⟨T6, h6_, X6, e6, W6, st6⟩ := putF X5 hx hZ hown (host := "") (Or.inl (hw _ (List.mem_of_getElem? (i := 27) rfl))) Via.refl e5 F_codePoint E0 (Or.inl (hw _ (List.mem_of_getElem? (i := 28) rfl))) (hw _ (List.mem_of_getElem? (i := 3) rfl)) (ty := .int) (by decide) rfl rfl (g := (mkF m 33 #[.val (.ref a1), .val (.int x1), .val (.int (-1 : Int32)), .unset] [(.int ((f_codePoint <<< ((6 : Int32) &&& 31)) ||| (x1 &&& (63 : Int32)))), (.ref a1)])) rfl rfl (hb hby d7_33)
      refine oGo.step (f' := (mkF m 36 #[.val (.ref a1), .val (.int x1), .val (.int (-1 : Int32)), .unset] [])) st6 ?_
      have N6 := Fr.snoc X6 N0 ga
      have F7 := O0.wr W6 ga
      have F10 := E0.wr W6
      have F11 := F_codePoint.same W6
      have F12 := F_lacking.other W6 (Or.inr (slot_ne (Or.inl (hw _ (List.mem_of_getElem? (i := 26) rfl))) (Or.inl (hw _ (List.mem_of_getElem? (i := 28) rfl))) (by decide) (t := .int) (t' := .int) (by decide) (by decide)))
      have F13 := F_given.other W6 (Or.inr (slot_ne (Or.inl (hw _ (List.mem_of_getElem? (i := 30) rfl))) (Or.inl (hw _ (List.mem_of_getElem? (i := 28) rfl))) (by decide) (t := .int) (t' := .int) (by decide) (by decide)))
      have F14 := F_malformed.other W6 (Or.inr (slot_ne (Or.inl (hw _ (List.mem_of_getElem? (i := 24) rfl))) (Or.inl (hw _ (List.mem_of_getElem? (i := 28) rfl))) (by decide) (t := .boolean) (t' := .int) (by decide) (by decide)))
      have K15 := K0.wr W6 (Or.inl (List.mem_of_getElem? (i := 0) rfl))
      have Z16 := Nat.le_trans Z0 (Keep.of_wr W6).1
      refine o_aloadN (pc' := 37) X6 hx (hb hby d7_36) rfl rfl rfl ?_
      refine o_dup (pc' := 38) X6 hx (hb hby d7_37) rfl rfl ?_
      obtain ⟨T17, X17, e17, st17⟩ := getF X6 hx hZ hown (host := "") (Or.inl (hw _ (List.mem_of_getElem? (i := 29) rfl))) Via.refl e6 F13 (g := (mkF m 38 #[.val (.ref a1), .val (.int x1), .val (.int (-1 : Int32)), .unset] [(.ref a1), (.ref a1)])) rfl rfl (hb hby d7_38)
      refine oGo.step (f' := (mkF m 41 #[.val (.ref a1), .val (.int x1), .val (.int (-1 : Int32)), .unset] [(.int f_given), (.ref a1)])) st17 ?_
      refine o_iconst (pc' := 42) (v := (1 : Int32)) X17 hx (hb hby d7_41) rfl rfl ?_
      refine o_iadd (pc' := 43) X17 hx (hb hby d7_42)  rfl ?_
      obtain ⟨T18, h18_, X18, e18, W18, st18⟩ := putF X17 hx hZ hown (host := "") (Or.inl (hw _ (List.mem_of_getElem? (i := 29) rfl))) Via.refl e17 F13 F10 (Or.inl (hw _ (List.mem_of_getElem? (i := 30) rfl))) (hw _ (List.mem_of_getElem? (i := 3) rfl)) (ty := .int) (by decide) rfl rfl (g := (mkF m 43 #[.val (.ref a1), .val (.int x1), .val (.int (-1 : Int32)), .unset] [(.int (f_given + (1 : Int32))), (.ref a1)])) rfl rfl (hb hby d7_43)
      refine oGo.step (f' := (mkF m 46 #[.val (.ref a1), .val (.int x1), .val (.int (-1 : Int32)), .unset] [])) st18 ?_
      have N18 := Fr.snoc X18 N6 ga
      have F19 := F7.wr W18 ga
      have F22 := F10.wr W18
      have F23 := F11.other W18 (Or.inr (slot_ne (Or.inl (hw _ (List.mem_of_getElem? (i := 28) rfl))) (Or.inl (hw _ (List.mem_of_getElem? (i := 30) rfl))) (by decide) (t := .int) (t' := .int) (by decide) (by decide)))
      have F24 := F12.other W18 (Or.inr (slot_ne (Or.inl (hw _ (List.mem_of_getElem? (i := 26) rfl))) (Or.inl (hw _ (List.mem_of_getElem? (i := 30) rfl))) (by decide) (t := .int) (t' := .int) (by decide) (by decide)))
      have F25 := F13.same W18
      have F26 := F14.other W18 (Or.inr (slot_ne (Or.inl (hw _ (List.mem_of_getElem? (i := 24) rfl))) (Or.inl (hw _ (List.mem_of_getElem? (i := 30) rfl))) (by decide) (t := .boolean) (t' := .int) (by decide) (by decide)))
      have K27 := K15.wr W18 (Or.inl (List.mem_of_getElem? (i := 0) rfl))
      have Z28 := Nat.le_trans Z16 (Keep.of_wr W18).1
      refine o_aloadN (pc' := 47) X18 hx (hb hby d7_46) rfl rfl rfl ?_
      refine o_dup (pc' := 48) X18 hx (hb hby d7_47) rfl rfl ?_
      obtain ⟨T29, X29, e29, st29⟩ := getF X18 hx hZ hown (host := "") (Or.inl (hw _ (List.mem_of_getElem? (i := 25) rfl))) Via.refl e18 F24 (g := (mkF m 48 #[.val (.ref a1), .val (.int x1), .val (.int (-1 : Int32)), .unset] [(.ref a1), (.ref a1)])) rfl rfl (hb hby d7_48)
      refine oGo.step (f' := (mkF m 51 #[.val (.ref a1), .val (.int x1), .val (.int (-1 : Int32)), .unset] [(.int f_lacking), (.ref a1)])) st29 ?_
      refine o_iconst (pc' := 52) (v := (1 : Int32)) X29 hx (hb hby d7_51) rfl rfl ?_
      refine o_isub (pc' := 53) X29 hx (hb hby d7_52)  rfl ?_
      obtain ⟨T30, h30_, X30, e30, W30, st30⟩ := putF X29 hx hZ hown (host := "") (Or.inl (hw _ (List.mem_of_getElem? (i := 25) rfl))) Via.refl e29 F24 F22 (Or.inl (hw _ (List.mem_of_getElem? (i := 26) rfl))) (hw _ (List.mem_of_getElem? (i := 3) rfl)) (ty := .int) (by decide) rfl rfl (g := (mkF m 53 #[.val (.ref a1), .val (.int x1), .val (.int (-1 : Int32)), .unset] [(.int (f_lacking - (1 : Int32))), (.ref a1)])) rfl rfl (hb hby d7_53)
      refine oGo.step (f' := (mkF m 56 #[.val (.ref a1), .val (.int x1), .val (.int (-1 : Int32)), .unset] [])) st30 ?_
      have N30 := Fr.snoc X30 N18 ga
      have F31 := F19.wr W30 ga
      have F34 := F22.wr W30
      have F35 := F23.other W30 (Or.inr (slot_ne (Or.inl (hw _ (List.mem_of_getElem? (i := 28) rfl))) (Or.inl (hw _ (List.mem_of_getElem? (i := 26) rfl))) (by decide) (t := .int) (t' := .int) (by decide) (by decide)))
      have F36 := F24.same W30
      have F37 := F25.other W30 (Or.inr (slot_ne (Or.inl (hw _ (List.mem_of_getElem? (i := 30) rfl))) (Or.inl (hw _ (List.mem_of_getElem? (i := 26) rfl))) (by decide) (t := .int) (t' := .int) (by decide) (by decide)))
      have F38 := F26.other W30 (Or.inr (slot_ne (Or.inl (hw _ (List.mem_of_getElem? (i := 24) rfl))) (Or.inl (hw _ (List.mem_of_getElem? (i := 26) rfl))) (by decide) (t := .boolean) (t' := .int) (by decide) (by decide)))
      have K39 := K27.wr W30 (Or.inl (List.mem_of_getElem? (i := 0) rfl))
      have Z40 := Nat.le_trans Z28 (Keep.of_wr W30).1
      refine o_aloadN (pc' := 57) X30 hx (hb hby d7_56) rfl rfl rfl ?_
      obtain ⟨T41, X41, e41, st41⟩ := getF X30 hx hZ hown (host := "") (Or.inl (hw _ (List.mem_of_getElem? (i := 25) rfl))) Via.refl e30 F36 (g := (mkF m 57 #[.val (.ref a1), .val (.int x1), .val (.int (-1 : Int32)), .unset] [(.ref a1)])) rfl rfl (hb hby d7_57)
      refine oGo.step (f' := (mkF m 60 #[.val (.ref a1), .val (.int x1), .val (.int (-1 : Int32)), .unset] [(.int (f_lacking - (1 : Int32)))])) st41 ?_
      by_cases c42 : (f_lacking - (1 : Int32)) = 0
      · refine o_ifF (pc' := 63) X41 hx (hb hby d7_60) (XT.i0_ne_f c42) rfl ?_
        refine o_aloadN (pc' := 64) X41 hx (hb hby d7_63) rfl rfl rfl ?_
        obtain ⟨T43, X43, e43, st43⟩ := getF X41 hx hZ hown (host := "") (Or.inl (hw _ (List.mem_of_getElem? (i := 27) rfl))) Via.refl e41 F35 (g := (mkF m 64 #[.val (.ref a1), .val (.int x1), .val (.int (-1 : Int32)), .unset] [(.ref a1)])) rfl rfl (hb hby d7_64)
        refine oGo.step (f' := (mkF m 67 #[.val (.ref a1), .val (.int x1), .val (.int (-1 : Int32)), .unset] [(.int ((f_codePoint <<< ((6 : Int32) &&& 31)) ||| (x1 &&& (63 : Int32))))])) st43 ?_
        obtain ⟨T44, X44, e44, st44⟩ := getS X43 hx hZ (host := "") hown (hw _ (List.mem_of_getElem? (i := 47) rfl)) Via.refl e43 (S_LEAST.ext F31.2) (g := (mkF m 67 #[.val (.ref a1), .val (.int x1), .val (.int (-1 : Int32)), .unset] [(.int ((f_codePoint <<< ((6 : Int32) &&& 31)) ||| (x1 &&& (63 : Int32))))])) rfl (hb hby d7_67)
        refine oGo.step (f' := (mkF m 70 #[.val (.ref a1), .val (.int x1), .val (.int (-1 : Int32)), .unset] [(.ref r_LEAST), (.int ((f_codePoint <<< ((6 : Int32) &&& 31)) ||| (x1 &&& (63 : Int32))))])) st44 ?_
        refine o_aloadN (pc' := 71) X44 hx (hb hby d7_70) rfl rfl rfl ?_
        obtain ⟨T45, X45, e45, st45⟩ := getF X44 hx hZ hown (host := "") (Or.inl (hw _ (List.mem_of_getElem? (i := 29) rfl))) Via.refl e44 F37 (g := (mkF m 71 #[.val (.ref a1), .val (.int x1), .val (.int (-1 : Int32)), .unset] [(.ref a1), (.ref r_LEAST), (.int ((f_codePoint <<< ((6 : Int32) &&& 31)) ||| (x1 &&& (63 : Int32))))])) rfl rfl (hb hby d7_71)
        refine oGo.step (f' := (mkF m 74 #[.val (.ref a1), .val (.int x1), .val (.int (-1 : Int32)), .unset] [(.int (f_given + (1 : Int32))), (.ref r_LEAST), (.int ((f_codePoint <<< ((6 : Int32) &&& 31)) ||| (x1 &&& (63 : Int32))))])) st45 ?_
        refine o_iconst (pc' := 75) (v := (1 : Int32)) X45 hx (hb hby d7_74) rfl rfl ?_
        refine o_isub (pc' := 76) X45 hx (hb hby d7_75)  rfl ?_
        refine o_iaload (pc' := 77) (v := (oLeast f_given)) X45 hx hZ e45 (A_LEAST.ext F31.2) (hb hby d7_76) (own_idx hI).1 (own_idx hI).2 rfl ?_
        have J47 : ∀ (T55 : State) (X55 : Stand p l e room7 s m #[(.ref a1), (.int x1)] below meth c T55 ((([] ++ [⟨a1, Jvm.RoadKit.slotOf Z "com/example/harborlog/harborlog/Utf8Decoder" "codePoint" "I"⟩]) ++ [⟨a1, Jvm.RoadKit.slotOf Z "com/example/harborlog/harborlog/Utf8Decoder" "given" "I"⟩]) ++ [⟨a1, Jvm.RoadKit.slotOf Z "com/example/harborlog/harborlog/Utf8Decoder" "lacking" "I"⟩]) (0) (0)) (e55 : T55.heap = h30_) (v54 : Int32), v54 = (if ((f_codePoint <<< ((6 : Int32) &&& 31)) ||| (x1 &&& (63 : Int32))) < (oLeast f_given) then (0 : Int32) else (if (1114111 : Int32) < ((f_codePoint <<< ((6 : Int32) &&& 31)) ||| (x1 &&& (63 : Int32))) then (0 : Int32) else (if ((f_codePoint <<< ((6 : Int32) &&& 31)) ||| (x1 &&& (63 : Int32))) < (55296 : Int32) then (1 : Int32) else (if (57343 : Int32) < ((f_codePoint <<< ((6 : Int32) &&& 31)) ||| (x1 &&& (63 : Int32))) then (1 : Int32) else (0 : Int32))))) → oGo p e below (oG s (fun v h L => v = some (.int (spec7 x1 f_codePoint f_lacking f_given)) ∧ Fr n0 L ∧ Keep h0 h [a1] ∧ Exa Z h a1 "com/example/harborlog/harborlog/Utf8Decoder" ∧ Fld Z h a1 "com/example/harborlog/harborlog/Utf8Decoder" "codePoint" "I" (.int (fld7_codePoint x1 f_codePoint f_lacking)) ∧ Fld Z h a1 "com/example/harborlog/harborlog/Utf8Decoder" "lacking" "I" (.int (fld7_lacking x1 f_lacking)) ∧ Fld Z h a1 "com/example/harborlog/harborlog/Utf8Decoder" "given" "I" (.int (fld7_given x1 f_lacking f_given)) ∧ Fld Z h a1 "com/example/harborlog/harborlog/Utf8Decoder" "malformed" "Z" (.int (fld7_malformed x1 f_codePoint f_lacking f_given f_malformed))) room7.cells room7.slots) T55 (mkF m 112 #[.val (.ref a1), .val (.int x1), .val (.int (-1 : Int32)), .unset] [(.int v54)]) := by
          intro T55 X55 e55 v54 hv54
          refine o_istoreN (pc' := 113) (l' := #[.val (.ref a1), .val (.int x1), .val (.int (-1 : Int32)), .val (.int v54)]) X55 hx (hb hby d7_112) rfl rfl ?_
          refine o_iloadN (pc' := 114) X55 hx (hb hby d7_113) rfl rfl ?_
          have J57 : ∀ (T60 : State) (X60 : Stand p l e room7 s m #[(.ref a1), (.int x1)] below meth c T60 ((([] ++ [⟨a1, Jvm.RoadKit.slotOf Z "com/example/harborlog/harborlog/Utf8Decoder" "codePoint" "I"⟩]) ++ [⟨a1, Jvm.RoadKit.slotOf Z "com/example/harborlog/harborlog/Utf8Decoder" "given" "I"⟩]) ++ [⟨a1, Jvm.RoadKit.slotOf Z "com/example/harborlog/harborlog/Utf8Decoder" "lacking" "I"⟩]) (0) (0)) (e60 : T60.heap = h30_) (v59 : Int32), v59 = (if v54 = 0 then (-1 : Int32) else ((f_codePoint <<< ((6 : Int32) &&& 31)) ||| (x1 &&& (63 : Int32)))) → oGo p e below (oG s (fun v h L => v = some (.int (spec7 x1 f_codePoint f_lacking f_given)) ∧ Fr n0 L ∧ Keep h0 h [a1] ∧ Exa Z h a1 "com/example/harborlog/harborlog/Utf8Decoder" ∧ Fld Z h a1 "com/example/harborlog/harborlog/Utf8Decoder" "codePoint" "I" (.int (fld7_codePoint x1 f_codePoint f_lacking)) ∧ Fld Z h a1 "com/example/harborlog/harborlog/Utf8Decoder" "lacking" "I" (.int (fld7_lacking x1 f_lacking)) ∧ Fld Z h a1 "com/example/harborlog/harborlog/Utf8Decoder" "given" "I" (.int (fld7_given x1 f_lacking f_given)) ∧ Fld Z h a1 "com/example/harborlog/harborlog/Utf8Decoder" "malformed" "Z" (.int (fld7_malformed x1 f_codePoint f_lacking f_given f_malformed))) room7.cells room7.slots) T60 (mkF m 125 #[.val (.ref a1), .val (.int x1), .val (.int (-1 : Int32)), .val (.int v54)] [(.int v59)]) := by
            intro T60 X60 e60 v59 hv59
            refine o_istoreN (pc' := 126) (l' := #[.val (.ref a1), .val (.int x1), .val (.int v59), .val (.int v54)]) X60 hx (hb hby d7_125) rfl rfl ?_
            refine o_aloadN (pc' := 127) X60 hx (hb hby d7_126) rfl rfl rfl ?_
            refine o_dup (pc' := 128) X60 hx (hb hby d7_127) rfl rfl ?_
            obtain ⟨T61, X61, e61, st61⟩ := getF X60 hx hZ hown (host := "") (Or.inl (hw _ (List.mem_of_getElem? (i := 23) rfl))) Via.refl e60 F38 (g := (mkF m 128 #[.val (.ref a1), .val (.int x1), .val (.int v59), .val (.int v54)] [(.ref a1), (.ref a1)])) rfl rfl (hb hby d7_128)
            refine oGo.step (f' := (mkF m 131 #[.val (.ref a1), .val (.int x1), .val (.int v59), .val (.int v54)] [(.int f_malformed), (.ref a1)])) st61 ?_
            refine o_iloadN (pc' := 132) X61 hx (hb hby d7_131) rfl rfl ?_
            have J63 : ∀ (v64 : Int32), v64 = (if v54 = 0 then (1 : Int32) else (0 : Int32)) → oGo p e below (oG s (fun v h L => v = some (.int (spec7 x1 f_codePoint f_lacking f_given)) ∧ Fr n0 L ∧ Keep h0 h [a1] ∧ Exa Z h a1 "com/example/harborlog/harborlog/Utf8Decoder" ∧ Fld Z h a1 "com/example/harborlog/harborlog/Utf8Decoder" "codePoint" "I" (.int (fld7_codePoint x1 f_codePoint f_lacking)) ∧ Fld Z h a1 "com/example/harborlog/harborlog/Utf8Decoder" "lacking" "I" (.int (fld7_lacking x1 f_lacking)) ∧ Fld Z h a1 "com/example/harborlog/harborlog/Utf8Decoder" "given" "I" (.int (fld7_given x1 f_lacking f_given)) ∧ Fld Z h a1 "com/example/harborlog/harborlog/Utf8Decoder" "malformed" "Z" (.int (fld7_malformed x1 f_codePoint f_lacking f_given f_malformed))) room7.cells room7.slots) T61 (mkF m 140 #[.val (.ref a1), .val (.int x1), .val (.int v59), .val (.int v54)] [(.int v64), (.int f_malformed), (.ref a1)]) := by
              intro v64 hv64
              refine o_ior (pc' := 141) X61 hx (hb hby d7_140)  rfl ?_
              obtain ⟨T65, h65_, X65, e65, W65, st65⟩ := putF X61 hx hZ hown (host := "") (Or.inl (hw _ (List.mem_of_getElem? (i := 23) rfl))) Via.refl e61 F38 F34 (Or.inl (hw _ (List.mem_of_getElem? (i := 24) rfl))) (hw _ (List.mem_of_getElem? (i := 3) rfl)) (ty := .boolean) (by decide) (o_nb (o_orB hI.2 (by rw [hv64]; (repeat' split) <;> simp))) (o_fb (o_orB hI.2 (by rw [hv64]; (repeat' split) <;> simp))) (g := (mkF m 141 #[.val (.ref a1), .val (.int x1), .val (.int v59), .val (.int v54)] [(.int (f_malformed ||| v64)), (.ref a1)])) rfl rfl (hb hby d7_141)
              refine oGo.step (f' := (mkF m 144 #[.val (.ref a1), .val (.int x1), .val (.int v59), .val (.int v54)] [])) st65 ?_
              have N65 := Fr.snoc X65 N30 ga
              have F66 := F31.wr W65 ga
              have F69 := F34.wr W65
              have F70 := F35.other W65 (Or.inr (slot_ne (Or.inl (hw _ (List.mem_of_getElem? (i := 28) rfl))) (Or.inl (hw _ (List.mem_of_getElem? (i := 24) rfl))) (by decide) (t := .int) (t' := .boolean) (by decide) (by decide)))
              have F71 := F36.other W65 (Or.inr (slot_ne (Or.inl (hw _ (List.mem_of_getElem? (i := 26) rfl))) (Or.inl (hw _ (List.mem_of_getElem? (i := 24) rfl))) (by decide) (t := .int) (t' := .boolean) (by decide) (by decide)))
              have F72 := F37.other W65 (Or.inr (slot_ne (Or.inl (hw _ (List.mem_of_getElem? (i := 30) rfl))) (Or.inl (hw _ (List.mem_of_getElem? (i := 24) rfl))) (by decide) (t := .int) (t' := .boolean) (by decide) (by decide)))
              have F73 := F38.same W65
              have K74 := K39.wr W65 (Or.inl (List.mem_of_getElem? (i := 0) rfl))
              have Z75 := Nat.le_trans Z40 (Keep.of_wr W65).1
              refine o_aloadN (pc' := 145) X65 hx (hb hby d7_144) rfl rfl rfl ?_
              refine o_iconst (pc' := 146) (v := (0 : Int32)) X65 hx (hb hby d7_145) rfl rfl ?_
              obtain ⟨T76, h76_, X76, e76, W76, st76⟩ := putF X65 hx hZ hown (host := "") (Or.inl (hw _ (List.mem_of_getElem? (i := 29) rfl))) Via.refl e65 F72 F69 (Or.inl (hw _ (List.mem_of_getElem? (i := 30) rfl))) (hw _ (List.mem_of_getElem? (i := 3) rfl)) (ty := .int) (by decide) rfl rfl (g := (mkF m 146 #[.val (.ref a1), .val (.int x1), .val (.int v59), .val (.int v54)] [(.int (0 : Int32)), (.ref a1)])) rfl rfl (hb hby d7_146)
              refine oGo.step (f' := (mkF m 149 #[.val (.ref a1), .val (.int x1), .val (.int v59), .val (.int v54)] [])) st76 ?_
              have N76 := Fr.snoc X76 N65 ga
              have F77 := F66.wr W76 ga
              have F80 := F69.wr W76
              have F81 := F70.other W76 (Or.inr (slot_ne (Or.inl (hw _ (List.mem_of_getElem? (i := 28) rfl))) (Or.inl (hw _ (List.mem_of_getElem? (i := 30) rfl))) (by decide) (t := .int) (t' := .int) (by decide) (by decide)))
              have F82 := F71.other W76 (Or.inr (slot_ne (Or.inl (hw _ (List.mem_of_getElem? (i := 26) rfl))) (Or.inl (hw _ (List.mem_of_getElem? (i := 30) rfl))) (by decide) (t := .int) (t' := .int) (by decide) (by decide)))
              have F83 := F72.same W76
              have F84 := F73.other W76 (Or.inr (slot_ne (Or.inl (hw _ (List.mem_of_getElem? (i := 24) rfl))) (Or.inl (hw _ (List.mem_of_getElem? (i := 30) rfl))) (by decide) (t := .boolean) (t' := .int) (by decide) (by decide)))
              have K85 := K74.wr W76 (Or.inl (List.mem_of_getElem? (i := 0) rfl))
              have Z86 := Nat.le_trans Z75 (Keep.of_wr W76).1
              refine o_goto (pc' := 266) X76 hx (hb hby d7_149) (by decide) (by decide) ?_
              subst hv64 hv59 hv54
              exact J3 T76 h76_ _ X76 e76 N76 Z86 K85 _ (One.val rfl) _ _ _ _ _ ((if_pos c2).trans ((if_pos c4).trans (if_pos c42))).symm ((if_pos c2).trans (if_pos c4)).symm ((if_pos c2).trans (if_pos c4)).symm ((if_pos c2).trans ((if_pos c4).trans (if_pos c42))).symm ((if_pos c2).trans ((if_pos c4).trans (if_pos c42))).symm F77 F80 F81 F82 F83 F84
            by_cases c62 : v54 = 0
            · refine o_ifF (pc' := 135) X61 hx (hb hby d7_132) (XT.i0_ne_f c62) rfl ?_
              refine o_iconst (pc' := 136) (v := (1 : Int32)) X61 hx (hb hby d7_135) rfl rfl ?_
              refine o_goto (pc' := 140) X61 hx (hb hby d7_136) (by decide) (by decide) ?_
              exact J63 _ (if_pos c62).symm
            · refine o_ifT (pc' := 139) X61 hx (hb hby d7_132) (XT.i0_ne_t c62) (by decide) (by decide) ?_
              refine o_iconst (pc' := 140) (v := (0 : Int32)) X61 hx (hb hby d7_139) rfl rfl ?_
              exact J63 _ (if_neg c62).symm
          by_cases c56 : v54 = 0
          · refine o_ifT (pc' := 124) X55 hx (hb hby d7_114) (XT.i0_eq_t c56) (by decide) (by decide) ?_
            refine o_iconst (pc' := 125) (v := (-1 : Int32)) X55 hx (hb hby d7_124) rfl rfl ?_
            exact J57 T55 X55 e55 _ (if_pos c56).symm
          · refine o_ifF (pc' := 117) X55 hx (hb hby d7_114) (XT.i0_eq_f c56) rfl ?_
            refine o_aloadN (pc' := 118) X55 hx (hb hby d7_117) rfl rfl rfl ?_
            obtain ⟨T58, X58, e58, st58⟩ := getF X55 hx hZ hown (host := "") (Or.inl (hw _ (List.mem_of_getElem? (i := 27) rfl))) Via.refl e55 F35 (g := (mkF m 118 #[.val (.ref a1), .val (.int x1), .val (.int (-1 : Int32)), .val (.int v54)] [(.ref a1)])) rfl rfl (hb hby d7_118)
            refine oGo.step (f' := (mkF m 121 #[.val (.ref a1), .val (.int x1), .val (.int (-1 : Int32)), .val (.int v54)] [(.int ((f_codePoint <<< ((6 : Int32) &&& 31)) ||| (x1 &&& (63 : Int32))))])) st58 ?_
            refine o_goto (pc' := 125) X58 hx (hb hby d7_121) (by decide) (by decide) ?_
            exact J57 T58 X58 e58 _ (if_neg c56).symm
        by_cases c46 : ((f_codePoint <<< ((6 : Int32) &&& 31)) ||| (x1 &&& (63 : Int32))) < (oLeast f_given)
        · refine o_icmpT (pc' := 111) X45 hx (hb hby d7_77) (XT.ii_lt_t c46) (by decide) (by decide) ?_
          refine o_iconst (pc' := 112) (v := (0 : Int32)) X45 hx (hb hby d7_111) rfl rfl ?_
          exact J47 T45 X45 e45 _ (if_pos c46).symm
        · refine o_icmpF (pc' := 80) X45 hx (hb hby d7_77) (XT.ii_lt_f c46) rfl ?_
          refine o_aloadN (pc' := 81) X45 hx (hb hby d7_80) rfl rfl rfl ?_
          obtain ⟨T48, X48, e48, st48⟩ := getF X45 hx hZ hown (host := "") (Or.inl (hw _ (List.mem_of_getElem? (i := 27) rfl))) Via.refl e45 F35 (g := (mkF m 81 #[.val (.ref a1), .val (.int x1), .val (.int (-1 : Int32)), .unset] [(.ref a1)])) rfl rfl (hb hby d7_81)
          refine oGo.step (f' := (mkF m 84 #[.val (.ref a1), .val (.int x1), .val (.int (-1 : Int32)), .unset] [(.int ((f_codePoint <<< ((6 : Int32) &&& 31)) ||| (x1 &&& (63 : Int32))))])) st48 ?_
          refine o_ldc (pc' := 86) (v := (1114111 : Int32)) X48 hx hZ hown (hw _ (List.mem_of_getElem? (i := 49) rfl)) (hb hby d7_84) rfl ?_
          by_cases c49 : (1114111 : Int32) < ((f_codePoint <<< ((6 : Int32) &&& 31)) ||| (x1 &&& (63 : Int32)))
          · refine o_icmpT (pc' := 111) X48 hx (hb hby d7_86) (XT.ii_gt_t c49) (by decide) (by decide) ?_
            refine o_iconst (pc' := 112) (v := (0 : Int32)) X48 hx (hb hby d7_111) rfl rfl ?_
            exact J47 T48 X48 e48 _ ((if_neg c46).trans (if_pos c49)).symm
          · refine o_icmpF (pc' := 89) X48 hx (hb hby d7_86) (XT.ii_gt_f c49) rfl ?_
            refine o_aloadN (pc' := 90) X48 hx (hb hby d7_89) rfl rfl rfl ?_
            obtain ⟨T50, X50, e50, st50⟩ := getF X48 hx hZ hown (host := "") (Or.inl (hw _ (List.mem_of_getElem? (i := 27) rfl))) Via.refl e48 F35 (g := (mkF m 90 #[.val (.ref a1), .val (.int x1), .val (.int (-1 : Int32)), .unset] [(.ref a1)])) rfl rfl (hb hby d7_90)
            refine oGo.step (f' := (mkF m 93 #[.val (.ref a1), .val (.int x1), .val (.int (-1 : Int32)), .unset] [(.int ((f_codePoint <<< ((6 : Int32) &&& 31)) ||| (x1 &&& (63 : Int32))))])) st50 ?_
            refine o_ldc (pc' := 95) (v := (55296 : Int32)) X50 hx hZ hown (hw _ (List.mem_of_getElem? (i := 50) rfl)) (hb hby d7_93) rfl ?_
            by_cases c51 : ((f_codePoint <<< ((6 : Int32) &&& 31)) ||| (x1 &&& (63 : Int32))) < (55296 : Int32)
            · refine o_icmpT (pc' := 107) X50 hx (hb hby d7_95) (XT.ii_lt_t c51) (by decide) (by decide) ?_
              refine o_iconst (pc' := 108) (v := (1 : Int32)) X50 hx (hb hby d7_107) rfl rfl ?_
              refine o_goto (pc' := 112) X50 hx (hb hby d7_108) (by decide) (by decide) ?_
              exact J47 T50 X50 e50 _ ((if_neg c46).trans ((if_neg c49).trans (if_pos c51))).symm
            · refine o_icmpF (pc' := 98) X50 hx (hb hby d7_95) (XT.ii_lt_f c51) rfl ?_
              refine o_aloadN (pc' := 99) X50 hx (hb hby d7_98) rfl rfl rfl ?_
              obtain ⟨T52, X52, e52, st52⟩ := getF X50 hx hZ hown (host := "") (Or.inl (hw _ (List.mem_of_getElem? (i := 27) rfl))) Via.refl e50 F35 (g := (mkF m 99 #[.val (.ref a1), .val (.int x1), .val (.int (-1 : Int32)), .unset] [(.ref a1)])) rfl rfl (hb hby d7_99)
              refine oGo.step (f' := (mkF m 102 #[.val (.ref a1), .val (.int x1), .val (.int (-1 : Int32)), .unset] [(.int ((f_codePoint <<< ((6 : Int32) &&& 31)) ||| (x1 &&& (63 : Int32))))])) st52 ?_
              refine o_ldc (pc' := 104) (v := (57343 : Int32)) X52 hx hZ hown (hw _ (List.mem_of_getElem? (i := 51) rfl)) (hb hby d7_102) rfl ?_
              by_cases c53 : (57343 : Int32) < ((f_codePoint <<< ((6 : Int32) &&& 31)) ||| (x1 &&& (63 : Int32)))
              · refine o_icmpF (pc' := 107) X52 hx (hb hby d7_104) (XT.ii_le_f c53) rfl ?_
                refine o_iconst (pc' := 108) (v := (1 : Int32)) X52 hx (hb hby d7_107) rfl rfl ?_
                refine o_goto (pc' := 112) X52 hx (hb hby d7_108) (by decide) (by decide) ?_
                exact J47 T52 X52 e52 _ ((if_neg c46).trans ((if_neg c49).trans ((if_neg c51).trans (if_pos c53)))).symm
              · refine o_icmpT (pc' := 111) X52 hx (hb hby d7_104) (XT.ii_le_t c53) (by decide) (by decide) ?_
                refine o_iconst (pc' := 112) (v := (0 : Int32)) X52 hx (hb hby d7_111) rfl rfl ?_
                exact J47 T52 X52 e52 _ ((if_neg c46).trans ((if_neg c49).trans ((if_neg c51).trans (if_neg c53)))).symm
      · refine o_ifT (pc' := 266) X41 hx (hb hby d7_60) (XT.i0_ne_t c42) (by decide) (by decide) ?_
        exact J3 T41 h30_ _ X41 e41 N30 Z40 K39 _ One.u _ _ _ _ _ ((if_pos c2).trans ((if_pos c4).trans (if_neg c42))).symm ((if_pos c2).trans (if_pos c4)).symm ((if_pos c2).trans (if_pos c4)).symm ((if_pos c2).trans ((if_pos c4).trans (if_neg c42))).symm ((if_pos c2).trans ((if_pos c4).trans (if_neg c42))).symm F31 F34 F35 F36 F37 F38
    · refine o_icmpT (pc' := 152) X1 hx (hb hby d7_17) (XT.ii_ne_t c4) (by decide) (by decide) ?_
      refine o_aloadN (pc' := 153) X1 hx (hb hby d7_152) rfl rfl rfl ?_
      refine o_dup (pc' := 154) X1 hx (hb hby d7_153) rfl rfl ?_
      obtain ⟨T87, X87, e87, st87⟩ := getF X1 hx hZ hown (host := "") (Or.inl (hw _ (List.mem_of_getElem? (i := 23) rfl))) Via.refl e1 F_malformed (g := (mkF m 154 #[.val (.ref a1), .val (.int x1), .val (.int (-1 : Int32)), .unset] [(.ref a1), (.ref a1)])) rfl rfl (hb hby d7_154)
      refine oGo.step (f' := (mkF m 157 #[.val (.ref a1), .val (.int x1), .val (.int (-1 : Int32)), .unset] [(.int f_malformed), (.ref a1)])) st87 ?_
      refine o_aloadN (pc' := 158) X87 hx (hb hby d7_157) rfl rfl rfl ?_
      obtain ⟨T88, X88, e88, st88⟩ := getF X87 hx hZ hown (host := "") (Or.inl (hw _ (List.mem_of_getElem? (i := 25) rfl))) Via.refl e87 F_lacking (g := (mkF m 158 #[.val (.ref a1), .val (.int x1), .val (.int (-1 : Int32)), .unset] [(.ref a1), (.int f_malformed), (.ref a1)])) rfl rfl (hb hby d7_158)
      refine oGo.step (f' := (mkF m 161 #[.val (.ref a1), .val (.int x1), .val (.int (-1 : Int32)), .unset] [(.int f_lacking), (.int f_malformed), (.ref a1)])) st88 ?_
      refine o_ifF (pc' := 164) X88 hx (hb hby d7_161) (XT.i0_le_f c2) rfl ?_
      refine o_iconst (pc' := 165) (v := (1 : Int32)) X88 hx (hb hby d7_164) rfl rfl ?_
      refine o_goto (pc' := 169) X88 hx (hb hby d7_165) (by decide) (by decide) ?_
      refine o_ior (pc' := 170) X88 hx (hb hby d7_169)  rfl ?_
      obtain ⟨T89, h89_, X89, e89, W89, st89⟩ := putF X88 hx hZ hown (host := "") (Or.inl (hw _ (List.mem_of_getElem? (i := 23) rfl))) Via.refl e88 F_malformed E0 (Or.inl (hw _ (List.mem_of_getElem? (i := 24) rfl))) (hw _ (List.mem_of_getElem? (i := 3) rfl)) (ty := .boolean) (by decide) (o_nb (o_orB hI.2 (Or.inr rfl))) (o_fb (o_orB hI.2 (Or.inr rfl))) (g := (mkF m 170 #[.val (.ref a1), .val (.int x1), .val (.int (-1 : Int32)), .unset] [(.int (f_malformed ||| (1 : Int32))), (.ref a1)])) rfl rfl (hb hby d7_170)
      refine oGo.step (f' := (mkF m 173 #[.val (.ref a1), .val (.int x1), .val (.int (-1 : Int32)), .unset] [])) st89 ?_
      have N89 := Fr.snoc X89 N0 ga
      have F90 := O0.wr W89 ga
      have F93 := E0.wr W89
      have F94 := F_codePoint.other W89 (Or.inr (slot_ne (Or.inl (hw _ (List.mem_of_getElem? (i := 28) rfl))) (Or.inl (hw _ (List.mem_of_getElem? (i := 24) rfl))) (by decide) (t := .int) (t' := .boolean) (by decide) (by decide)))
      have F95 := F_lacking.other W89 (Or.inr (slot_ne (Or.inl (hw _ (List.mem_of_getElem? (i := 26) rfl))) (Or.inl (hw _ (List.mem_of_getElem? (i := 24) rfl))) (by decide) (t := .int) (t' := .boolean) (by decide) (by decide)))
      have F96 := F_given.other W89 (Or.inr (slot_ne (Or.inl (hw _ (List.mem_of_getElem? (i := 30) rfl))) (Or.inl (hw _ (List.mem_of_getElem? (i := 24) rfl))) (by decide) (t := .int) (t' := .boolean) (by decide) (by decide)))
      have F97 := F_malformed.same W89
      have K98 := K0.wr W89 (Or.inl (List.mem_of_getElem? (i := 0) rfl))
      have Z99 := Nat.le_trans Z0 (Keep.of_wr W89).1
      refine o_aloadN (pc' := 174) X89 hx (hb hby d7_173) rfl rfl rfl ?_
      refine o_iconst (pc' := 175) (v := (0 : Int32)) X89 hx (hb hby d7_174) rfl rfl ?_
      obtain ⟨T100, h100_, X100, e100, W100, st100⟩ := putF X89 hx hZ hown (host := "") (Or.inl (hw _ (List.mem_of_getElem? (i := 25) rfl))) Via.refl e89 F95 F93 (Or.inl (hw _ (List.mem_of_getElem? (i := 26) rfl))) (hw _ (List.mem_of_getElem? (i := 3) rfl)) (ty := .int) (by decide) rfl rfl (g := (mkF m 175 #[.val (.ref a1), .val (.int x1), .val (.int (-1 : Int32)), .unset] [(.int (0 : Int32)), (.ref a1)])) rfl rfl (hb hby d7_175)
      refine oGo.step (f' := (mkF m 178 #[.val (.ref a1), .val (.int x1), .val (.int (-1 : Int32)), .unset] [])) st100 ?_
      have N100 := Fr.snoc X100 N89 ga
      have F101 := F90.wr W100 ga
      have F104 := F93.wr W100
      have F105 := F94.other W100 (Or.inr (slot_ne (Or.inl (hw _ (List.mem_of_getElem? (i := 28) rfl))) (Or.inl (hw _ (List.mem_of_getElem? (i := 26) rfl))) (by decide) (t := .int) (t' := .int) (by decide) (by decide)))
      have F106 := F95.same W100
      have F107 := F96.other W100 (Or.inr (slot_ne (Or.inl (hw _ (List.mem_of_getElem? (i := 30) rfl))) (Or.inl (hw _ (List.mem_of_getElem? (i := 26) rfl))) (by decide) (t := .int) (t' := .int) (by decide) (by decide)))
      have F108 := F97.other W100 (Or.inr (slot_ne (Or.inl (hw _ (List.mem_of_getElem? (i := 24) rfl))) (Or.inl (hw _ (List.mem_of_getElem? (i := 26) rfl))) (by decide) (t := .boolean) (t' := .int) (by decide) (by decide)))
      have K109 := K98.wr W100 (Or.inl (List.mem_of_getElem? (i := 0) rfl))
      have Z110 := Nat.le_trans Z99 (Keep.of_wr W100).1
      refine o_aloadN (pc' := 179) X100 hx (hb hby d7_178) rfl rfl rfl ?_
      refine o_iconst (pc' := 180) (v := (0 : Int32)) X100 hx (hb hby d7_179) rfl rfl ?_
      obtain ⟨T111, h111_, X111, e111, W111, st111⟩ := putF X100 hx hZ hown (host := "") (Or.inl (hw _ (List.mem_of_getElem? (i := 29) rfl))) Via.refl e100 F107 F104 (Or.inl (hw _ (List.mem_of_getElem? (i := 30) rfl))) (hw _ (List.mem_of_getElem? (i := 3) rfl)) (ty := .int) (by decide) rfl rfl (g := (mkF m 180 #[.val (.ref a1), .val (.int x1), .val (.int (-1 : Int32)), .unset] [(.int (0 : Int32)), (.ref a1)])) rfl rfl (hb hby d7_180)
      refine oGo.step (f' := (mkF m 183 #[.val (.ref a1), .val (.int x1), .val (.int (-1 : Int32)), .unset] [])) st111 ?_
      have N111 := Fr.snoc X111 N100 ga
      have F112 := F101.wr W111 ga
      have F115 := F104.wr W111
      have F116 := F105.other W111 (Or.inr (slot_ne (Or.inl (hw _ (List.mem_of_getElem? (i := 28) rfl))) (Or.inl (hw _ (List.mem_of_getElem? (i := 30) rfl))) (by decide) (t := .int) (t' := .int) (by decide) (by decide)))
      have F117 := F106.other W111 (Or.inr (slot_ne (Or.inl (hw _ (List.mem_of_getElem? (i := 26) rfl))) (Or.inl (hw _ (List.mem_of_getElem? (i := 30) rfl))) (by decide) (t := .int) (t' := .int) (by decide) (by decide)))
      have F118 := F107.same W111
      have F119 := F108.other W111 (Or.inr (slot_ne (Or.inl (hw _ (List.mem_of_getElem? (i := 24) rfl))) (Or.inl (hw _ (List.mem_of_getElem? (i := 30) rfl))) (by decide) (t := .boolean) (t' := .int) (by decide) (by decide)))
      have K120 := K109.wr W111 (Or.inl (List.mem_of_getElem? (i := 0) rfl))
      have Z121 := Nat.le_trans Z110 (Keep.of_wr W111).1
      refine o_iloadN (pc' := 184) X111 hx (hb hby d7_183) rfl rfl ?_
      refine o_sipush (pc' := 187) (v := (128 : Int32)) X111 hx (hb hby d7_184) rfl rfl ?_
      by_cases c122 : x1 < (128 : Int32)
      · refine o_icmpF (pc' := 190) X111 hx (hb hby d7_187) (XT.ii_ge_f c122) rfl ?_
        refine o_iloadN (pc' := 191) X111 hx (hb hby d7_190) rfl rfl ?_
        refine o_istoreN (pc' := 192) (l' := #[.val (.ref a1), .val (.int x1), .val (.int x1), .unset]) X111 hx (hb hby d7_191) rfl rfl ?_
        refine o_goto (pc' := 266) X111 hx (hb hby d7_192) (by decide) (by decide) ?_
        exact J3 T111 h111_ _ X111 e111 N111 Z121 K120 _ One.u _ _ _ _ _ ((if_pos c2).trans ((if_neg c4).trans (if_pos c122))).symm ((if_pos c2).trans ((if_neg c4).trans (if_pos c122))).symm ((if_pos c2).trans ((if_neg c4).trans (if_pos c122))).symm ((if_pos c2).trans ((if_neg c4).trans (if_pos c122))).symm ((if_pos c2).trans ((if_neg c4).trans (if_pos c122))).symm F112 F115 F116 F117 F118 F119
      · refine o_icmpT (pc' := 195) X111 hx (hb hby d7_187) (XT.ii_ge_t c122) (by decide) (by decide) ?_
        refine o_iloadN (pc' := 196) X111 hx (hb hby d7_195) rfl rfl ?_
        refine o_sipush (pc' := 199) (v := (192 : Int32)) X111 hx (hb hby d7_196) rfl rfl ?_
        by_cases c123 : x1 < (192 : Int32)
        · refine o_icmpT (pc' := 209) X111 hx (hb hby d7_199) (XT.ii_lt_t c123) (by decide) (by decide) ?_
          refine o_aloadN (pc' := 210) X111 hx (hb hby d7_209) rfl rfl rfl ?_
          refine o_iconst (pc' := 211) (v := (1 : Int32)) X111 hx (hb hby d7_210) rfl rfl ?_
          obtain ⟨T124, h124_, X124, e124, W124, st124⟩ := putF X111 hx hZ hown (host := "") (Or.inl (hw _ (List.mem_of_getElem? (i := 23) rfl))) Via.refl e111 F119 F115 (Or.inl (hw _ (List.mem_of_getElem? (i := 24) rfl))) (hw _ (List.mem_of_getElem? (i := 3) rfl)) (ty := .boolean) (by decide) rfl rfl (g := (mkF m 211 #[.val (.ref a1), .val (.int x1), .val (.int (-1 : Int32)), .unset] [(.int (1 : Int32)), (.ref a1)])) rfl rfl (hb hby d7_211)
          refine oGo.step (f' := (mkF m 214 #[.val (.ref a1), .val (.int x1), .val (.int (-1 : Int32)), .unset] [])) st124 ?_
          have N124 := Fr.snoc X124 N111 ga
          have F125 := F112.wr W124 ga
          have F128 := F115.wr W124
          have F129 := F116.other W124 (Or.inr (slot_ne (Or.inl (hw _ (List.mem_of_getElem? (i := 28) rfl))) (Or.inl (hw _ (List.mem_of_getElem? (i := 24) rfl))) (by decide) (t := .int) (t' := .boolean) (by decide) (by decide)))
          have F130 := F117.other W124 (Or.inr (slot_ne (Or.inl (hw _ (List.mem_of_getElem? (i := 26) rfl))) (Or.inl (hw _ (List.mem_of_getElem? (i := 24) rfl))) (by decide) (t := .int) (t' := .boolean) (by decide) (by decide)))
          have F131 := F118.other W124 (Or.inr (slot_ne (Or.inl (hw _ (List.mem_of_getElem? (i := 30) rfl))) (Or.inl (hw _ (List.mem_of_getElem? (i := 24) rfl))) (by decide) (t := .int) (t' := .boolean) (by decide) (by decide)))
          have F132 := F119.same W124
          have K133 := K120.wr W124 (Or.inl (List.mem_of_getElem? (i := 0) rfl))
          have Z134 := Nat.le_trans Z121 (Keep.of_wr W124).1
          refine o_goto (pc' := 266) X124 hx (hb hby d7_214) (by decide) (by decide) ?_
          exact J3 T124 h124_ _ X124 e124 N124 Z134 K133 _ One.u _ _ _ _ _ ((if_pos c2).trans ((if_neg c4).trans (if_neg c122))).symm ((if_pos c2).trans ((if_neg c4).trans ((if_neg c122).trans (if_pos c123)))).symm ((if_pos c2).trans ((if_neg c4).trans ((if_neg c122).trans (if_pos c123)))).symm ((if_pos c2).trans ((if_neg c4).trans ((if_neg c122).trans (if_pos c123)))).symm ((if_pos c2).trans ((if_neg c4).trans ((if_neg c122).trans (if_pos c123)))).symm F125 F128 F129 F130 F131 F132
        · refine o_icmpF (pc' := 202) X111 hx (hb hby d7_199) (XT.ii_lt_f c123) rfl ?_
          refine o_iloadN (pc' := 203) X111 hx (hb hby d7_202) rfl rfl ?_
          refine o_sipush (pc' := 206) (v := (247 : Int32)) X111 hx (hb hby d7_203) rfl rfl ?_
          by_cases c135 : (247 : Int32) < x1
          · refine o_icmpF (pc' := 209) X111 hx (hb hby d7_206) (XT.ii_le_f c135) rfl ?_
            refine o_aloadN (pc' := 210) X111 hx (hb hby d7_209) rfl rfl rfl ?_
            refine o_iconst (pc' := 211) (v := (1 : Int32)) X111 hx (hb hby d7_210) rfl rfl ?_
            obtain ⟨T136, h136_, X136, e136, W136, st136⟩ := putF X111 hx hZ hown (host := "") (Or.inl (hw _ (List.mem_of_getElem? (i := 23) rfl))) Via.refl e111 F119 F115 (Or.inl (hw _ (List.mem_of_getElem? (i := 24) rfl))) (hw _ (List.mem_of_getElem? (i := 3) rfl)) (ty := .boolean) (by decide) rfl rfl (g := (mkF m 211 #[.val (.ref a1), .val (.int x1), .val (.int (-1 : Int32)), .unset] [(.int (1 : Int32)), (.ref a1)])) rfl rfl (hb hby d7_211)
            refine oGo.step (f' := (mkF m 214 #[.val (.ref a1), .val (.int x1), .val (.int (-1 : Int32)), .unset] [])) st136 ?_
            have N136 := Fr.snoc X136 N111 ga
            have F137 := F112.wr W136 ga
            have F140 := F115.wr W136
            have F141 := F116.other W136 (Or.inr (slot_ne (Or.inl (hw _ (List.mem_of_getElem? (i := 28) rfl))) (Or.inl (hw _ (List.mem_of_getElem? (i := 24) rfl))) (by decide) (t := .int) (t' := .boolean) (by decide) (by decide)))
            have F142 := F117.other W136 (Or.inr (slot_ne (Or.inl (hw _ (List.mem_of_getElem? (i := 26) rfl))) (Or.inl (hw _ (List.mem_of_getElem? (i := 24) rfl))) (by decide) (t := .int) (t' := .boolean) (by decide) (by decide)))
            have F143 := F118.other W136 (Or.inr (slot_ne (Or.inl (hw _ (List.mem_of_getElem? (i := 30) rfl))) (Or.inl (hw _ (List.mem_of_getElem? (i := 24) rfl))) (by decide) (t := .int) (t' := .boolean) (by decide) (by decide)))
            have F144 := F119.same W136
            have K145 := K120.wr W136 (Or.inl (List.mem_of_getElem? (i := 0) rfl))
            have Z146 := Nat.le_trans Z121 (Keep.of_wr W136).1
            refine o_goto (pc' := 266) X136 hx (hb hby d7_214) (by decide) (by decide) ?_
            exact J3 T136 h136_ _ X136 e136 N136 Z146 K145 _ One.u _ _ _ _ _ ((if_pos c2).trans ((if_neg c4).trans (if_neg c122))).symm ((if_pos c2).trans ((if_neg c4).trans ((if_neg c122).trans ((if_neg c123).trans (if_pos c135))))).symm ((if_pos c2).trans ((if_neg c4).trans ((if_neg c122).trans ((if_neg c123).trans (if_pos c135))))).symm ((if_pos c2).trans ((if_neg c4).trans ((if_neg c122).trans ((if_neg c123).trans (if_pos c135))))).symm ((if_pos c2).trans ((if_neg c4).trans ((if_neg c122).trans ((if_neg c123).trans (if_pos c135))))).symm F137 F140 F141 F142 F143 F144
          · refine o_icmpT (pc' := 217) X111 hx (hb hby d7_206) (XT.ii_le_t c135) (by decide) (by decide) ?_
            refine o_aloadN (pc' := 218) X111 hx (hb hby d7_217) rfl rfl rfl ?_
            refine o_iconst (pc' := 219) (v := (1 : Int32)) X111 hx (hb hby d7_218) rfl rfl ?_
            refine o_iloadN (pc' := 220) X111 hx (hb hby d7_219) rfl rfl ?_
            refine o_sipush (pc' := 223) (v := (224 : Int32)) X111 hx (hb hby d7_220) rfl rfl ?_
            have J148 : ∀ (v149 : Int32), v149 = (if x1 < (224 : Int32) then (0 : Int32) else (1 : Int32)) → oGo p e below (oG s (fun v h L => v = some (.int (spec7 x1 f_codePoint f_lacking f_given)) ∧ Fr n0 L ∧ Keep h0 h [a1] ∧ Exa Z h a1 "com/example/harborlog/harborlog/Utf8Decoder" ∧ Fld Z h a1 "com/example/harborlog/harborlog/Utf8Decoder" "codePoint" "I" (.int (fld7_codePoint x1 f_codePoint f_lacking)) ∧ Fld Z h a1 "com/example/harborlog/harborlog/Utf8Decoder" "lacking" "I" (.int (fld7_lacking x1 f_lacking)) ∧ Fld Z h a1 "com/example/harborlog/harborlog/Utf8Decoder" "given" "I" (.int (fld7_given x1 f_lacking f_given)) ∧ Fld Z h a1 "com/example/harborlog/harborlog/Utf8Decoder" "malformed" "Z" (.int (fld7_malformed x1 f_codePoint f_lacking f_given f_malformed))) room7.cells room7.slots) T111 (mkF m 231 #[.val (.ref a1), .val (.int x1), .val (.int (-1 : Int32)), .unset] [(.int v149), (.int (1 : Int32)), (.ref a1)]) := by
              intro v149 hv149
              refine o_iadd (pc' := 232) X111 hx (hb hby d7_231)  rfl ?_
              refine o_iloadN (pc' := 233) X111 hx (hb hby d7_232) rfl rfl ?_
              refine o_sipush (pc' := 236) (v := (240 : Int32)) X111 hx (hb hby d7_233) rfl rfl ?_
              have J151 : ∀ (v152 : Int32), v152 = (if x1 < (240 : Int32) then (0 : Int32) else (1 : Int32)) → oGo p e below (oG s (fun v h L => v = some (.int (spec7 x1 f_codePoint f_lacking f_given)) ∧ Fr n0 L ∧ Keep h0 h [a1] ∧ Exa Z h a1 "com/example/harborlog/harborlog/Utf8Decoder" ∧ Fld Z h a1 "com/example/harborlog/harborlog/Utf8Decoder" "codePoint" "I" (.int (fld7_codePoint x1 f_codePoint f_lacking)) ∧ Fld Z h a1 "com/example/harborlog/harborlog/Utf8Decoder" "lacking" "I" (.int (fld7_lacking x1 f_lacking)) ∧ Fld Z h a1 "com/example/harborlog/harborlog/Utf8Decoder" "given" "I" (.int (fld7_given x1 f_lacking f_given)) ∧ Fld Z h a1 "com/example/harborlog/harborlog/Utf8Decoder" "malformed" "Z" (.int (fld7_malformed x1 f_codePoint f_lacking f_given f_malformed))) room7.cells room7.slots) T111 (mkF m 244 #[.val (.ref a1), .val (.int x1), .val (.int (-1 : Int32)), .unset] [(.int v152), (.int ((1 : Int32) + v149)), (.ref a1)]) := by
                intro v152 hv152
                refine o_iadd (pc' := 245) X111 hx (hb hby d7_244)  rfl ?_
                obtain ⟨T153, h153_, X153, e153, W153, st153⟩ := putF X111 hx hZ hown (host := "") (Or.inl (hw _ (List.mem_of_getElem? (i := 25) rfl))) Via.refl e111 F117 F115 (Or.inl (hw _ (List.mem_of_getElem? (i := 26) rfl))) (hw _ (List.mem_of_getElem? (i := 3) rfl)) (ty := .int) (by decide) rfl rfl (g := (mkF m 245 #[.val (.ref a1), .val (.int x1), .val (.int (-1 : Int32)), .unset] [(.int (((1 : Int32) + v149) + v152)), (.ref a1)])) rfl rfl (hb hby d7_245)
                refine oGo.step (f' := (mkF m 248 #[.val (.ref a1), .val (.int x1), .val (.int (-1 : Int32)), .unset] [])) st153 ?_
                have N153 := Fr.snoc X153 N111 ga
                have F154 := F112.wr W153 ga
                have F157 := F115.wr W153
                have F158 := F116.other W153 (Or.inr (slot_ne (Or.inl (hw _ (List.mem_of_getElem? (i := 28) rfl))) (Or.inl (hw _ (List.mem_of_getElem? (i := 26) rfl))) (by decide) (t := .int) (t' := .int) (by decide) (by decide)))
                have F159 := F117.same W153
                have F160 := F118.other W153 (Or.inr (slot_ne (Or.inl (hw _ (List.mem_of_getElem? (i := 30) rfl))) (Or.inl (hw _ (List.mem_of_getElem? (i := 26) rfl))) (by decide) (t := .int) (t' := .int) (by decide) (by decide)))
                have F161 := F119.other W153 (Or.inr (slot_ne (Or.inl (hw _ (List.mem_of_getElem? (i := 24) rfl))) (Or.inl (hw _ (List.mem_of_getElem? (i := 26) rfl))) (by decide) (t := .boolean) (t' := .int) (by decide) (by decide)))
                have K162 := K120.wr W153 (Or.inl (List.mem_of_getElem? (i := 0) rfl))
                have Z163 := Nat.le_trans Z121 (Keep.of_wr W153).1
                refine o_aloadN (pc' := 249) X153 hx (hb hby d7_248) rfl rfl rfl ?_
                refine o_iloadN (pc' := 250) X153 hx (hb hby d7_249) rfl rfl ?_
                refine o_bipush (pc' := 252) (v := (63 : Int32)) X153 hx (hb hby d7_250) rfl rfl ?_
                refine o_aloadN (pc' := 253) X153 hx (hb hby d7_252) rfl rfl rfl ?_
                obtain ⟨T164, X164, e164, st164⟩ := getF X153 hx hZ hown (host := "") (Or.inl (hw _ (List.mem_of_getElem? (i := 25) rfl))) Via.refl e153 F159 (g := (mkF m 253 #[.val (.ref a1), .val (.int x1), .val (.int (-1 : Int32)), .unset] [(.ref a1), (.int (63 : Int32)), (.int x1), (.ref a1)])) rfl rfl (hb hby d7_253)
                refine oGo.step (f' := (mkF m 256 #[.val (.ref a1), .val (.int x1), .val (.int (-1 : Int32)), .unset] [(.int (((1 : Int32) + v149) + v152)), (.int (63 : Int32)), (.int x1), (.ref a1)])) st164 ?_
                refine o_ishr (pc' := 257) X164 hx (hb hby d7_256)  rfl ?_
                refine o_iand (pc' := 258) X164 hx (hb hby d7_257)  rfl ?_
                obtain ⟨T165, h165_, X165, e165, W165, st165⟩ := putF X164 hx hZ hown (host := "") (Or.inl (hw _ (List.mem_of_getElem? (i := 27) rfl))) Via.refl e164 F158 F157 (Or.inl (hw _ (List.mem_of_getElem? (i := 28) rfl))) (hw _ (List.mem_of_getElem? (i := 3) rfl)) (ty := .int) (by decide) rfl rfl (g := (mkF m 258 #[.val (.ref a1), .val (.int x1), .val (.int (-1 : Int32)), .unset] [(.int (x1 &&& ((63 : Int32) >>> ((((1 : Int32) + v149) + v152) &&& 31)))), (.ref a1)])) rfl rfl (hb hby d7_258)
                refine oGo.step (f' := (mkF m 261 #[.val (.ref a1), .val (.int x1), .val (.int (-1 : Int32)), .unset] [])) st165 ?_
                have N165 := Fr.snoc X165 N153 ga
                have F166 := F154.wr W165 ga
                have F169 := F157.wr W165
                have F170 := F158.same W165
                have F171 := F159.other W165 (Or.inr (slot_ne (Or.inl (hw _ (List.mem_of_getElem? (i := 26) rfl))) (Or.inl (hw _ (List.mem_of_getElem? (i := 28) rfl))) (by decide) (t := .int) (t' := .int) (by decide) (by decide)))
                have F172 := F160.other W165 (Or.inr (slot_ne (Or.inl (hw _ (List.mem_of_getElem? (i := 30) rfl))) (Or.inl (hw _ (List.mem_of_getElem? (i := 28) rfl))) (by decide) (t := .int) (t' := .int) (by decide) (by decide)))
                have F173 := F161.other W165 (Or.inr (slot_ne (Or.inl (hw _ (List.mem_of_getElem? (i := 24) rfl))) (Or.inl (hw _ (List.mem_of_getElem? (i := 28) rfl))) (by decide) (t := .boolean) (t' := .int) (by decide) (by decide)))
                have K174 := K162.wr W165 (Or.inl (List.mem_of_getElem? (i := 0) rfl))
                have Z175 := Nat.le_trans Z163 (Keep.of_wr W165).1
                refine o_aloadN (pc' := 262) X165 hx (hb hby d7_261) rfl rfl rfl ?_
                refine o_iconst (pc' := 263) (v := (1 : Int32)) X165 hx (hb hby d7_262) rfl rfl ?_
                obtain ⟨T176, h176_, X176, e176, W176, st176⟩ := putF X165 hx hZ hown (host := "") (Or.inl (hw _ (List.mem_of_getElem? (i := 29) rfl))) Via.refl e165 F172 F169 (Or.inl (hw _ (List.mem_of_getElem? (i := 30) rfl))) (hw _ (List.mem_of_getElem? (i := 3) rfl)) (ty := .int) (by decide) rfl rfl (g := (mkF m 263 #[.val (.ref a1), .val (.int x1), .val (.int (-1 : Int32)), .unset] [(.int (1 : Int32)), (.ref a1)])) rfl rfl (hb hby d7_263)
                refine oGo.step (f' := (mkF m 266 #[.val (.ref a1), .val (.int x1), .val (.int (-1 : Int32)), .unset] [])) st176 ?_
                have N176 := Fr.snoc X176 N165 ga
                have F177 := F166.wr W176 ga
                have F180 := F169.wr W176
                have F181 := F170.other W176 (Or.inr (slot_ne (Or.inl (hw _ (List.mem_of_getElem? (i := 28) rfl))) (Or.inl (hw _ (List.mem_of_getElem? (i := 30) rfl))) (by decide) (t := .int) (t' := .int) (by decide) (by decide)))
                have F182 := F171.other W176 (Or.inr (slot_ne (Or.inl (hw _ (List.mem_of_getElem? (i := 26) rfl))) (Or.inl (hw _ (List.mem_of_getElem? (i := 30) rfl))) (by decide) (t := .int) (t' := .int) (by decide) (by decide)))
                have F183 := F172.same W176
                have F184 := F173.other W176 (Or.inr (slot_ne (Or.inl (hw _ (List.mem_of_getElem? (i := 24) rfl))) (Or.inl (hw _ (List.mem_of_getElem? (i := 30) rfl))) (by decide) (t := .boolean) (t' := .int) (by decide) (by decide)))
                have K185 := K174.wr W176 (Or.inl (List.mem_of_getElem? (i := 0) rfl))
                have Z186 := Nat.le_trans Z175 (Keep.of_wr W176).1
                subst hv152 hv149
                exact J3 T176 h176_ _ X176 e176 N176 Z186 K185 _ One.u _ _ _ _ _ ((if_pos c2).trans ((if_neg c4).trans (if_neg c122))).symm ((if_pos c2).trans ((if_neg c4).trans ((if_neg c122).trans ((if_neg c123).trans (if_neg c135))))).symm ((if_pos c2).trans ((if_neg c4).trans ((if_neg c122).trans ((if_neg c123).trans (if_neg c135))))).symm ((if_pos c2).trans ((if_neg c4).trans ((if_neg c122).trans ((if_neg c123).trans (if_neg c135))))).symm ((if_pos c2).trans ((if_neg c4).trans ((if_neg c122).trans ((if_neg c123).trans (if_neg c135))))).symm F177 F180 F181 F182 F183 F184
              by_cases c150 : x1 < (240 : Int32)
              · refine o_icmpT (pc' := 243) X111 hx (hb hby d7_236) (XT.ii_lt_t c150) (by decide) (by decide) ?_
                refine o_iconst (pc' := 244) (v := (0 : Int32)) X111 hx (hb hby d7_243) rfl rfl ?_
                exact J151 _ (if_pos c150).symm
              · refine o_icmpF (pc' := 239) X111 hx (hb hby d7_236) (XT.ii_lt_f c150) rfl ?_
                refine o_iconst (pc' := 240) (v := (1 : Int32)) X111 hx (hb hby d7_239) rfl rfl ?_
                refine o_goto (pc' := 244) X111 hx (hb hby d7_240) (by decide) (by decide) ?_
                exact J151 _ (if_neg c150).symm
            by_cases c147 : x1 < (224 : Int32)
            · refine o_icmpT (pc' := 230) X111 hx (hb hby d7_223) (XT.ii_lt_t c147) (by decide) (by decide) ?_
              refine o_iconst (pc' := 231) (v := (0 : Int32)) X111 hx (hb hby d7_230) rfl rfl ?_
              exact J148 _ (if_pos c147).symm
            · refine o_icmpF (pc' := 226) X111 hx (hb hby d7_223) (XT.ii_lt_f c147) rfl ?_
              refine o_iconst (pc' := 227) (v := (1 : Int32)) X111 hx (hb hby d7_226) rfl rfl ?_
              refine o_goto (pc' := 231) X111 hx (hb hby d7_227) (by decide) (by decide) ?_
              exact J148 _ (if_neg c147).symm
  · refine o_ifT (pc' := 152) X1 hx (hb hby d7_6) (XT.i0_le_t c2) (by decide) (by decide) ?_
    refine o_aloadN (pc' := 153) X1 hx (hb hby d7_152) rfl rfl rfl ?_
    refine o_dup (pc' := 154) X1 hx (hb hby d7_153) rfl rfl ?_
    obtain ⟨T187, X187, e187, st187⟩ := getF X1 hx hZ hown (host := "") (Or.inl (hw _ (List.mem_of_getElem? (i := 23) rfl))) Via.refl e1 F_malformed (g := (mkF m 154 #[.val (.ref a1), .val (.int x1), .val (.int (-1 : Int32)), .unset] [(.ref a1), (.ref a1)])) rfl rfl (hb hby d7_154)
    refine oGo.step (f' := (mkF m 157 #[.val (.ref a1), .val (.int x1), .val (.int (-1 : Int32)), .unset] [(.int f_malformed), (.ref a1)])) st187 ?_
    refine o_aloadN (pc' := 158) X187 hx (hb hby d7_157) rfl rfl rfl ?_
    obtain ⟨T188, X188, e188, st188⟩ := getF X187 hx hZ hown (host := "") (Or.inl (hw _ (List.mem_of_getElem? (i := 25) rfl))) Via.refl e187 F_lacking (g := (mkF m 158 #[.val (.ref a1), .val (.int x1), .val (.int (-1 : Int32)), .unset] [(.ref a1), (.int f_malformed), (.ref a1)])) rfl rfl (hb hby d7_158)
    refine oGo.step (f' := (mkF m 161 #[.val (.ref a1), .val (.int x1), .val (.int (-1 : Int32)), .unset] [(.int f_lacking), (.int f_malformed), (.ref a1)])) st188 ?_
    refine o_ifT (pc' := 168) X188 hx (hb hby d7_161) (XT.i0_le_t c2) (by decide) (by decide) ?_
    refine o_iconst (pc' := 169) (v := (0 : Int32)) X188 hx (hb hby d7_168) rfl rfl ?_
    refine o_ior (pc' := 170) X188 hx (hb hby d7_169)  rfl ?_
    obtain ⟨T189, h189_, X189, e189, W189, st189⟩ := putF X188 hx hZ hown (host := "") (Or.inl (hw _ (List.mem_of_getElem? (i := 23) rfl))) Via.refl e188 F_malformed E0 (Or.inl (hw _ (List.mem_of_getElem? (i := 24) rfl))) (hw _ (List.mem_of_getElem? (i := 3) rfl)) (ty := .boolean) (by decide) (o_nb (o_orB hI.2 (Or.inl rfl))) (o_fb (o_orB hI.2 (Or.inl rfl))) (g := (mkF m 170 #[.val (.ref a1), .val (.int x1), .val (.int (-1 : Int32)), .unset] [(.int (f_malformed ||| (0 : Int32))), (.ref a1)])) rfl rfl (hb hby d7_170)
    refine oGo.step (f' := (mkF m 173 #[.val (.ref a1), .val (.int x1), .val (.int (-1 : Int32)), .unset] [])) st189 ?_
    have N189 := Fr.snoc X189 N0 ga
    have F190 := O0.wr W189 ga
    have F193 := E0.wr W189
    have F194 := F_codePoint.other W189 (Or.inr (slot_ne (Or.inl (hw _ (List.mem_of_getElem? (i := 28) rfl))) (Or.inl (hw _ (List.mem_of_getElem? (i := 24) rfl))) (by decide) (t := .int) (t' := .boolean) (by decide) (by decide)))
    have F195 := F_lacking.other W189 (Or.inr (slot_ne (Or.inl (hw _ (List.mem_of_getElem? (i := 26) rfl))) (Or.inl (hw _ (List.mem_of_getElem? (i := 24) rfl))) (by decide) (t := .int) (t' := .boolean) (by decide) (by decide)))
    have F196 := F_given.other W189 (Or.inr (slot_ne (Or.inl (hw _ (List.mem_of_getElem? (i := 30) rfl))) (Or.inl (hw _ (List.mem_of_getElem? (i := 24) rfl))) (by decide) (t := .int) (t' := .boolean) (by decide) (by decide)))
    have F197 := F_malformed.same W189
    have K198 := K0.wr W189 (Or.inl (List.mem_of_getElem? (i := 0) rfl))
    have Z199 := Nat.le_trans Z0 (Keep.of_wr W189).1
    refine o_aloadN (pc' := 174) X189 hx (hb hby d7_173) rfl rfl rfl ?_
    refine o_iconst (pc' := 175) (v := (0 : Int32)) X189 hx (hb hby d7_174) rfl rfl ?_
    obtain ⟨T200, h200_, X200, e200, W200, st200⟩ := putF X189 hx hZ hown (host := "") (Or.inl (hw _ (List.mem_of_getElem? (i := 25) rfl))) Via.refl e189 F195 F193 (Or.inl (hw _ (List.mem_of_getElem? (i := 26) rfl))) (hw _ (List.mem_of_getElem? (i := 3) rfl)) (ty := .int) (by decide) rfl rfl (g := (mkF m 175 #[.val (.ref a1), .val (.int x1), .val (.int (-1 : Int32)), .unset] [(.int (0 : Int32)), (.ref a1)])) rfl rfl (hb hby d7_175)
    refine oGo.step (f' := (mkF m 178 #[.val (.ref a1), .val (.int x1), .val (.int (-1 : Int32)), .unset] [])) st200 ?_
    have N200 := Fr.snoc X200 N189 ga
    have F201 := F190.wr W200 ga
    have F204 := F193.wr W200
    have F205 := F194.other W200 (Or.inr (slot_ne (Or.inl (hw _ (List.mem_of_getElem? (i := 28) rfl))) (Or.inl (hw _ (List.mem_of_getElem? (i := 26) rfl))) (by decide) (t := .int) (t' := .int) (by decide) (by decide)))
    have F206 := F195.same W200
    have F207 := F196.other W200 (Or.inr (slot_ne (Or.inl (hw _ (List.mem_of_getElem? (i := 30) rfl))) (Or.inl (hw _ (List.mem_of_getElem? (i := 26) rfl))) (by decide) (t := .int) (t' := .int) (by decide) (by decide)))
    have F208 := F197.other W200 (Or.inr (slot_ne (Or.inl (hw _ (List.mem_of_getElem? (i := 24) rfl))) (Or.inl (hw _ (List.mem_of_getElem? (i := 26) rfl))) (by decide) (t := .boolean) (t' := .int) (by decide) (by decide)))
    have K209 := K198.wr W200 (Or.inl (List.mem_of_getElem? (i := 0) rfl))
    have Z210 := Nat.le_trans Z199 (Keep.of_wr W200).1
    refine o_aloadN (pc' := 179) X200 hx (hb hby d7_178) rfl rfl rfl ?_
    refine o_iconst (pc' := 180) (v := (0 : Int32)) X200 hx (hb hby d7_179) rfl rfl ?_
    obtain ⟨T211, h211_, X211, e211, W211, st211⟩ := putF X200 hx hZ hown (host := "") (Or.inl (hw _ (List.mem_of_getElem? (i := 29) rfl))) Via.refl e200 F207 F204 (Or.inl (hw _ (List.mem_of_getElem? (i := 30) rfl))) (hw _ (List.mem_of_getElem? (i := 3) rfl)) (ty := .int) (by decide) rfl rfl (g := (mkF m 180 #[.val (.ref a1), .val (.int x1), .val (.int (-1 : Int32)), .unset] [(.int (0 : Int32)), (.ref a1)])) rfl rfl (hb hby d7_180)
    refine oGo.step (f' := (mkF m 183 #[.val (.ref a1), .val (.int x1), .val (.int (-1 : Int32)), .unset] [])) st211 ?_
    have N211 := Fr.snoc X211 N200 ga
    have F212 := F201.wr W211 ga
    have F215 := F204.wr W211
    have F216 := F205.other W211 (Or.inr (slot_ne (Or.inl (hw _ (List.mem_of_getElem? (i := 28) rfl))) (Or.inl (hw _ (List.mem_of_getElem? (i := 30) rfl))) (by decide) (t := .int) (t' := .int) (by decide) (by decide)))
    have F217 := F206.other W211 (Or.inr (slot_ne (Or.inl (hw _ (List.mem_of_getElem? (i := 26) rfl))) (Or.inl (hw _ (List.mem_of_getElem? (i := 30) rfl))) (by decide) (t := .int) (t' := .int) (by decide) (by decide)))
    have F218 := F207.same W211
    have F219 := F208.other W211 (Or.inr (slot_ne (Or.inl (hw _ (List.mem_of_getElem? (i := 24) rfl))) (Or.inl (hw _ (List.mem_of_getElem? (i := 30) rfl))) (by decide) (t := .boolean) (t' := .int) (by decide) (by decide)))
    have K220 := K209.wr W211 (Or.inl (List.mem_of_getElem? (i := 0) rfl))
    have Z221 := Nat.le_trans Z210 (Keep.of_wr W211).1
    refine o_iloadN (pc' := 184) X211 hx (hb hby d7_183) rfl rfl ?_
    refine o_sipush (pc' := 187) (v := (128 : Int32)) X211 hx (hb hby d7_184) rfl rfl ?_
    by_cases c222 : x1 < (128 : Int32)
    · refine o_icmpF (pc' := 190) X211 hx (hb hby d7_187) (XT.ii_ge_f c222) rfl ?_
      refine o_iloadN (pc' := 191) X211 hx (hb hby d7_190) rfl rfl ?_
      refine o_istoreN (pc' := 192) (l' := #[.val (.ref a1), .val (.int x1), .val (.int x1), .unset]) X211 hx (hb hby d7_191) rfl rfl ?_
      refine o_goto (pc' := 266) X211 hx (hb hby d7_192) (by decide) (by decide) ?_
      exact J3 T211 h211_ _ X211 e211 N211 Z221 K220 _ One.u _ _ _ _ _ ((if_neg c2).trans (if_pos c222)).symm ((if_neg c2).trans (if_pos c222)).symm ((if_neg c2).trans (if_pos c222)).symm ((if_neg c2).trans (if_pos c222)).symm ((if_neg c2).trans (if_pos c222)).symm F212 F215 F216 F217 F218 F219
    · refine o_icmpT (pc' := 195) X211 hx (hb hby d7_187) (XT.ii_ge_t c222) (by decide) (by decide) ?_
      refine o_iloadN (pc' := 196) X211 hx (hb hby d7_195) rfl rfl ?_
      refine o_sipush (pc' := 199) (v := (192 : Int32)) X211 hx (hb hby d7_196) rfl rfl ?_
      by_cases c223 : x1 < (192 : Int32)
      · refine o_icmpT (pc' := 209) X211 hx (hb hby d7_199) (XT.ii_lt_t c223) (by decide) (by decide) ?_
        refine o_aloadN (pc' := 210) X211 hx (hb hby d7_209) rfl rfl rfl ?_
        refine o_iconst (pc' := 211) (v := (1 : Int32)) X211 hx (hb hby d7_210) rfl rfl ?_
        obtain ⟨T224, h224_, X224, e224, W224, st224⟩ := putF X211 hx hZ hown (host := "") (Or.inl (hw _ (List.mem_of_getElem? (i := 23) rfl))) Via.refl e211 F219 F215 (Or.inl (hw _ (List.mem_of_getElem? (i := 24) rfl))) (hw _ (List.mem_of_getElem? (i := 3) rfl)) (ty := .boolean) (by decide) rfl rfl (g := (mkF m 211 #[.val (.ref a1), .val (.int x1), .val (.int (-1 : Int32)), .unset] [(.int (1 : Int32)), (.ref a1)])) rfl rfl (hb hby d7_211)
        refine oGo.step (f' := (mkF m 214 #[.val (.ref a1), .val (.int x1), .val (.int (-1 : Int32)), .unset] [])) st224 ?_
        have N224 := Fr.snoc X224 N211 ga
        have F225 := F212.wr W224 ga
        have F228 := F215.wr W224
        have F229 := F216.other W224 (Or.inr (slot_ne (Or.inl (hw _ (List.mem_of_getElem? (i := 28) rfl))) (Or.inl (hw _ (List.mem_of_getElem? (i := 24) rfl))) (by decide) (t := .int) (t' := .boolean) (by decide) (by decide)))
        have F230 := F217.other W224 (Or.inr (slot_ne (Or.inl (hw _ (List.mem_of_getElem? (i := 26) rfl))) (Or.inl (hw _ (List.mem_of_getElem? (i := 24) rfl))) (by decide) (t := .int) (t' := .boolean) (by decide) (by decide)))
        have F231 := F218.other W224 (Or.inr (slot_ne (Or.inl (hw _ (List.mem_of_getElem? (i := 30) rfl))) (Or.inl (hw _ (List.mem_of_getElem? (i := 24) rfl))) (by decide) (t := .int) (t' := .boolean) (by decide) (by decide)))
        have F232 := F219.same W224
        have K233 := K220.wr W224 (Or.inl (List.mem_of_getElem? (i := 0) rfl))
        have Z234 := Nat.le_trans Z221 (Keep.of_wr W224).1
        refine o_goto (pc' := 266) X224 hx (hb hby d7_214) (by decide) (by decide) ?_
        exact J3 T224 h224_ _ X224 e224 N224 Z234 K233 _ One.u _ _ _ _ _ ((if_neg c2).trans (if_neg c222)).symm ((if_neg c2).trans ((if_neg c222).trans (if_pos c223))).symm ((if_neg c2).trans ((if_neg c222).trans (if_pos c223))).symm ((if_neg c2).trans ((if_neg c222).trans (if_pos c223))).symm ((if_neg c2).trans ((if_neg c222).trans (if_pos c223))).symm F225 F228 F229 F230 F231 F232
      · refine o_icmpF (pc' := 202) X211 hx (hb hby d7_199) (XT.ii_lt_f c223) rfl ?_
        refine o_iloadN (pc' := 203) X211 hx (hb hby d7_202) rfl rfl ?_
        refine o_sipush (pc' := 206) (v := (247 : Int32)) X211 hx (hb hby d7_203) rfl rfl ?_
        by_cases c235 : (247 : Int32) < x1
        · refine o_icmpF (pc' := 209) X211 hx (hb hby d7_206) (XT.ii_le_f c235) rfl ?_
          refine o_aloadN (pc' := 210) X211 hx (hb hby d7_209) rfl rfl rfl ?_
          refine o_iconst (pc' := 211) (v := (1 : Int32)) X211 hx (hb hby d7_210) rfl rfl ?_
          obtain ⟨T236, h236_, X236, e236, W236, st236⟩ := putF X211 hx hZ hown (host := "") (Or.inl (hw _ (List.mem_of_getElem? (i := 23) rfl))) Via.refl e211 F219 F215 (Or.inl (hw _ (List.mem_of_getElem? (i := 24) rfl))) (hw _ (List.mem_of_getElem? (i := 3) rfl)) (ty := .boolean) (by decide) rfl rfl (g := (mkF m 211 #[.val (.ref a1), .val (.int x1), .val (.int (-1 : Int32)), .unset] [(.int (1 : Int32)), (.ref a1)])) rfl rfl (hb hby d7_211)
          refine oGo.step (f' := (mkF m 214 #[.val (.ref a1), .val (.int x1), .val (.int (-1 : Int32)), .unset] [])) st236 ?_
          have N236 := Fr.snoc X236 N211 ga
          have F237 := F212.wr W236 ga
          have F240 := F215.wr W236
          have F241 := F216.other W236 (Or.inr (slot_ne (Or.inl (hw _ (List.mem_of_getElem? (i := 28) rfl))) (Or.inl (hw _ (List.mem_of_getElem? (i := 24) rfl))) (by decide) (t := .int) (t' := .boolean) (by decide) (by decide)))
          have F242 := F217.other W236 (Or.inr (slot_ne (Or.inl (hw _ (List.mem_of_getElem? (i := 26) rfl))) (Or.inl (hw _ (List.mem_of_getElem? (i := 24) rfl))) (by decide) (t := .int) (t' := .boolean) (by decide) (by decide)))
          have F243 := F218.other W236 (Or.inr (slot_ne (Or.inl (hw _ (List.mem_of_getElem? (i := 30) rfl))) (Or.inl (hw _ (List.mem_of_getElem? (i := 24) rfl))) (by decide) (t := .int) (t' := .boolean) (by decide) (by decide)))
          have F244 := F219.same W236
          have K245 := K220.wr W236 (Or.inl (List.mem_of_getElem? (i := 0) rfl))
          have Z246 := Nat.le_trans Z221 (Keep.of_wr W236).1
          refine o_goto (pc' := 266) X236 hx (hb hby d7_214) (by decide) (by decide) ?_
          exact J3 T236 h236_ _ X236 e236 N236 Z246 K245 _ One.u _ _ _ _ _ ((if_neg c2).trans (if_neg c222)).symm ((if_neg c2).trans ((if_neg c222).trans ((if_neg c223).trans (if_pos c235)))).symm ((if_neg c2).trans ((if_neg c222).trans ((if_neg c223).trans (if_pos c235)))).symm ((if_neg c2).trans ((if_neg c222).trans ((if_neg c223).trans (if_pos c235)))).symm ((if_neg c2).trans ((if_neg c222).trans ((if_neg c223).trans (if_pos c235)))).symm F237 F240 F241 F242 F243 F244
        · refine o_icmpT (pc' := 217) X211 hx (hb hby d7_206) (XT.ii_le_t c235) (by decide) (by decide) ?_
          refine o_aloadN (pc' := 218) X211 hx (hb hby d7_217) rfl rfl rfl ?_
          refine o_iconst (pc' := 219) (v := (1 : Int32)) X211 hx (hb hby d7_218) rfl rfl ?_
          refine o_iloadN (pc' := 220) X211 hx (hb hby d7_219) rfl rfl ?_
          refine o_sipush (pc' := 223) (v := (224 : Int32)) X211 hx (hb hby d7_220) rfl rfl ?_
          have J248 : ∀ (v249 : Int32), v249 = (if x1 < (224 : Int32) then (0 : Int32) else (1 : Int32)) → oGo p e below (oG s (fun v h L => v = some (.int (spec7 x1 f_codePoint f_lacking f_given)) ∧ Fr n0 L ∧ Keep h0 h [a1] ∧ Exa Z h a1 "com/example/harborlog/harborlog/Utf8Decoder" ∧ Fld Z h a1 "com/example/harborlog/harborlog/Utf8Decoder" "codePoint" "I" (.int (fld7_codePoint x1 f_codePoint f_lacking)) ∧ Fld Z h a1 "com/example/harborlog/harborlog/Utf8Decoder" "lacking" "I" (.int (fld7_lacking x1 f_lacking)) ∧ Fld Z h a1 "com/example/harborlog/harborlog/Utf8Decoder" "given" "I" (.int (fld7_given x1 f_lacking f_given)) ∧ Fld Z h a1 "com/example/harborlog/harborlog/Utf8Decoder" "malformed" "Z" (.int (fld7_malformed x1 f_codePoint f_lacking f_given f_malformed))) room7.cells room7.slots) T211 (mkF m 231 #[.val (.ref a1), .val (.int x1), .val (.int (-1 : Int32)), .unset] [(.int v249), (.int (1 : Int32)), (.ref a1)]) := by
            intro v249 hv249
            refine o_iadd (pc' := 232) X211 hx (hb hby d7_231)  rfl ?_
            refine o_iloadN (pc' := 233) X211 hx (hb hby d7_232) rfl rfl ?_
            refine o_sipush (pc' := 236) (v := (240 : Int32)) X211 hx (hb hby d7_233) rfl rfl ?_
            have J251 : ∀ (v252 : Int32), v252 = (if x1 < (240 : Int32) then (0 : Int32) else (1 : Int32)) → oGo p e below (oG s (fun v h L => v = some (.int (spec7 x1 f_codePoint f_lacking f_given)) ∧ Fr n0 L ∧ Keep h0 h [a1] ∧ Exa Z h a1 "com/example/harborlog/harborlog/Utf8Decoder" ∧ Fld Z h a1 "com/example/harborlog/harborlog/Utf8Decoder" "codePoint" "I" (.int (fld7_codePoint x1 f_codePoint f_lacking)) ∧ Fld Z h a1 "com/example/harborlog/harborlog/Utf8Decoder" "lacking" "I" (.int (fld7_lacking x1 f_lacking)) ∧ Fld Z h a1 "com/example/harborlog/harborlog/Utf8Decoder" "given" "I" (.int (fld7_given x1 f_lacking f_given)) ∧ Fld Z h a1 "com/example/harborlog/harborlog/Utf8Decoder" "malformed" "Z" (.int (fld7_malformed x1 f_codePoint f_lacking f_given f_malformed))) room7.cells room7.slots) T211 (mkF m 244 #[.val (.ref a1), .val (.int x1), .val (.int (-1 : Int32)), .unset] [(.int v252), (.int ((1 : Int32) + v249)), (.ref a1)]) := by
              intro v252 hv252
              refine o_iadd (pc' := 245) X211 hx (hb hby d7_244)  rfl ?_
              obtain ⟨T253, h253_, X253, e253, W253, st253⟩ := putF X211 hx hZ hown (host := "") (Or.inl (hw _ (List.mem_of_getElem? (i := 25) rfl))) Via.refl e211 F217 F215 (Or.inl (hw _ (List.mem_of_getElem? (i := 26) rfl))) (hw _ (List.mem_of_getElem? (i := 3) rfl)) (ty := .int) (by decide) rfl rfl (g := (mkF m 245 #[.val (.ref a1), .val (.int x1), .val (.int (-1 : Int32)), .unset] [(.int (((1 : Int32) + v249) + v252)), (.ref a1)])) rfl rfl (hb hby d7_245)
              refine oGo.step (f' := (mkF m 248 #[.val (.ref a1), .val (.int x1), .val (.int (-1 : Int32)), .unset] [])) st253 ?_
              have N253 := Fr.snoc X253 N211 ga
              have F254 := F212.wr W253 ga
              have F257 := F215.wr W253
              have F258 := F216.other W253 (Or.inr (slot_ne (Or.inl (hw _ (List.mem_of_getElem? (i := 28) rfl))) (Or.inl (hw _ (List.mem_of_getElem? (i := 26) rfl))) (by decide) (t := .int) (t' := .int) (by decide) (by decide)))
              have F259 := F217.same W253
              have F260 := F218.other W253 (Or.inr (slot_ne (Or.inl (hw _ (List.mem_of_getElem? (i := 30) rfl))) (Or.inl (hw _ (List.mem_of_getElem? (i := 26) rfl))) (by decide) (t := .int) (t' := .int) (by decide) (by decide)))
              have F261 := F219.other W253 (Or.inr (slot_ne (Or.inl (hw _ (List.mem_of_getElem? (i := 24) rfl))) (Or.inl (hw _ (List.mem_of_getElem? (i := 26) rfl))) (by decide) (t := .boolean) (t' := .int) (by decide) (by decide)))
              have K262 := K220.wr W253 (Or.inl (List.mem_of_getElem? (i := 0) rfl))
              have Z263 := Nat.le_trans Z221 (Keep.of_wr W253).1
              refine o_aloadN (pc' := 249) X253 hx (hb hby d7_248) rfl rfl rfl ?_
              refine o_iloadN (pc' := 250) X253 hx (hb hby d7_249) rfl rfl ?_
              refine o_bipush (pc' := 252) (v := (63 : Int32)) X253 hx (hb hby d7_250) rfl rfl ?_
              refine o_aloadN (pc' := 253) X253 hx (hb hby d7_252) rfl rfl rfl ?_
              obtain ⟨T264, X264, e264, st264⟩ := getF X253 hx hZ hown (host := "") (Or.inl (hw _ (List.mem_of_getElem? (i := 25) rfl))) Via.refl e253 F259 (g := (mkF m 253 #[.val (.ref a1), .val (.int x1), .val (.int (-1 : Int32)), .unset] [(.ref a1), (.int (63 : Int32)), (.int x1), (.ref a1)])) rfl rfl (hb hby d7_253)
              refine oGo.step (f' := (mkF m 256 #[.val (.ref a1), .val (.int x1), .val (.int (-1 : Int32)), .unset] [(.int (((1 : Int32) + v249) + v252)), (.int (63 : Int32)), (.int x1), (.ref a1)])) st264 ?_
              refine o_ishr (pc' := 257) X264 hx (hb hby d7_256)  rfl ?_
              refine o_iand (pc' := 258) X264 hx (hb hby d7_257)  rfl ?_
              obtain ⟨T265, h265_, X265, e265, W265, st265⟩ := putF X264 hx hZ hown (host := "") (Or.inl (hw _ (List.mem_of_getElem? (i := 27) rfl))) Via.refl e264 F258 F257 (Or.inl (hw _ (List.mem_of_getElem? (i := 28) rfl))) (hw _ (List.mem_of_getElem? (i := 3) rfl)) (ty := .int) (by decide) rfl rfl (g := (mkF m 258 #[.val (.ref a1), .val (.int x1), .val (.int (-1 : Int32)), .unset] [(.int (x1 &&& ((63 : Int32) >>> ((((1 : Int32) + v249) + v252) &&& 31)))), (.ref a1)])) rfl rfl (hb hby d7_258)
              refine oGo.step (f' := (mkF m 261 #[.val (.ref a1), .val (.int x1), .val (.int (-1 : Int32)), .unset] [])) st265 ?_
              have N265 := Fr.snoc X265 N253 ga
              have F266 := F254.wr W265 ga
              have F269 := F257.wr W265
              have F270 := F258.same W265
              have F271 := F259.other W265 (Or.inr (slot_ne (Or.inl (hw _ (List.mem_of_getElem? (i := 26) rfl))) (Or.inl (hw _ (List.mem_of_getElem? (i := 28) rfl))) (by decide) (t := .int) (t' := .int) (by decide) (by decide)))
              have F272 := F260.other W265 (Or.inr (slot_ne (Or.inl (hw _ (List.mem_of_getElem? (i := 30) rfl))) (Or.inl (hw _ (List.mem_of_getElem? (i := 28) rfl))) (by decide) (t := .int) (t' := .int) (by decide) (by decide)))
              have F273 := F261.other W265 (Or.inr (slot_ne (Or.inl (hw _ (List.mem_of_getElem? (i := 24) rfl))) (Or.inl (hw _ (List.mem_of_getElem? (i := 28) rfl))) (by decide) (t := .boolean) (t' := .int) (by decide) (by decide)))
              have K274 := K262.wr W265 (Or.inl (List.mem_of_getElem? (i := 0) rfl))
              have Z275 := Nat.le_trans Z263 (Keep.of_wr W265).1
              refine o_aloadN (pc' := 262) X265 hx (hb hby d7_261) rfl rfl rfl ?_
              refine o_iconst (pc' := 263) (v := (1 : Int32)) X265 hx (hb hby d7_262) rfl rfl ?_
              obtain ⟨T276, h276_, X276, e276, W276, st276⟩ := putF X265 hx hZ hown (host := "") (Or.inl (hw _ (List.mem_of_getElem? (i := 29) rfl))) Via.refl e265 F272 F269 (Or.inl (hw _ (List.mem_of_getElem? (i := 30) rfl))) (hw _ (List.mem_of_getElem? (i := 3) rfl)) (ty := .int) (by decide) rfl rfl (g := (mkF m 263 #[.val (.ref a1), .val (.int x1), .val (.int (-1 : Int32)), .unset] [(.int (1 : Int32)), (.ref a1)])) rfl rfl (hb hby d7_263)
              refine oGo.step (f' := (mkF m 266 #[.val (.ref a1), .val (.int x1), .val (.int (-1 : Int32)), .unset] [])) st276 ?_
              have N276 := Fr.snoc X276 N265 ga
              have F277 := F266.wr W276 ga
              have F280 := F269.wr W276
              have F281 := F270.other W276 (Or.inr (slot_ne (Or.inl (hw _ (List.mem_of_getElem? (i := 28) rfl))) (Or.inl (hw _ (List.mem_of_getElem? (i := 30) rfl))) (by decide) (t := .int) (t' := .int) (by decide) (by decide)))
              have F282 := F271.other W276 (Or.inr (slot_ne (Or.inl (hw _ (List.mem_of_getElem? (i := 26) rfl))) (Or.inl (hw _ (List.mem_of_getElem? (i := 30) rfl))) (by decide) (t := .int) (t' := .int) (by decide) (by decide)))
              have F283 := F272.same W276
              have F284 := F273.other W276 (Or.inr (slot_ne (Or.inl (hw _ (List.mem_of_getElem? (i := 24) rfl))) (Or.inl (hw _ (List.mem_of_getElem? (i := 30) rfl))) (by decide) (t := .boolean) (t' := .int) (by decide) (by decide)))
              have K285 := K274.wr W276 (Or.inl (List.mem_of_getElem? (i := 0) rfl))
              have Z286 := Nat.le_trans Z275 (Keep.of_wr W276).1
              subst hv252 hv249
              exact J3 T276 h276_ _ X276 e276 N276 Z286 K285 _ One.u _ _ _ _ _ ((if_neg c2).trans (if_neg c222)).symm ((if_neg c2).trans ((if_neg c222).trans ((if_neg c223).trans (if_neg c235)))).symm ((if_neg c2).trans ((if_neg c222).trans ((if_neg c223).trans (if_neg c235)))).symm ((if_neg c2).trans ((if_neg c222).trans ((if_neg c223).trans (if_neg c235)))).symm ((if_neg c2).trans ((if_neg c222).trans ((if_neg c223).trans (if_neg c235)))).symm F277 F280 F281 F282 F283 F284
            by_cases c250 : x1 < (240 : Int32)
            · refine o_icmpT (pc' := 243) X211 hx (hb hby d7_236) (XT.ii_lt_t c250) (by decide) (by decide) ?_
              refine o_iconst (pc' := 244) (v := (0 : Int32)) X211 hx (hb hby d7_243) rfl rfl ?_
              exact J251 _ (if_pos c250).symm
            · refine o_icmpF (pc' := 239) X211 hx (hb hby d7_236) (XT.ii_lt_f c250) rfl ?_
              refine o_iconst (pc' := 240) (v := (1 : Int32)) X211 hx (hb hby d7_239) rfl rfl ?_
              refine o_goto (pc' := 244) X211 hx (hb hby d7_240) (by decide) (by decide) ?_
              exact J251 _ (if_neg c250).symm
          by_cases c247 : x1 < (224 : Int32)
          · refine o_icmpT (pc' := 230) X211 hx (hb hby d7_223) (XT.ii_lt_t c247) (by decide) (by decide) ?_
            refine o_iconst (pc' := 231) (v := (0 : Int32)) X211 hx (hb hby d7_230) rfl rfl ?_
            exact J248 _ (if_pos c247).symm
          · refine o_icmpF (pc' := 226) X211 hx (hb hby d7_223) (XT.ii_lt_f c247) rfl ?_
            refine o_iconst (pc' := 227) (v := (1 : Int32)) X211 hx (hb hby d7_226) rfl rfl ?_
            refine o_goto (pc' := 231) X211 hx (hb hby d7_227) (by decide) (by decide) ?_
            exact J248 _ (if_neg c247).symm
theorem own_inv_next (f_codePoint x1 : Int32) {f_lacking f_given f_malformed : Int32} (I : oInv f_lacking f_given f_malformed) : oInv (fld7_lacking x1 f_lacking) (fld7_given x1 f_lacking f_given) (fld7_malformed x1 f_codePoint f_lacking f_given f_malformed) := by
  obtain ⟨hk, hz⟩ := I
  have hB : ∀ u : Int32, (0 ||| u = 0 ∨ 0 ||| u = 1) → True := fun _ _ => trivial
  have z1 : fld7_malformed x1 f_codePoint f_lacking f_given f_malformed = 0 ∨ fld7_malformed x1 f_codePoint f_lacking f_given f_malformed = 1 := by
    unfold fld7_malformed
    rcases hz with rfl | rfl <;> (repeat' split) <;> first | exact Or.inl rfl | exact Or.inr rfl | decide
  refine ⟨?_, z1⟩
  have zero : (fld7_lacking x1 0 = 0 ∧ fld7_given x1 0 f_given = 0) ∨ (fld7_lacking x1 0 = 1 ∧ (fld7_given x1 0 f_given = 1)) ∨ (fld7_lacking x1 0 = 2 ∧ (fld7_given x1 0 f_given = 1)) ∨ (fld7_lacking x1 0 = 3 ∧ fld7_given x1 0 f_given = 1) := by
    have h0 : ¬ (0 : Int32) < 0 := by decide
    unfold fld7_lacking fld7_given
    simp only [if_neg h0]
    by_cases a : x1 < 128
    · simp only [if_pos a]; exact Or.inl ⟨(by first | rfl | trivial), (by first | rfl | trivial)⟩
    · by_cases b : x1 < 192
      · simp only [if_neg a, if_pos b]; exact Or.inl ⟨(by first | rfl | trivial), (by first | rfl | trivial)⟩
      · by_cases c : 247 < x1
        · simp only [if_neg a, if_neg b, if_pos c]; exact Or.inl ⟨(by first | rfl | trivial), (by first | rfl | trivial)⟩
        · simp only [if_neg a, if_neg b, if_neg c]
          by_cases d : x1 < 224
          · have d2 : x1 < 240 := Int32.lt_trans d (by decide)
            simp only [if_pos d, if_pos d2]; exact Or.inr (Or.inl ⟨(by first | rfl | trivial), (by first | rfl | trivial)⟩)
          · by_cases f : x1 < 240
            · simp only [if_neg d, if_pos f]; exact Or.inr (Or.inr (Or.inl ⟨(by first | rfl | trivial), (by first | rfl | trivial)⟩))
            · simp only [if_neg d, if_neg f]; exact Or.inr (Or.inr (Or.inr ⟨(by first | rfl | trivial), (by first | rfl | trivial)⟩))
  by_cases h : 0 < f_lacking ∧ (x1 &&& 192) = 128
  · have e1 : fld7_lacking x1 f_lacking = f_lacking - 1 := by unfold fld7_lacking; rw [if_pos h.1, if_pos h.2]
    have e2 : fld7_given x1 f_lacking f_given = if f_lacking - 1 = 0 then 0 else f_given + 1 := by unfold fld7_given; rw [if_pos h.1, if_pos h.2]
    rw [e1, e2]
    rcases hk with ⟨rfl, rfl⟩ | ⟨rfl, rfl | rfl | rfl⟩ | ⟨rfl, rfl | rfl⟩ | ⟨rfl, rfl⟩ <;> first | exact absurd h.1 (by decide) | decide
  · have e1 : fld7_lacking x1 f_lacking = fld7_lacking x1 0 := by
      have h0 : ¬ (0 : Int32) < 0 := by decide
      unfold fld7_lacking
      by_cases a : 0 < f_lacking
      · rw [if_pos a, if_neg (fun q => h ⟨a, q⟩), if_neg h0]
      · rw [if_neg a, if_neg h0]
    have e2 : fld7_given x1 f_lacking f_given = fld7_given x1 0 f_given := by
      have h0 : ¬ (0 : Int32) < 0 := by decide
      unfold fld7_given
      by_cases a : 0 < f_lacking
      · rw [if_pos a, if_neg (fun q => h ⟨a, q⟩), if_neg h0]
      · rw [if_neg a, if_neg h0]
    rw [e1, e2]
    rcases zero with a | ⟨a, b⟩ | ⟨a, b⟩ | ⟨a, b⟩
    · exact Or.inl a
    · exact Or.inr (Or.inl ⟨a, Or.inl b⟩)
    · exact Or.inr (Or.inr (Or.inl ⟨a, Or.inl b⟩))
    · exact Or.inr (Or.inr (Or.inr ⟨a, b⟩))

/-! bytes -/
def oB (x : Int32) : Prop := 0 ≤ x.toInt ∧ x.toInt < 256
theorem own_enum (y : Int32) (K : Nat) (h0 : 0 ≤ y.toInt) (h1 : y.toInt < K) : ∃ n : Nat, n < K ∧ y = Int32.ofInt n :=
  ⟨y.toInt.toNat, by omega, by rw [Int.toNat_of_nonneg h0]; exact (Int32.ofInt_toInt y).symm⟩
theorem own_tabB : ∀ n : Nat, n < 256 → ((decide ((Int32.ofInt n &&& 192) = 128) == decide (128 ≤ n ∧ n < 192)) && (decide ((Int32.ofInt n &&& 63).toInt = (n % 64 : Nat))) && (decide ((Int32.ofInt n &&& 31).toInt = (n % 32 : Nat))) && (decide ((Int32.ofInt n &&& 15).toInt = (n % 16 : Nat))) && (decide ((Int32.ofInt n &&& 7).toInt = (n % 8 : Nat))) && decide ((Int32.ofInt n).toInt = n)) = true := by decide +kernel
theorem own_byte {x : Int32} (h : oB x) : ((x &&& 192) = 128 ↔ (128 ≤ x.toInt ∧ x.toInt < 192)) ∧ (x &&& 63).toInt = x.toInt % 64 ∧ (x &&& 31).toInt = x.toInt % 32 ∧ (x &&& 15).toInt = x.toInt % 16 ∧ (x &&& 7).toInt = x.toInt % 8 := by
  obtain ⟨n, hn, rfl⟩ := own_enum x 256 h.1 h.2
  have T := own_tabB n hn
  simp only [Bool.and_eq_true, decide_eq_true_eq, beq_iff_eq, decide_eq_decide] at T
  obtain ⟨⟨⟨⟨⟨t1, t2⟩, t3⟩, t4⟩, t5⟩, t6⟩ := T
  rw [t1, t2, t3, t4, t5, t6]
  omega
theorem own_lit : (0 : Int32).toInt = 0 ∧ (1 : Int32).toInt = 1 ∧ (2 : Int32).toInt = 2 ∧ (3 : Int32).toInt = 3 ∧ (128 : Int32).toInt = 128 ∧ (192 : Int32).toInt = 192 ∧ (247 : Int32).toInt = 247 ∧ (224 : Int32).toInt = 224 ∧ (240 : Int32).toInt = 240 ∧ (1114111 : Int32).toInt = 1114111 ∧ (55296 : Int32).toInt = 55296 ∧ (57343 : Int32).toInt = 57343 ∧ (2048 : Int32).toInt = 2048 ∧ (65536 : Int32).toInt = 65536 := ⟨rfl, rfl, rfl, rfl, rfl, rfl, rfl, rfl, rfl, rfl, rfl, rfl, rfl, rfl⟩
/-- one byte more of a character's bits -/
theorem own_shift {cp x : Int32} (h0 : 0 ≤ cp.toInt) (h1 : cp.toInt < 33554432) (hx : oB x) (hc : 128 ≤ x.toInt ∧ x.toInt < 192) : ((cp <<< ((6 : Int32) &&& 31)) ||| (x &&& (63 : Int32))).toInt = cp.toInt * 64 + (x.toInt - 128) := by
  have b := (own_byte hx).2.1
  have s := c_ishl cp 6 6 (by decide)
  have r := rng32 (cp <<< ((6 : Int32) &&& 31))
  have o := c_or (cp <<< ((6 : Int32) &&& 31)) (x &&& (63 : Int32)) 6 (by decide) 64 (by decide)
  have r2 := rng32 ((cp <<< ((6 : Int32) &&& 31)) ||| (x &&& (63 : Int32)))
  generalize (cp <<< ((6 : Int32) &&& 31)) = u at *
  generalize (x &&& (63 : Int32)) = y at *
  have e : u.toInt = cp.toInt * 64 := by omega
  have o' := o (by omega) (by omega) (by omega)
  omega
def oScal (v g : Int32) : Bool := decide (¬ v < oLeast g ∧ ¬ (1114111 : Int32) < v ∧ (v < (55296 : Int32) ∨ (57343 : Int32) < v))
abbrev oSh (cp x : Int32) : Int32 := (cp <<< ((6 : Int32) &&& 31)) ||| (x &&& (63 : Int32))
def oTop (x : Int32) : Int32 := ((1 : Int32) + (if x < (224 : Int32) then (0 : Int32) else (1 : Int32))) + (if x < (240 : Int32) then (0 : Int32) else (1 : Int32))
/-! what 'next' does, case by case -/
theorem nx_ascii {x cp k g z : Int32} (hk : k = 0) (hz : z = 0 ∨ z = 1) (h : x < 128) : fld7_codePoint x cp k = cp ∧ fld7_lacking x k = 0 ∧ fld7_given x k g = 0 ∧ fld7_malformed x cp k g z = z ∧ spec7 x cp k g = x := by
  subst hk
  have h0 : ¬ (0 : Int32) < 0 := by decide
  unfold fld7_codePoint fld7_lacking fld7_given fld7_malformed spec7
  simp only [if_neg h0, if_pos h]
  exact ⟨(by first | rfl | trivial), (by first | rfl | trivial), (by first | rfl | trivial), by rcases hz with rfl | rfl <;> decide, (by first | rfl | trivial)⟩
theorem nx_bad {x cp k g z : Int32} (hk : k = 0) (h : ¬ x < 128) (h2 : x < 192 ∨ 247 < x) : fld7_codePoint x cp k = cp ∧ fld7_lacking x k = 0 ∧ fld7_given x k g = 0 ∧ fld7_malformed x cp k g z = 1 ∧ spec7 x cp k g = -1 := by
  subst hk
  have h0 : ¬ (0 : Int32) < 0 := by decide
  unfold fld7_codePoint fld7_lacking fld7_given fld7_malformed spec7
  simp only [if_neg h0, if_neg h]
  by_cases q : x < 192
  · simp only [if_pos q]; exact ⟨(by first | rfl | trivial), (by first | rfl | trivial), (by first | rfl | trivial), (by first | rfl | trivial), (by first | rfl | trivial)⟩
  · have q2 := h2.resolve_left q
    simp only [if_neg q, if_pos q2]; exact ⟨(by first | rfl | trivial), (by first | rfl | trivial), (by first | rfl | trivial), (by first | rfl | trivial), (by first | rfl | trivial)⟩
theorem nx_lead {x cp k g z : Int32} (hk : k = 0) (hz : z = 0 ∨ z = 1) (h : ¬ x < 192) (h2 : ¬ 247 < x) : fld7_codePoint x cp k = (x &&& ((63 : Int32) >>> (oTop x &&& 31))) ∧ fld7_lacking x k = oTop x ∧ fld7_given x k g = 1 ∧ fld7_malformed x cp k g z = z ∧ spec7 x cp k g = -1 := by
  subst hk
  have h0 : ¬ (0 : Int32) < 0 := by decide
  have h1 : ¬ x < 128 := fun q => h (Int32.lt_trans q (by decide))
  unfold fld7_codePoint fld7_lacking fld7_given fld7_malformed spec7
  simp only [if_neg h0, if_neg h1, if_neg h, if_neg h2]
  exact ⟨(by first | rfl | trivial), (by first | rfl | trivial), (by first | rfl | trivial), by rcases hz with rfl | rfl <;> decide, (by first | rfl | trivial)⟩
theorem nx_cut {x cp k g z : Int32} (hk : 0 < k) (hz : z = 0 ∨ z = 1) (h : ¬ (x &&& 192) = 128) : fld7_malformed x cp k g z = 1 ∧ fld7_lacking x k = fld7_lacking x 0 ∧ fld7_given x k g = fld7_given x 0 g ∧ spec7 x cp k g = spec7 x cp 0 g := by
  have h0 : ¬ (0 : Int32) < 0 := by decide
  unfold fld7_malformed fld7_lacking fld7_given spec7
  simp only [if_pos hk, if_neg h, if_neg h0]
  refine ⟨?_, trivial, trivial, trivial⟩
  rcases hz with rfl | rfl <;> (repeat' split) <;> first | rfl | decide
theorem nx_more {x cp k g z : Int32} (hk : 0 < k) (h : (x &&& 192) = 128) (h1 : ¬ k - 1 = 0) : fld7_codePoint x cp k = oSh cp x ∧ fld7_lacking x k = k - 1 ∧ fld7_given x k g = g + 1 ∧ fld7_malformed x cp k g z = z ∧ spec7 x cp k g = -1 := by
  unfold fld7_codePoint fld7_lacking fld7_given fld7_malformed spec7
  simp only [if_pos hk, if_pos h, if_neg h1]
  exact ⟨(by first | rfl | trivial), (by first | rfl | trivial), (by first | rfl | trivial), (by first | rfl | trivial), (by first | rfl | trivial)⟩
theorem nx_last {x cp k g z : Int32} (hk : 0 < k) (hz : z = 0 ∨ z = 1) (h : (x &&& 192) = 128) (h1 : k - 1 = 0) : fld7_lacking x k = 0 ∧ fld7_given x k g = 0 ∧ fld7_malformed x cp k g z = (if oScal (oSh cp x) g = true then z else 1) ∧ spec7 x cp k g = (if oScal (oSh cp x) g = true then oSh cp x else -1) := by
  have e : ∀ v : Int32, (if v < (oLeast g) then (0 : Int32) else (if (1114111 : Int32) < v then (0 : Int32) else (if v < (55296 : Int32) then (1 : Int32) else (if (57343 : Int32) < v then (1 : Int32) else (0 : Int32))))) = if oScal v g = true then 1 else 0 := by
    intro v
    by_cases a : v < oLeast g <;> by_cases b : (1114111 : Int32) < v <;> by_cases c : v < (55296 : Int32) <;> by_cases d : (57343 : Int32) < v <;> simp [oScal, a, b, c, d]
  unfold fld7_lacking fld7_given fld7_malformed spec7
  simp only [if_pos hk, if_pos h, if_pos h1, e]
  refine ⟨h1, trivial, ?_, ?_⟩
  · by_cases q : oScal (oSh cp x) g = true
    · rw [if_pos q, if_pos q]; rcases hz with rfl | rfl <;> decide
    · rw [if_neg q, if_neg q]; rcases hz with rfl | rfl <;> decide
  · by_cases q : oScal (oSh cp x) g = true
    · rw [if_pos q, if_pos q]; rfl
    · rw [if_neg q, if_neg q]; rfl

theorem d6_0 : decode prog_155_method_4_code 0 = .ok (.aload_n 0, 1) := by decide +kernel
theorem d6_1 : decode prog_155_method_4_code 1 = .ok (.getfield 29, 3) := by decide +kernel
theorem d6_4 : decode prog_155_method_4_code 4 = .ok (.ireturn, 1) := by decide +kernel
theorem ef6 (m : MethodId) (a1 : Addr) : entryFrame m #[(.ref a1)] 1 = mkF m 0 #[.val (.ref a1)] [] := by first | (simp [entryFrame, mkF, argsToLocals, Value.category]; done) | rfl
def room6 : Room := { frames := 0, cells := 0, slots := 0, locals := 0 }
set_option maxRecDepth 65536 in
set_option maxHeartbeats 40000000 in
theorem rm6 (l : Launch) (Z : State) (a0 : Array Value) (hw : ∀ d ∈ tables_1, d.before a0 Z = true) (a1 : Addr) (f_given : Int32) (h0 : Heap) (n0 : Nat) (Z0 : n0 ≤ h0.size) (E0 : Exa Z h0 a1 "com/example/harborlog/harborlog/Utf8Decoder") (F_given : Fld Z h0 a1 "com/example/harborlog/harborlog/Utf8Decoder" "given" "I" (.int f_given))  :
    oCon l Z (⟨"com/example/harborlog/harborlog/Utf8Decoder", "unfinished", "()I"⟩ : MethodName) prog_155_method_4_code 1 (some .int) room6 #[(.ref a1)] h0 (fun v h L => v = some (.int f_given) ∧ L = [] ∧ h = h0) := by
  refine oCon.of (plainFor_of_name pn_1) ?_
  intro p e s m below meth c s₁ hx hby hml hown hnm hret hlk hZ X0 e0
  rw [ef6 m a1]
  have N0 := Fr.nil n0
  refine o_aloadN (pc' := 1) X0 hx (hb hby d6_0) rfl rfl rfl ?_
  obtain ⟨T1, X1, e1, st1⟩ := getF X0 hx hZ hown (host := "") (Or.inl (hw _ (List.mem_of_getElem? (i := 29) rfl))) Via.refl e0 F_given (g := (mkF m 1 #[.val (.ref a1)] [(.ref a1)])) rfl rfl (hb hby d6_1)
  refine oGo.step (f' := (mkF m 4 #[.val (.ref a1)] [(.int f_given)])) st1 ?_
  refine o_retI X1 hx hret hlk (hb hby d6_4) (by decide) (by decide) ?_
  exact ⟨rfl, rfl, e1⟩
theorem d5_0 : decode prog_155_method_5_code 0 = .ok (.aload_n 0, 1) := by decide +kernel
theorem d5_1 : decode prog_155_method_5_code 1 = .ok (.getfield 10, 3) := by decide +kernel
theorem d5_4 : decode prog_155_method_5_code 4 = .ok (.ifCond .ne 14, 3) := by decide +kernel
theorem d5_7 : decode prog_155_method_5_code 7 = .ok (.aload_n 0, 1) := by decide +kernel
theorem d5_8 : decode prog_155_method_5_code 8 = .ok (.getfield 14, 3) := by decide +kernel
theorem d5_11 : decode prog_155_method_5_code 11 = .ok (.ifCond .ne 7, 3) := by decide +kernel
theorem d5_14 : decode prog_155_method_5_code 14 = .ok (.iconst 1, 1) := by decide +kernel
theorem d5_15 : decode prog_155_method_5_code 15 = .ok (.goto 4, 3) := by decide +kernel
theorem d5_18 : decode prog_155_method_5_code 18 = .ok (.iconst 0, 1) := by decide +kernel
theorem d5_19 : decode prog_155_method_5_code 19 = .ok (.istore_n 1, 1) := by decide +kernel
theorem d5_20 : decode prog_155_method_5_code 20 = .ok (.aload_n 0, 1) := by decide +kernel
theorem d5_21 : decode prog_155_method_5_code 21 = .ok (.iconst 0, 1) := by decide +kernel
theorem d5_22 : decode prog_155_method_5_code 22 = .ok (.putfield 26, 3) := by decide +kernel
theorem d5_25 : decode prog_155_method_5_code 25 = .ok (.aload_n 0, 1) := by decide +kernel
theorem d5_26 : decode prog_155_method_5_code 26 = .ok (.iconst 0, 1) := by decide +kernel
theorem d5_27 : decode prog_155_method_5_code 27 = .ok (.putfield 14, 3) := by decide +kernel
theorem d5_30 : decode prog_155_method_5_code 30 = .ok (.aload_n 0, 1) := by decide +kernel
theorem d5_31 : decode prog_155_method_5_code 31 = .ok (.iconst 0, 1) := by decide +kernel
theorem d5_32 : decode prog_155_method_5_code 32 = .ok (.putfield 29, 3) := by decide +kernel
theorem d5_35 : decode prog_155_method_5_code 35 = .ok (.aload_n 0, 1) := by decide +kernel
theorem d5_36 : decode prog_155_method_5_code 36 = .ok (.iconst 0, 1) := by decide +kernel
theorem d5_37 : decode prog_155_method_5_code 37 = .ok (.putfield 10, 3) := by decide +kernel
theorem d5_40 : decode prog_155_method_5_code 40 = .ok (.iload_n 1, 1) := by decide +kernel
theorem d5_41 : decode prog_155_method_5_code 41 = .ok (.ireturn, 1) := by decide +kernel
theorem ef5 (m : MethodId) (a1 : Addr) : entryFrame m #[(.ref a1)] 2 = mkF m 0 #[.val (.ref a1), .unset] [] := by first | (simp [entryFrame, mkF, argsToLocals, Value.category]; done) | rfl
def spec5 (f_lacking : Int32) (f_malformed : Int32) : Int32 := (if f_malformed = 0 then (if f_lacking = 0 then (1 : Int32) else (0 : Int32)) else (0 : Int32))
def room5 : Room := { frames := 0, cells := 0, slots := 0, locals := 0 }
set_option maxRecDepth 65536 in
set_option maxHeartbeats 40000000 in
theorem rm5 (l : Launch) (Z : State) (a0 : Array Value) (hw : ∀ d ∈ tables_1, d.before a0 Z = true) (a1 : Addr) (f_codePoint : Int32) (f_lacking : Int32) (f_given : Int32) (f_malformed : Int32) (h0 : Heap) (n0 : Nat) (Z0 : n0 ≤ h0.size) (E0 : Exa Z h0 a1 "com/example/harborlog/harborlog/Utf8Decoder") (F_codePoint : Fld Z h0 a1 "com/example/harborlog/harborlog/Utf8Decoder" "codePoint" "I" (.int f_codePoint)) (F_lacking : Fld Z h0 a1 "com/example/harborlog/harborlog/Utf8Decoder" "lacking" "I" (.int f_lacking)) (F_given : Fld Z h0 a1 "com/example/harborlog/harborlog/Utf8Decoder" "given" "I" (.int f_given)) (F_malformed : Fld Z h0 a1 "com/example/harborlog/harborlog/Utf8Decoder" "malformed" "Z" (.int f_malformed)) (ga : n0 ≤ a1)  :
    oCon l Z (⟨"com/example/harborlog/harborlog/Utf8Decoder", "end", "()Z"⟩ : MethodName) prog_155_method_5_code 2 (some .boolean) room5 #[(.ref a1)] h0 (fun v h L => v = some (.int (spec5 f_lacking f_malformed)) ∧ Fr n0 L ∧ Keep h0 h [a1] ∧ Exa Z h a1 "com/example/harborlog/harborlog/Utf8Decoder" ∧ Fld Z h a1 "com/example/harborlog/harborlog/Utf8Decoder" "codePoint" "I" (.int (0 : Int32)) ∧ Fld Z h a1 "com/example/harborlog/harborlog/Utf8Decoder" "lacking" "I" (.int (0 : Int32)) ∧ Fld Z h a1 "com/example/harborlog/harborlog/Utf8Decoder" "given" "I" (.int (0 : Int32)) ∧ Fld Z h a1 "com/example/harborlog/harborlog/Utf8Decoder" "malformed" "Z" (.int (0 : Int32))) := by
  refine oCon.of (plainFor_of_name pn_1) ?_
  intro p e s m below meth c s₁ hx hby hml hown hnm hret hlk hZ X0 e0
  rw [ef5 m a1]
  have N0 := Fr.nil n0
  have K0 := Keep.refl h0 [a1]
  refine o_aloadN (pc' := 1) X0 hx (hb hby d5_0) rfl rfl rfl ?_
  obtain ⟨T1, X1, e1, st1⟩ := getF X0 hx hZ hown (host := "") (Or.inl (hw _ (List.mem_of_getElem? (i := 23) rfl))) Via.refl e0 F_malformed (g := (mkF m 1 #[.val (.ref a1), .unset] [(.ref a1)])) rfl rfl (hb hby d5_1)
  refine oGo.step (f' := (mkF m 4 #[.val (.ref a1), .unset] [(.int f_malformed)])) st1 ?_
  have J3 : ∀ (T7 : State) (X7 : Stand p l e room5 s m #[(.ref a1)] below meth c T7 [] (0) (0)) (e7 : T7.heap = h0) (v6 : Int32), v6 = (if f_malformed = 0 then (if f_lacking = 0 then (1 : Int32) else (0 : Int32)) else (0 : Int32)) → oGo p e below (oG s (fun v h L => v = some (.int (spec5 f_lacking f_malformed)) ∧ Fr n0 L ∧ Keep h0 h [a1] ∧ Exa Z h a1 "com/example/harborlog/harborlog/Utf8Decoder" ∧ Fld Z h a1 "com/example/harborlog/harborlog/Utf8Decoder" "codePoint" "I" (.int (0 : Int32)) ∧ Fld Z h a1 "com/example/harborlog/harborlog/Utf8Decoder" "lacking" "I" (.int (0 : Int32)) ∧ Fld Z h a1 "com/example/harborlog/harborlog/Utf8Decoder" "given" "I" (.int (0 : Int32)) ∧ Fld Z h a1 "com/example/harborlog/harborlog/Utf8Decoder" "malformed" "Z" (.int (0 : Int32))) room5.cells room5.slots) T7 (mkF m 19 #[.val (.ref a1), .unset] [(.int v6)]) := by
    intro T7 X7 e7 v6 hv6
    refine o_istoreN (pc' := 20) (l' := #[.val (.ref a1), .val (.int v6)]) X7 hx (hb hby d5_19) rfl rfl ?_
    refine o_aloadN (pc' := 21) X7 hx (hb hby d5_20) rfl rfl rfl ?_
    refine o_iconst (pc' := 22) (v := (0 : Int32)) X7 hx (hb hby d5_21) rfl rfl ?_
    obtain ⟨T8, h8_, X8, e8, W8, st8⟩ := putF X7 hx hZ hown (host := "") (Or.inl (hw _ (List.mem_of_getElem? (i := 27) rfl))) Via.refl e7 F_codePoint E0 (Or.inl (hw _ (List.mem_of_getElem? (i := 28) rfl))) (hw _ (List.mem_of_getElem? (i := 3) rfl)) (ty := .int) (by decide) rfl rfl (g := (mkF m 22 #[.val (.ref a1), .val (.int v6)] [(.int (0 : Int32)), (.ref a1)])) rfl rfl (hb hby d5_22)
    refine oGo.step (f' := (mkF m 25 #[.val (.ref a1), .val (.int v6)] [])) st8 ?_
    have N8 := Fr.snoc X8 N0 ga
    have F9 := E0.wr W8
    have F10 := F_codePoint.same W8
    have F11 := F_lacking.other W8 (Or.inr (slot_ne (Or.inl (hw _ (List.mem_of_getElem? (i := 26) rfl))) (Or.inl (hw _ (List.mem_of_getElem? (i := 28) rfl))) (by decide) (t := .int) (t' := .int) (by decide) (by decide)))
    have F12 := F_given.other W8 (Or.inr (slot_ne (Or.inl (hw _ (List.mem_of_getElem? (i := 30) rfl))) (Or.inl (hw _ (List.mem_of_getElem? (i := 28) rfl))) (by decide) (t := .int) (t' := .int) (by decide) (by decide)))
    have F13 := F_malformed.other W8 (Or.inr (slot_ne (Or.inl (hw _ (List.mem_of_getElem? (i := 24) rfl))) (Or.inl (hw _ (List.mem_of_getElem? (i := 28) rfl))) (by decide) (t := .boolean) (t' := .int) (by decide) (by decide)))
    have K14 := K0.wr W8 (Or.inl (List.mem_of_getElem? (i := 0) rfl))
    have Z15 := Nat.le_trans Z0 (Keep.of_wr W8).1
    refine o_aloadN (pc' := 26) X8 hx (hb hby d5_25) rfl rfl rfl ?_
    refine o_iconst (pc' := 27) (v := (0 : Int32)) X8 hx (hb hby d5_26) rfl rfl ?_
    obtain ⟨T16, h16_, X16, e16, W16, st16⟩ := putF X8 hx hZ hown (host := "") (Or.inl (hw _ (List.mem_of_getElem? (i := 25) rfl))) Via.refl e8 F11 F9 (Or.inl (hw _ (List.mem_of_getElem? (i := 26) rfl))) (hw _ (List.mem_of_getElem? (i := 3) rfl)) (ty := .int) (by decide) rfl rfl (g := (mkF m 27 #[.val (.ref a1), .val (.int v6)] [(.int (0 : Int32)), (.ref a1)])) rfl rfl (hb hby d5_27)
    refine oGo.step (f' := (mkF m 30 #[.val (.ref a1), .val (.int v6)] [])) st16 ?_
    have N16 := Fr.snoc X16 N8 ga
    have F17 := F9.wr W16
    have F18 := F10.other W16 (Or.inr (slot_ne (Or.inl (hw _ (List.mem_of_getElem? (i := 28) rfl))) (Or.inl (hw _ (List.mem_of_getElem? (i := 26) rfl))) (by decide) (t := .int) (t' := .int) (by decide) (by decide)))
    have F19 := F11.same W16
    have F20 := F12.other W16 (Or.inr (slot_ne (Or.inl (hw _ (List.mem_of_getElem? (i := 30) rfl))) (Or.inl (hw _ (List.mem_of_getElem? (i := 26) rfl))) (by decide) (t := .int) (t' := .int) (by decide) (by decide)))
    have F21 := F13.other W16 (Or.inr (slot_ne (Or.inl (hw _ (List.mem_of_getElem? (i := 24) rfl))) (Or.inl (hw _ (List.mem_of_getElem? (i := 26) rfl))) (by decide) (t := .boolean) (t' := .int) (by decide) (by decide)))
    have K22 := K14.wr W16 (Or.inl (List.mem_of_getElem? (i := 0) rfl))
    have Z23 := Nat.le_trans Z15 (Keep.of_wr W16).1
    refine o_aloadN (pc' := 31) X16 hx (hb hby d5_30) rfl rfl rfl ?_
    refine o_iconst (pc' := 32) (v := (0 : Int32)) X16 hx (hb hby d5_31) rfl rfl ?_
    obtain ⟨T24, h24_, X24, e24, W24, st24⟩ := putF X16 hx hZ hown (host := "") (Or.inl (hw _ (List.mem_of_getElem? (i := 29) rfl))) Via.refl e16 F20 F17 (Or.inl (hw _ (List.mem_of_getElem? (i := 30) rfl))) (hw _ (List.mem_of_getElem? (i := 3) rfl)) (ty := .int) (by decide) rfl rfl (g := (mkF m 32 #[.val (.ref a1), .val (.int v6)] [(.int (0 : Int32)), (.ref a1)])) rfl rfl (hb hby d5_32)
    refine oGo.step (f' := (mkF m 35 #[.val (.ref a1), .val (.int v6)] [])) st24 ?_
    have N24 := Fr.snoc X24 N16 ga
    have F25 := F17.wr W24
    have F26 := F18.other W24 (Or.inr (slot_ne (Or.inl (hw _ (List.mem_of_getElem? (i := 28) rfl))) (Or.inl (hw _ (List.mem_of_getElem? (i := 30) rfl))) (by decide) (t := .int) (t' := .int) (by decide) (by decide)))
    have F27 := F19.other W24 (Or.inr (slot_ne (Or.inl (hw _ (List.mem_of_getElem? (i := 26) rfl))) (Or.inl (hw _ (List.mem_of_getElem? (i := 30) rfl))) (by decide) (t := .int) (t' := .int) (by decide) (by decide)))
    have F28 := F20.same W24
    have F29 := F21.other W24 (Or.inr (slot_ne (Or.inl (hw _ (List.mem_of_getElem? (i := 24) rfl))) (Or.inl (hw _ (List.mem_of_getElem? (i := 30) rfl))) (by decide) (t := .boolean) (t' := .int) (by decide) (by decide)))
    have K30 := K22.wr W24 (Or.inl (List.mem_of_getElem? (i := 0) rfl))
    have Z31 := Nat.le_trans Z23 (Keep.of_wr W24).1
    refine o_aloadN (pc' := 36) X24 hx (hb hby d5_35) rfl rfl rfl ?_
    refine o_iconst (pc' := 37) (v := (0 : Int32)) X24 hx (hb hby d5_36) rfl rfl ?_
    obtain ⟨T32, h32_, X32, e32, W32, st32⟩ := putF X24 hx hZ hown (host := "") (Or.inl (hw _ (List.mem_of_getElem? (i := 23) rfl))) Via.refl e24 F29 F25 (Or.inl (hw _ (List.mem_of_getElem? (i := 24) rfl))) (hw _ (List.mem_of_getElem? (i := 3) rfl)) (ty := .boolean) (by decide) rfl rfl (g := (mkF m 37 #[.val (.ref a1), .val (.int v6)] [(.int (0 : Int32)), (.ref a1)])) rfl rfl (hb hby d5_37)
    refine oGo.step (f' := (mkF m 40 #[.val (.ref a1), .val (.int v6)] [])) st32 ?_
    have N32 := Fr.snoc X32 N24 ga
    have F33 := F25.wr W32
    have F34 := F26.other W32 (Or.inr (slot_ne (Or.inl (hw _ (List.mem_of_getElem? (i := 28) rfl))) (Or.inl (hw _ (List.mem_of_getElem? (i := 24) rfl))) (by decide) (t := .int) (t' := .boolean) (by decide) (by decide)))
    have F35 := F27.other W32 (Or.inr (slot_ne (Or.inl (hw _ (List.mem_of_getElem? (i := 26) rfl))) (Or.inl (hw _ (List.mem_of_getElem? (i := 24) rfl))) (by decide) (t := .int) (t' := .boolean) (by decide) (by decide)))
    have F36 := F28.other W32 (Or.inr (slot_ne (Or.inl (hw _ (List.mem_of_getElem? (i := 30) rfl))) (Or.inl (hw _ (List.mem_of_getElem? (i := 24) rfl))) (by decide) (t := .int) (t' := .boolean) (by decide) (by decide)))
    have F37 := F29.same W32
    have K38 := K30.wr W32 (Or.inl (List.mem_of_getElem? (i := 0) rfl))
    have Z39 := Nat.le_trans Z31 (Keep.of_wr W32).1
    refine o_iloadN (pc' := 41) X32 hx (hb hby d5_40) rfl rfl ?_
    refine o_retZ X32 hx hret hlk (hb hby d5_41) (by rw [hv6]; (repeat' split) <;> (first | rfl | assumption)) (by decide) (by decide) ?_
    subst hv6
    rw [e32]
    exact ⟨rfl, N32, K38, F33, F34, F35, F36, F37⟩
  by_cases c2 : f_malformed = 0
  · refine o_ifF (pc' := 7) X1 hx (hb hby d5_4) (XT.i0_ne_f c2) rfl ?_
    refine o_aloadN (pc' := 8) X1 hx (hb hby d5_7) rfl rfl rfl ?_
    obtain ⟨T4, X4, e4, st4⟩ := getF X1 hx hZ hown (host := "") (Or.inl (hw _ (List.mem_of_getElem? (i := 25) rfl))) Via.refl e1 F_lacking (g := (mkF m 8 #[.val (.ref a1), .unset] [(.ref a1)])) rfl rfl (hb hby d5_8)
    refine oGo.step (f' := (mkF m 11 #[.val (.ref a1), .unset] [(.int f_lacking)])) st4 ?_
    by_cases c5 : f_lacking = 0
    · refine o_ifF (pc' := 14) X4 hx (hb hby d5_11) (XT.i0_ne_f c5) rfl ?_
      refine o_iconst (pc' := 15) (v := (1 : Int32)) X4 hx (hb hby d5_14) rfl rfl ?_
      refine o_goto (pc' := 19) X4 hx (hb hby d5_15) (by decide) (by decide) ?_
      exact J3 T4 X4 e4 _ ((if_pos c2).trans (if_pos c5)).symm
    · refine o_ifT (pc' := 18) X4 hx (hb hby d5_11) (XT.i0_ne_t c5) (by decide) (by decide) ?_
      refine o_iconst (pc' := 19) (v := (0 : Int32)) X4 hx (hb hby d5_18) rfl rfl ?_
      exact J3 T4 X4 e4 _ ((if_pos c2).trans (if_neg c5)).symm
  · refine o_ifT (pc' := 18) X1 hx (hb hby d5_4) (XT.i0_ne_t c2) (by decide) (by decide) ?_
    refine o_iconst (pc' := 19) (v := (0 : Int32)) X1 hx (hb hby d5_18) rfl rfl ?_
    exact J3 T1 X1 e1 _ (if_neg c2).symm
def oGet4 (a b c d j : Int32) : Int32 := if j = 0 then a else if j = 1 then b else if j = 2 then c else d
theorem own_small {j : Int32} (q : ¬ j < 0) (r : j < 4) : j = 0 ∨ j = 1 ∨ j = 2 ∨ j = 3 := by
  rw [Int32.lt_iff_toInt_lt] at q r
  have h0 : (0 : Int32).toInt = 0 := rfl
  have h4 : (4 : Int32).toInt = 4 := rfl
  have h1 : (1 : Int32).toInt = 1 := rfl
  have h2 : (2 : Int32).toInt = 2 := rfl
  have h3 : (3 : Int32).toInt = 3 := rfl
  simp only [← Int32.toInt_inj]
  omega
theorem own_lt4 {j n : Int32} (q : j < n) (r : ¬ 4 < n) : j < 4 := Int32.lt_of_lt_of_le q (Int32.not_lt.mp r)
theorem own_get4 {a b c d j : Int32} (q : ¬ j < 0) (r : j < 4) : [a, b, c, d][j.toNatClampNeg]? = some (oGet4 a b c d j) := by
  rcases own_small q r with rfl | rfl | rfl | rfl <;> rfl
theorem own_nn {j : Int32} (q : ¬ j < 0) (r : j < 4) : (¬ (j + 1) < 0) ∧ (¬ (j + 2) < 0) ∧ (¬ (j + 3) < 0) := by
  rcases own_small q r with rfl | rfl | rfl | rfl <;> decide
theorem d9_0 : decode method_6_code 0 = .ok (.iload_n 1, 1) := by decide +kernel
theorem d9_1 : decode method_6_code 1 = .ok (.iload_n 2, 1) := by decide +kernel
theorem d9_2 : decode method_6_code 2 = .ok (.if_icmp .ge 22, 3) := by decide +kernel
theorem d9_5 : decode method_6_code 5 = .ok (.aload_n 0, 1) := by decide +kernel
theorem d9_6 : decode method_6_code 6 = .ok (.iload_n 1, 1) := by decide +kernel
theorem d9_7 : decode method_6_code 7 = .ok (.iaload, 1) := by decide +kernel
theorem d9_8 : decode method_6_code 8 = .ok (.iload_n 3, 1) := by decide +kernel
theorem d9_9 : decode method_6_code 9 = .ok (.if_icmp .lt 15, 3) := by decide +kernel
theorem d9_12 : decode method_6_code 12 = .ok (.aload_n 0, 1) := by decide +kernel
theorem d9_13 : decode method_6_code 13 = .ok (.iload_n 1, 1) := by decide +kernel
theorem d9_14 : decode method_6_code 14 = .ok (.iaload, 1) := by decide +kernel
theorem d9_15 : decode method_6_code 15 = .ok (.iload 4, 2) := by decide +kernel
theorem d9_17 : decode method_6_code 17 = .ok (.if_icmp .gt 7, 3) := by decide +kernel
theorem d9_20 : decode method_6_code 20 = .ok (.iconst 1, 1) := by decide +kernel
theorem d9_21 : decode method_6_code 21 = .ok (.goto 4, 3) := by decide +kernel
theorem d9_24 : decode method_6_code 24 = .ok (.iconst 0, 1) := by decide +kernel
theorem d9_25 : decode method_6_code 25 = .ok (.ireturn, 1) := by decide +kernel
theorem pn_9 : plainName "com/example/harborlog/harborlog/Utf8DecoderEndPinLaw" = true := by first | (simp [plainName, overriddenIn]; done) | decide +kernel
theorem ef9 (m : MethodId) (x0 : Addr) (x1 : Int32) (x2 : Int32) (x3 : Int32) (x4 : Int32) : entryFrame m #[(.ref x0), (.int x1), (.int x2), (.int x3), (.int x4)] 5 = mkF m 0 #[.val (.ref x0), .val (.int x1), .val (.int x2), .val (.int x3), .val (.int x4)] [] := by first | (simp [entryFrame, mkF, argsToLocals, Value.category]; done) | rfl
def spec9 (x1 : Int32) (x2 : Int32) (x3 : Int32) (x4 : Int32) (y0 : Int32) (y1 : Int32) (y2 : Int32) (y3 : Int32) : Int32 := (if x1 < x2 then (if (oGet4 y0 y1 y2 y3 x1) < x3 then (0 : Int32) else (if x4 < (oGet4 y0 y1 y2 y3 x1) then (0 : Int32) else (1 : Int32))) else (0 : Int32))
def room9 : Room := { frames := 0, cells := 0, slots := 0, locals := 0 }
set_option maxRecDepth 65536 in
set_option maxHeartbeats 40000000 in
theorem rm9 (l : Launch) (Z : State) (a0 : Array Value) (hw : ∀ d ∈ tables_1, d.before a0 Z = true) (x0 : Addr) (x1 : Int32) (x2 : Int32) (x3 : Int32) (x4 : Int32) (y0 : Int32) (y1 : Int32) (y2 : Int32) (y3 : Int32) (h0 : Heap) (n0 : Nat) (Z0 : n0 ≤ h0.size)  (A0 : oInts Z h0 x0 [y0, y1, y2, y3]) (hj : ¬ x1 < 0) (hn : ¬ 4 < x2) :
    oCon l Z (⟨"com/example/harborlog/harborlog/Utf8DecoderEndPinLaw", "in", "([IIIII)Z"⟩ : MethodName) method_6_code 5 (some .boolean) room9 #[(.ref x0), (.int x1), (.int x2), (.int x3), (.int x4)] h0 (fun v h L => v = some (.int (spec9 x1 x2 x3 x4 y0 y1 y2 y3)) ∧ L = [] ∧ h = h0) := by
  refine oCon.of (plainFor_of_name pn_9) ?_
  intro p e s m below meth c s₁ hx hby hml hown hnm hret hlk hZ X0 e0
  rw [ef9 m x0 x1 x2 x3 x4]
  have N0 := Fr.nil n0
  refine o_iloadN (pc' := 1) X0 hx (hb hby d9_0) rfl rfl ?_
  refine o_iloadN (pc' := 2) X0 hx (hb hby d9_1) rfl rfl ?_
  have J2 : ∀ (v5 : Int32), v5 = (if x1 < x2 then (if (oGet4 y0 y1 y2 y3 x1) < x3 then (0 : Int32) else (if x4 < (oGet4 y0 y1 y2 y3 x1) then (0 : Int32) else (1 : Int32))) else (0 : Int32)) → oGo p e below (oG s (fun v h L => v = some (.int (spec9 x1 x2 x3 x4 y0 y1 y2 y3)) ∧ L = [] ∧ h = h0) room9.cells room9.slots) s₁ (mkF m 25 #[.val (.ref x0), .val (.int x1), .val (.int x2), .val (.int x3), .val (.int x4)] [(.int v5)]) := by
    intro v5 hv5
    refine o_retZ X0 hx hret hlk (hb hby d9_25) (by rw [hv5]; (repeat' split) <;> (first | rfl | assumption)) (by decide) (by decide) ?_
    subst hv5
    exact ⟨rfl, rfl, e0⟩
  by_cases c1 : x1 < x2
  · refine o_icmpF (pc' := 5) X0 hx (hb hby d9_2) (XT.ii_ge_f c1) rfl ?_
    refine o_aloadN (pc' := 6) X0 hx (hb hby d9_5) rfl rfl rfl ?_
    refine o_iloadN (pc' := 7) X0 hx (hb hby d9_6) rfl rfl ?_
    refine o_iaload (pc' := 8) (v := (oGet4 y0 y1 y2 y3 x1)) X0 hx hZ e0 A0 (hb hby d9_7) hj (own_get4 hj (own_lt4 c1 hn)) rfl ?_
    refine o_iloadN (pc' := 9) X0 hx (hb hby d9_8) rfl rfl ?_
    by_cases c3 : (oGet4 y0 y1 y2 y3 x1) < x3
    · refine o_icmpT (pc' := 24) X0 hx (hb hby d9_9) (XT.ii_lt_t c3) (by decide) (by decide) ?_
      refine o_iconst (pc' := 25) (v := (0 : Int32)) X0 hx (hb hby d9_24) rfl rfl ?_
      exact J2 _ ((if_pos c1).trans (if_pos c3)).symm
    · refine o_icmpF (pc' := 12) X0 hx (hb hby d9_9) (XT.ii_lt_f c3) rfl ?_
      refine o_aloadN (pc' := 13) X0 hx (hb hby d9_12) rfl rfl rfl ?_
      refine o_iloadN (pc' := 14) X0 hx (hb hby d9_13) rfl rfl ?_
      refine o_iaload (pc' := 15) (v := (oGet4 y0 y1 y2 y3 x1)) X0 hx hZ e0 A0 (hb hby d9_14) hj (own_get4 hj (own_lt4 c1 hn)) rfl ?_
      refine o_iload (pc' := 17) X0 hx (hb hby d9_15) rfl rfl ?_
      by_cases c4 : x4 < (oGet4 y0 y1 y2 y3 x1)
      · refine o_icmpT (pc' := 24) X0 hx (hb hby d9_17) (XT.ii_gt_t c4) (by decide) (by decide) ?_
        refine o_iconst (pc' := 25) (v := (0 : Int32)) X0 hx (hb hby d9_24) rfl rfl ?_
        exact J2 _ ((if_pos c1).trans ((if_neg c3).trans (if_pos c4))).symm
      · refine o_icmpF (pc' := 20) X0 hx (hb hby d9_17) (XT.ii_gt_f c4) rfl ?_
        refine o_iconst (pc' := 21) (v := (1 : Int32)) X0 hx (hb hby d9_20) rfl rfl ?_
        refine o_goto (pc' := 25) X0 hx (hb hby d9_21) (by decide) (by decide) ?_
        exact J2 _ ((if_pos c1).trans ((if_neg c3).trans (if_neg c4))).symm
  · refine o_icmpT (pc' := 24) X0 hx (hb hby d9_2) (XT.ii_ge_t c1) (by decide) (by decide) ?_
    refine o_iconst (pc' := 25) (v := (0 : Int32)) X0 hx (hb hby d9_24) rfl rfl ?_
    exact J2 _ (if_neg c1).symm
theorem d8_0 : decode method_5_code 0 = .ok (.aload_n 0, 1) := by decide +kernel
theorem d8_1 : decode method_5_code 1 = .ok (.iload_n 1, 1) := by decide +kernel
theorem d8_2 : decode method_5_code 2 = .ok (.iaload, 1) := by decide +kernel
theorem d8_3 : decode method_5_code 3 = .ok (.istore_n 3, 1) := by decide +kernel
theorem d8_4 : decode method_5_code 4 = .ok (.iload_n 3, 1) := by decide +kernel
theorem d8_5 : decode method_5_code 5 = .ok (.sipush 128, 3) := by decide +kernel
theorem d8_8 : decode method_5_code 8 = .ok (.if_icmp .ge 5, 3) := by decide +kernel
theorem d8_11 : decode method_5_code 11 = .ok (.iconst 1, 1) := by decide +kernel
theorem d8_12 : decode method_5_code 12 = .ok (.ireturn, 1) := by decide +kernel
theorem d8_13 : decode method_5_code 13 = .ok (.iload_n 3, 1) := by decide +kernel
theorem d8_14 : decode method_5_code 14 = .ok (.sipush 194, 3) := by decide +kernel
theorem d8_17 : decode method_5_code 17 = .ok (.if_icmp .lt 33, 3) := by decide +kernel
theorem d8_20 : decode method_5_code 20 = .ok (.iload_n 3, 1) := by decide +kernel
theorem d8_21 : decode method_5_code 21 = .ok (.sipush 223, 3) := by decide +kernel
theorem d8_24 : decode method_5_code 24 = .ok (.if_icmp .gt 26, 3) := by decide +kernel
theorem d8_27 : decode method_5_code 27 = .ok (.aload_n 0, 1) := by decide +kernel
theorem d8_28 : decode method_5_code 28 = .ok (.iload_n 1, 1) := by decide +kernel
theorem d8_29 : decode method_5_code 29 = .ok (.iconst 1, 1) := by decide +kernel
theorem d8_30 : decode method_5_code 30 = .ok (.iadd, 1) := by decide +kernel
theorem d8_31 : decode method_5_code 31 = .ok (.iload_n 2, 1) := by decide +kernel
theorem d8_32 : decode method_5_code 32 = .ok (.sipush 128, 3) := by decide +kernel
theorem d8_35 : decode method_5_code 35 = .ok (.sipush 191, 3) := by decide +kernel
theorem d8_38 : decode method_5_code 38 = .ok (.invokestatic 36, 3) := by decide +kernel
theorem d8_41 : decode method_5_code 41 = .ok (.ifCond .eq 7, 3) := by decide +kernel
theorem d8_44 : decode method_5_code 44 = .ok (.iconst 2, 1) := by decide +kernel
theorem d8_45 : decode method_5_code 45 = .ok (.goto 4, 3) := by decide +kernel
theorem d8_48 : decode method_5_code 48 = .ok (.iconst 0, 1) := by decide +kernel
theorem d8_49 : decode method_5_code 49 = .ok (.ireturn, 1) := by decide +kernel
theorem d8_50 : decode method_5_code 50 = .ok (.iload_n 3, 1) := by decide +kernel
theorem d8_51 : decode method_5_code 51 = .ok (.sipush 224, 3) := by decide +kernel
theorem d8_54 : decode method_5_code 54 = .ok (.if_icmp .lt 82, 3) := by decide +kernel
theorem d8_57 : decode method_5_code 57 = .ok (.iload_n 3, 1) := by decide +kernel
theorem d8_58 : decode method_5_code 58 = .ok (.sipush 239, 3) := by decide +kernel
theorem d8_61 : decode method_5_code 61 = .ok (.if_icmp .gt 75, 3) := by decide +kernel
theorem d8_64 : decode method_5_code 64 = .ok (.sipush 128, 3) := by decide +kernel
theorem d8_67 : decode method_5_code 67 = .ok (.istore 4, 2) := by decide +kernel
theorem d8_69 : decode method_5_code 69 = .ok (.sipush 191, 3) := by decide +kernel
theorem d8_72 : decode method_5_code 72 = .ok (.istore 5, 2) := by decide +kernel
theorem d8_74 : decode method_5_code 74 = .ok (.iload_n 3, 1) := by decide +kernel
theorem d8_75 : decode method_5_code 75 = .ok (.sipush 224, 3) := by decide +kernel
theorem d8_78 : decode method_5_code 78 = .ok (.if_icmp .ne 8, 3) := by decide +kernel
theorem d8_81 : decode method_5_code 81 = .ok (.sipush 160, 3) := by decide +kernel
theorem d8_84 : decode method_5_code 84 = .ok (.istore 4, 2) := by decide +kernel
theorem d8_86 : decode method_5_code 86 = .ok (.iload_n 3, 1) := by decide +kernel
theorem d8_87 : decode method_5_code 87 = .ok (.sipush 237, 3) := by decide +kernel
theorem d8_90 : decode method_5_code 90 = .ok (.if_icmp .ne 8, 3) := by decide +kernel
theorem d8_93 : decode method_5_code 93 = .ok (.sipush 159, 3) := by decide +kernel
theorem d8_96 : decode method_5_code 96 = .ok (.istore 5, 2) := by decide +kernel
theorem d8_98 : decode method_5_code 98 = .ok (.aload_n 0, 1) := by decide +kernel
theorem d8_99 : decode method_5_code 99 = .ok (.iload_n 1, 1) := by decide +kernel
theorem d8_100 : decode method_5_code 100 = .ok (.iconst 1, 1) := by decide +kernel
theorem d8_101 : decode method_5_code 101 = .ok (.iadd, 1) := by decide +kernel
theorem d8_102 : decode method_5_code 102 = .ok (.iload_n 2, 1) := by decide +kernel
theorem d8_103 : decode method_5_code 103 = .ok (.iload 4, 2) := by decide +kernel
theorem d8_105 : decode method_5_code 105 = .ok (.iload 5, 2) := by decide +kernel
theorem d8_107 : decode method_5_code 107 = .ok (.invokestatic 36, 3) := by decide +kernel
theorem d8_110 : decode method_5_code 110 = .ok (.ifCond .eq 24, 3) := by decide +kernel
theorem d8_113 : decode method_5_code 113 = .ok (.aload_n 0, 1) := by decide +kernel
theorem d8_114 : decode method_5_code 114 = .ok (.iload_n 1, 1) := by decide +kernel
theorem d8_115 : decode method_5_code 115 = .ok (.iconst 2, 1) := by decide +kernel
theorem d8_116 : decode method_5_code 116 = .ok (.iadd, 1) := by decide +kernel
theorem d8_117 : decode method_5_code 117 = .ok (.iload_n 2, 1) := by decide +kernel
theorem d8_118 : decode method_5_code 118 = .ok (.sipush 128, 3) := by decide +kernel
theorem d8_121 : decode method_5_code 121 = .ok (.sipush 191, 3) := by decide +kernel
theorem d8_124 : decode method_5_code 124 = .ok (.invokestatic 36, 3) := by decide +kernel
theorem d8_127 : decode method_5_code 127 = .ok (.ifCond .eq 7, 3) := by decide +kernel
theorem d8_130 : decode method_5_code 130 = .ok (.iconst 3, 1) := by decide +kernel
theorem d8_131 : decode method_5_code 131 = .ok (.goto 4, 3) := by decide +kernel
theorem d8_134 : decode method_5_code 134 = .ok (.iconst 0, 1) := by decide +kernel
theorem d8_135 : decode method_5_code 135 = .ok (.ireturn, 1) := by decide +kernel
theorem d8_136 : decode method_5_code 136 = .ok (.iload_n 3, 1) := by decide +kernel
theorem d8_137 : decode method_5_code 137 = .ok (.sipush 240, 3) := by decide +kernel
theorem d8_140 : decode method_5_code 140 = .ok (.if_icmp .lt 99, 3) := by decide +kernel
theorem d8_143 : decode method_5_code 143 = .ok (.iload_n 3, 1) := by decide +kernel
theorem d8_144 : decode method_5_code 144 = .ok (.sipush 244, 3) := by decide +kernel
theorem d8_147 : decode method_5_code 147 = .ok (.if_icmp .gt 92, 3) := by decide +kernel
theorem d8_150 : decode method_5_code 150 = .ok (.sipush 128, 3) := by decide +kernel
theorem d8_153 : decode method_5_code 153 = .ok (.istore 4, 2) := by decide +kernel
theorem d8_155 : decode method_5_code 155 = .ok (.sipush 191, 3) := by decide +kernel
theorem d8_158 : decode method_5_code 158 = .ok (.istore 5, 2) := by decide +kernel
theorem d8_160 : decode method_5_code 160 = .ok (.iload_n 3, 1) := by decide +kernel
theorem d8_161 : decode method_5_code 161 = .ok (.sipush 240, 3) := by decide +kernel
theorem d8_164 : decode method_5_code 164 = .ok (.if_icmp .ne 8, 3) := by decide +kernel
theorem d8_167 : decode method_5_code 167 = .ok (.sipush 144, 3) := by decide +kernel
theorem d8_170 : decode method_5_code 170 = .ok (.istore 4, 2) := by decide +kernel
theorem d8_172 : decode method_5_code 172 = .ok (.iload_n 3, 1) := by decide +kernel
theorem d8_173 : decode method_5_code 173 = .ok (.sipush 244, 3) := by decide +kernel
theorem d8_176 : decode method_5_code 176 = .ok (.if_icmp .ne 8, 3) := by decide +kernel
theorem d8_179 : decode method_5_code 179 = .ok (.sipush 143, 3) := by decide +kernel
theorem d8_182 : decode method_5_code 182 = .ok (.istore 5, 2) := by decide +kernel
theorem d8_184 : decode method_5_code 184 = .ok (.aload_n 0, 1) := by decide +kernel
theorem d8_185 : decode method_5_code 185 = .ok (.iload_n 1, 1) := by decide +kernel
theorem d8_186 : decode method_5_code 186 = .ok (.iconst 1, 1) := by decide +kernel
theorem d8_187 : decode method_5_code 187 = .ok (.iadd, 1) := by decide +kernel
theorem d8_188 : decode method_5_code 188 = .ok (.iload_n 2, 1) := by decide +kernel
theorem d8_189 : decode method_5_code 189 = .ok (.iload 4, 2) := by decide +kernel
theorem d8_191 : decode method_5_code 191 = .ok (.iload 5, 2) := by decide +kernel
theorem d8_193 : decode method_5_code 193 = .ok (.invokestatic 36, 3) := by decide +kernel
theorem d8_196 : decode method_5_code 196 = .ok (.ifCond .eq 41, 3) := by decide +kernel
theorem d8_199 : decode method_5_code 199 = .ok (.aload_n 0, 1) := by decide +kernel
theorem d8_200 : decode method_5_code 200 = .ok (.iload_n 1, 1) := by decide +kernel
theorem d8_201 : decode method_5_code 201 = .ok (.iconst 2, 1) := by decide +kernel
theorem d8_202 : decode method_5_code 202 = .ok (.iadd, 1) := by decide +kernel
theorem d8_203 : decode method_5_code 203 = .ok (.iload_n 2, 1) := by decide +kernel
theorem d8_204 : decode method_5_code 204 = .ok (.sipush 128, 3) := by decide +kernel
theorem d8_207 : decode method_5_code 207 = .ok (.sipush 191, 3) := by decide +kernel
theorem d8_210 : decode method_5_code 210 = .ok (.invokestatic 36, 3) := by decide +kernel
theorem d8_213 : decode method_5_code 213 = .ok (.ifCond .eq 24, 3) := by decide +kernel
theorem d8_216 : decode method_5_code 216 = .ok (.aload_n 0, 1) := by decide +kernel
theorem d8_217 : decode method_5_code 217 = .ok (.iload_n 1, 1) := by decide +kernel
theorem d8_218 : decode method_5_code 218 = .ok (.iconst 3, 1) := by decide +kernel
theorem d8_219 : decode method_5_code 219 = .ok (.iadd, 1) := by decide +kernel
theorem d8_220 : decode method_5_code 220 = .ok (.iload_n 2, 1) := by decide +kernel
theorem d8_221 : decode method_5_code 221 = .ok (.sipush 128, 3) := by decide +kernel
theorem d8_224 : decode method_5_code 224 = .ok (.sipush 191, 3) := by decide +kernel
theorem d8_227 : decode method_5_code 227 = .ok (.invokestatic 36, 3) := by decide +kernel
theorem d8_230 : decode method_5_code 230 = .ok (.ifCond .eq 7, 3) := by decide +kernel
theorem d8_233 : decode method_5_code 233 = .ok (.iconst 4, 1) := by decide +kernel
theorem d8_234 : decode method_5_code 234 = .ok (.goto 4, 3) := by decide +kernel
theorem d8_237 : decode method_5_code 237 = .ok (.iconst 0, 1) := by decide +kernel
theorem d8_238 : decode method_5_code 238 = .ok (.ireturn, 1) := by decide +kernel
theorem d8_239 : decode method_5_code 239 = .ok (.iconst 0, 1) := by decide +kernel
theorem d8_240 : decode method_5_code 240 = .ok (.ireturn, 1) := by decide +kernel
theorem ef8 (m : MethodId) (x0 : Addr) (x1 : Int32) (x2 : Int32) : entryFrame m #[(.ref x0), (.int x1), (.int x2)] 6 = mkF m 0 #[.val (.ref x0), .val (.int x1), .val (.int x2), .unset, .unset, .unset] [] := by first | (simp [entryFrame, mkF, argsToLocals, Value.category]; done) | rfl
theorem pd0 : parseMethodDescriptor "([IIIII)Z" = some ⟨[(.array .int), .int, .int, .int, .int], (some .boolean)⟩ := by decide +kernel
def spec8 (x1 : Int32) (x2 : Int32) (y0 : Int32) (y1 : Int32) (y2 : Int32) (y3 : Int32) : Int32 := (if (oGet4 y0 y1 y2 y3 x1) < (128 : Int32) then (1 : Int32) else (if (oGet4 y0 y1 y2 y3 x1) < (194 : Int32) then (if (oGet4 y0 y1 y2 y3 x1) < (224 : Int32) then (if (oGet4 y0 y1 y2 y3 x1) < (240 : Int32) then (0 : Int32) else (if (244 : Int32) < (oGet4 y0 y1 y2 y3 x1) then (0 : Int32) else (if (spec9 (x1 + (1 : Int32)) x2 (if (oGet4 y0 y1 y2 y3 x1) = (240 : Int32) then (144 : Int32) else (128 : Int32)) (if (oGet4 y0 y1 y2 y3 x1) = (244 : Int32) then (143 : Int32) else (191 : Int32)) y0 y1 y2 y3) = 0 then (0 : Int32) else (if (spec9 (x1 + (2 : Int32)) x2 (128 : Int32) (191 : Int32) y0 y1 y2 y3) = 0 then (0 : Int32) else (if (spec9 (x1 + (3 : Int32)) x2 (128 : Int32) (191 : Int32) y0 y1 y2 y3) = 0 then (0 : Int32) else (4 : Int32)))))) else (if (239 : Int32) < (oGet4 y0 y1 y2 y3 x1) then (if (oGet4 y0 y1 y2 y3 x1) < (240 : Int32) then (0 : Int32) else (if (244 : Int32) < (oGet4 y0 y1 y2 y3 x1) then (0 : Int32) else (if (spec9 (x1 + (1 : Int32)) x2 (if (oGet4 y0 y1 y2 y3 x1) = (240 : Int32) then (144 : Int32) else (128 : Int32)) (if (oGet4 y0 y1 y2 y3 x1) = (244 : Int32) then (143 : Int32) else (191 : Int32)) y0 y1 y2 y3) = 0 then (0 : Int32) else (if (spec9 (x1 + (2 : Int32)) x2 (128 : Int32) (191 : Int32) y0 y1 y2 y3) = 0 then (0 : Int32) else (if (spec9 (x1 + (3 : Int32)) x2 (128 : Int32) (191 : Int32) y0 y1 y2 y3) = 0 then (0 : Int32) else (4 : Int32)))))) else (if (spec9 (x1 + (1 : Int32)) x2 (if (oGet4 y0 y1 y2 y3 x1) = (224 : Int32) then (160 : Int32) else (128 : Int32)) (if (oGet4 y0 y1 y2 y3 x1) = (237 : Int32) then (159 : Int32) else (191 : Int32)) y0 y1 y2 y3) = 0 then (0 : Int32) else (if (spec9 (x1 + (2 : Int32)) x2 (128 : Int32) (191 : Int32) y0 y1 y2 y3) = 0 then (0 : Int32) else (3 : Int32))))) else (if (223 : Int32) < (oGet4 y0 y1 y2 y3 x1) then (if (oGet4 y0 y1 y2 y3 x1) < (224 : Int32) then (if (oGet4 y0 y1 y2 y3 x1) < (240 : Int32) then (0 : Int32) else (if (244 : Int32) < (oGet4 y0 y1 y2 y3 x1) then (0 : Int32) else (if (spec9 (x1 + (1 : Int32)) x2 (if (oGet4 y0 y1 y2 y3 x1) = (240 : Int32) then (144 : Int32) else (128 : Int32)) (if (oGet4 y0 y1 y2 y3 x1) = (244 : Int32) then (143 : Int32) else (191 : Int32)) y0 y1 y2 y3) = 0 then (0 : Int32) else (if (spec9 (x1 + (2 : Int32)) x2 (128 : Int32) (191 : Int32) y0 y1 y2 y3) = 0 then (0 : Int32) else (if (spec9 (x1 + (3 : Int32)) x2 (128 : Int32) (191 : Int32) y0 y1 y2 y3) = 0 then (0 : Int32) else (4 : Int32)))))) else (if (239 : Int32) < (oGet4 y0 y1 y2 y3 x1) then (if (oGet4 y0 y1 y2 y3 x1) < (240 : Int32) then (0 : Int32) else (if (244 : Int32) < (oGet4 y0 y1 y2 y3 x1) then (0 : Int32) else (if (spec9 (x1 + (1 : Int32)) x2 (if (oGet4 y0 y1 y2 y3 x1) = (240 : Int32) then (144 : Int32) else (128 : Int32)) (if (oGet4 y0 y1 y2 y3 x1) = (244 : Int32) then (143 : Int32) else (191 : Int32)) y0 y1 y2 y3) = 0 then (0 : Int32) else (if (spec9 (x1 + (2 : Int32)) x2 (128 : Int32) (191 : Int32) y0 y1 y2 y3) = 0 then (0 : Int32) else (if (spec9 (x1 + (3 : Int32)) x2 (128 : Int32) (191 : Int32) y0 y1 y2 y3) = 0 then (0 : Int32) else (4 : Int32)))))) else (if (spec9 (x1 + (1 : Int32)) x2 (if (oGet4 y0 y1 y2 y3 x1) = (224 : Int32) then (160 : Int32) else (128 : Int32)) (if (oGet4 y0 y1 y2 y3 x1) = (237 : Int32) then (159 : Int32) else (191 : Int32)) y0 y1 y2 y3) = 0 then (0 : Int32) else (if (spec9 (x1 + (2 : Int32)) x2 (128 : Int32) (191 : Int32) y0 y1 y2 y3) = 0 then (0 : Int32) else (3 : Int32))))) else (if (spec9 (x1 + (1 : Int32)) x2 (128 : Int32) (191 : Int32) y0 y1 y2 y3) = 0 then (0 : Int32) else (2 : Int32)))))
def room8 : Room := { frames := 1, cells := 0, slots := 0, locals := 16 }
set_option maxRecDepth 65536 in
set_option maxHeartbeats 40000000 in
theorem rm8 (l : Launch) (Z : State) (a0 : Array Value) (hw : ∀ d ∈ tables_1, d.before a0 Z = true) (x0 : Addr) (x1 : Int32) (x2 : Int32) (y0 : Int32) (y1 : Int32) (y2 : Int32) (y3 : Int32) (h0 : Heap) (n0 : Nat) (Z0 : n0 ≤ h0.size)  (A0 : oInts Z h0 x0 [y0, y1, y2, y3]) (hi : ¬ x1 < 0) (hin : x1 < x2) (hn : ¬ 4 < x2) :
    oCon l Z (⟨"com/example/harborlog/harborlog/Utf8DecoderEndPinLaw", "charLen", "([III)I"⟩ : MethodName) method_5_code 6 (some .int) room8 #[(.ref x0), (.int x1), (.int x2)] h0 (fun v h L => v = some (.int (spec8 x1 x2 y0 y1 y2 y3)) ∧ L = [] ∧ h = h0) := by
  refine oCon.of (plainFor_of_name pn_9) ?_
  intro p e s m below meth c s₁ hx hby hml hown hnm hret hlk hZ X0 e0
  rw [ef8 m x0 x1 x2]
  have N0 := Fr.nil n0
  refine o_aloadN (pc' := 1) X0 hx (hb hby d8_0) rfl rfl rfl ?_
  refine o_iloadN (pc' := 2) X0 hx (hb hby d8_1) rfl rfl ?_
  refine o_iaload (pc' := 3) (v := (oGet4 y0 y1 y2 y3 x1)) X0 hx hZ e0 A0 (hb hby d8_2) hi (own_get4 hi (own_lt4 hin hn)) rfl ?_
  refine o_istoreN (pc' := 4) (l' := #[.val (.ref x0), .val (.int x1), .val (.int x2), .val (.int (oGet4 y0 y1 y2 y3 x1)), .unset, .unset]) X0 hx (hb hby d8_3) rfl rfl ?_
  refine o_iloadN (pc' := 5) X0 hx (hb hby d8_4) rfl rfl ?_
  refine o_sipush (pc' := 8) (v := (128 : Int32)) X0 hx (hb hby d8_5) rfl rfl ?_
  by_cases c1 : (oGet4 y0 y1 y2 y3 x1) < (128 : Int32)
  · refine o_icmpF (pc' := 11) X0 hx (hb hby d8_8) (XT.ii_ge_f c1) rfl ?_
    refine o_iconst (pc' := 12) (v := (1 : Int32)) X0 hx (hb hby d8_11) rfl rfl ?_
    refine o_retI X0 hx hret hlk (hb hby d8_12) (by decide) (by decide) ?_
    exact ⟨congrArg (fun z => some (Value.int z)) (show _ = (spec8 x1 x2 y0 y1 y2 y3) from (if_pos c1).symm), rfl, e0⟩
  · refine o_icmpT (pc' := 13) X0 hx (hb hby d8_8) (XT.ii_ge_t c1) (by decide) (by decide) ?_
    refine o_iloadN (pc' := 14) X0 hx (hb hby d8_13) rfl rfl ?_
    refine o_sipush (pc' := 17) (v := (194 : Int32)) X0 hx (hb hby d8_14) rfl rfl ?_
    by_cases c2 : (oGet4 y0 y1 y2 y3 x1) < (194 : Int32)
    · refine o_icmpT (pc' := 50) X0 hx (hb hby d8_17) (XT.ii_lt_t c2) (by decide) (by decide) ?_
      refine o_iloadN (pc' := 51) X0 hx (hb hby d8_50) rfl rfl ?_
      refine o_sipush (pc' := 54) (v := (224 : Int32)) X0 hx (hb hby d8_51) rfl rfl ?_
      by_cases c3 : (oGet4 y0 y1 y2 y3 x1) < (224 : Int32)
      · refine o_icmpT (pc' := 136) X0 hx (hb hby d8_54) (XT.ii_lt_t c3) (by decide) (by decide) ?_
        refine o_iloadN (pc' := 137) X0 hx (hb hby d8_136) rfl rfl ?_
        refine o_sipush (pc' := 140) (v := (240 : Int32)) X0 hx (hb hby d8_137) rfl rfl ?_
        by_cases c4 : (oGet4 y0 y1 y2 y3 x1) < (240 : Int32)
        · refine o_icmpT (pc' := 239) X0 hx (hb hby d8_140) (XT.ii_lt_t c4) (by decide) (by decide) ?_
          refine o_iconst (pc' := 240) (v := (0 : Int32)) X0 hx (hb hby d8_239) rfl rfl ?_
          refine o_retI X0 hx hret hlk (hb hby d8_240) (by decide) (by decide) ?_
          exact ⟨congrArg (fun z => some (Value.int z)) (show _ = (spec8 x1 x2 y0 y1 y2 y3) from ((if_neg c1).trans ((if_pos c2).trans ((if_pos c3).trans (if_pos c4)))).symm), rfl, e0⟩
        · refine o_icmpF (pc' := 143) X0 hx (hb hby d8_140) (XT.ii_lt_f c4) rfl ?_
          refine o_iloadN (pc' := 144) X0 hx (hb hby d8_143) rfl rfl ?_
          refine o_sipush (pc' := 147) (v := (244 : Int32)) X0 hx (hb hby d8_144) rfl rfl ?_
          by_cases c5 : (244 : Int32) < (oGet4 y0 y1 y2 y3 x1)
          · refine o_icmpT (pc' := 239) X0 hx (hb hby d8_147) (XT.ii_gt_t c5) (by decide) (by decide) ?_
            refine o_iconst (pc' := 240) (v := (0 : Int32)) X0 hx (hb hby d8_239) rfl rfl ?_
            refine o_retI X0 hx hret hlk (hb hby d8_240) (by decide) (by decide) ?_
            exact ⟨congrArg (fun z => some (Value.int z)) (show _ = (spec8 x1 x2 y0 y1 y2 y3) from ((if_neg c1).trans ((if_pos c2).trans ((if_pos c3).trans ((if_neg c4).trans (if_pos c5))))).symm), rfl, e0⟩
          · refine o_icmpF (pc' := 150) X0 hx (hb hby d8_147) (XT.ii_gt_f c5) rfl ?_
            refine o_sipush (pc' := 153) (v := (128 : Int32)) X0 hx (hb hby d8_150) rfl rfl ?_
            refine o_istore (pc' := 155) (l' := #[.val (.ref x0), .val (.int x1), .val (.int x2), .val (.int (oGet4 y0 y1 y2 y3 x1)), .val (.int (128 : Int32)), .unset]) X0 hx (hb hby d8_153) rfl rfl ?_
            refine o_sipush (pc' := 158) (v := (191 : Int32)) X0 hx (hb hby d8_155) rfl rfl ?_
            refine o_istore (pc' := 160) (l' := #[.val (.ref x0), .val (.int x1), .val (.int x2), .val (.int (oGet4 y0 y1 y2 y3 x1)), .val (.int (128 : Int32)), .val (.int (191 : Int32))]) X0 hx (hb hby d8_158) rfl rfl ?_
            refine o_iloadN (pc' := 161) X0 hx (hb hby d8_160) rfl rfl ?_
            refine o_sipush (pc' := 164) (v := (240 : Int32)) X0 hx (hb hby d8_161) rfl rfl ?_
            have J7 : ∀ (v8 : Int32), v8 = (if (oGet4 y0 y1 y2 y3 x1) = (240 : Int32) then (144 : Int32) else (128 : Int32)) → oGo p e below (oG s (fun v h L => v = some (.int (spec8 x1 x2 y0 y1 y2 y3)) ∧ L = [] ∧ h = h0) room8.cells room8.slots) s₁ (mkF m 172 #[.val (.ref x0), .val (.int x1), .val (.int x2), .val (.int (oGet4 y0 y1 y2 y3 x1)), .val (.int v8), .val (.int (191 : Int32))] []) := by
              intro v8 hv8
              refine o_iloadN (pc' := 173) X0 hx (hb hby d8_172) rfl rfl ?_
              refine o_sipush (pc' := 176) (v := (244 : Int32)) X0 hx (hb hby d8_173) rfl rfl ?_
              have J10 : ∀ (v11 : Int32), v11 = (if (oGet4 y0 y1 y2 y3 x1) = (244 : Int32) then (143 : Int32) else (191 : Int32)) → oGo p e below (oG s (fun v h L => v = some (.int (spec8 x1 x2 y0 y1 y2 y3)) ∧ L = [] ∧ h = h0) room8.cells room8.slots) s₁ (mkF m 184 #[.val (.ref x0), .val (.int x1), .val (.int x2), .val (.int (oGet4 y0 y1 y2 y3 x1)), .val (.int v8), .val (.int v11)] []) := by
                intro v11 hv11
                refine o_aloadN (pc' := 185) X0 hx (hb hby d8_184) rfl rfl rfl ?_
                refine o_iloadN (pc' := 186) X0 hx (hb hby d8_185) rfl rfl ?_
                refine o_iconst (pc' := 187) (v := (1 : Int32)) X0 hx (hb hby d8_186) rfl rfl ?_
                refine o_iadd (pc' := 188) X0 hx (hb hby d8_187)  rfl ?_
                refine o_iloadN (pc' := 189) X0 hx (hb hby d8_188) rfl rfl ?_
                refine o_iload (pc' := 191) X0 hx (hb hby d8_189) rfl rfl ?_
                refine o_iload (pc' := 193) X0 hx (hb hby d8_191) rfl rfl ?_
                obtain ⟨r12, T12, L12, X12, hq12, st12⟩ := o_callS X0 hx hZ hown (hw _ (List.mem_of_getElem? (i := 44) rfl)) (hw _ (List.mem_of_getElem? (i := 45) rfl)) (hw _ (List.mem_of_getElem? (i := 13) rfl)) (hw _ (List.mem_of_getElem? (i := 46) rfl)) (by decide) (rm9 l Z a0 hw x0 (x1 + (1 : Int32)) x2 v8 v11 y0 y1 y2 y3 h0 n0 Z0 A0 (own_nn hi (own_lt4 hin hn)).1 hn) e0 (pc' := 196) (Ls := #[.val (.ref x0), .val (.int x1), .val (.int x2), .val (.int (oGet4 y0 y1 y2 y3 x1)), .val (.int v8), .val (.int v11)]) (by rw [hml]; rfl) [(.ref x0), (.int (x1 + (1 : Int32))), (.int x2), (.int v8), (.int v11)] [] rfl pd0 rfl rfl 0 (Nat.le_of_eq rfl) (hb hby d8_193) rfl (by decide) (by decide) (by decide) (by decide)
                obtain ⟨rfl, rfl, Kc12⟩ := hq12
                refine oGo.step (f' := (mkF m 196 #[.val (.ref x0), .val (.int x1), .val (.int x2), .val (.int (oGet4 y0 y1 y2 y3 x1)), .val (.int v8), .val (.int v11)] [(.int (spec9 (x1 + (1 : Int32)) x2 v8 v11 y0 y1 y2 y3))])) st12 ?_
                have e12 : T12.heap = h0 := Kc12
                have X12 := o_same X12 rfl rfl
                have J14 : ∀ (T20 : State) (X20 : Stand p l e room8 s m #[(.ref x0), (.int x1), (.int x2)] below meth c T20 [] (0) (0)) (e20 : T20.heap = h0) (v19 : Int32), v19 = (if (spec9 (x1 + (1 : Int32)) x2 v8 v11 y0 y1 y2 y3) = 0 then (0 : Int32) else (if (spec9 (x1 + (2 : Int32)) x2 (128 : Int32) (191 : Int32) y0 y1 y2 y3) = 0 then (0 : Int32) else (if (spec9 (x1 + (3 : Int32)) x2 (128 : Int32) (191 : Int32) y0 y1 y2 y3) = 0 then (0 : Int32) else (4 : Int32)))) → oGo p e below (oG s (fun v h L => v = some (.int (spec8 x1 x2 y0 y1 y2 y3)) ∧ L = [] ∧ h = h0) room8.cells room8.slots) T20 (mkF m 238 #[.val (.ref x0), .val (.int x1), .val (.int x2), .val (.int (oGet4 y0 y1 y2 y3 x1)), .val (.int v8), .val (.int v11)] [(.int v19)]) := by
                  intro T20 X20 e20 v19 hv19
                  refine o_retI X20 hx hret hlk (hb hby d8_238) (by decide) (by decide) ?_
                  subst hv19 hv11 hv8
                  exact ⟨congrArg (fun z => some (Value.int z)) (show _ = (spec8 x1 x2 y0 y1 y2 y3) from ((if_neg c1).trans ((if_pos c2).trans ((if_pos c3).trans ((if_neg c4).trans (if_neg c5))))).symm), rfl, e20⟩
                by_cases c13 : (spec9 (x1 + (1 : Int32)) x2 v8 v11 y0 y1 y2 y3) = 0
                · refine o_ifT (pc' := 237) X12 hx (hb hby d8_196) (XT.i0_eq_t c13) (by decide) (by decide) ?_
                  refine o_iconst (pc' := 238) (v := (0 : Int32)) X12 hx (hb hby d8_237) rfl rfl ?_
                  exact J14 T12 X12 e12 _ (if_pos c13).symm
                · refine o_ifF (pc' := 199) X12 hx (hb hby d8_196) (XT.i0_eq_f c13) rfl ?_
                  refine o_aloadN (pc' := 200) X12 hx (hb hby d8_199) rfl rfl rfl ?_
                  refine o_iloadN (pc' := 201) X12 hx (hb hby d8_200) rfl rfl ?_
                  refine o_iconst (pc' := 202) (v := (2 : Int32)) X12 hx (hb hby d8_201) rfl rfl ?_
                  refine o_iadd (pc' := 203) X12 hx (hb hby d8_202)  rfl ?_
                  refine o_iloadN (pc' := 204) X12 hx (hb hby d8_203) rfl rfl ?_
                  refine o_sipush (pc' := 207) (v := (128 : Int32)) X12 hx (hb hby d8_204) rfl rfl ?_
                  refine o_sipush (pc' := 210) (v := (191 : Int32)) X12 hx (hb hby d8_207) rfl rfl ?_
                  obtain ⟨r15, T15, L15, X15, hq15, st15⟩ := o_callS X12 hx hZ hown (hw _ (List.mem_of_getElem? (i := 44) rfl)) (hw _ (List.mem_of_getElem? (i := 45) rfl)) (hw _ (List.mem_of_getElem? (i := 13) rfl)) (hw _ (List.mem_of_getElem? (i := 46) rfl)) (by decide) (rm9 l Z a0 hw x0 (x1 + (2 : Int32)) x2 (128 : Int32) (191 : Int32) y0 y1 y2 y3 h0 n0 Z0 A0 (own_nn hi (own_lt4 hin hn)).2.1 hn) e12 (pc' := 213) (Ls := #[.val (.ref x0), .val (.int x1), .val (.int x2), .val (.int (oGet4 y0 y1 y2 y3 x1)), .val (.int v8), .val (.int v11)]) (by rw [hml]; rfl) [(.ref x0), (.int (x1 + (2 : Int32))), (.int x2), (.int (128 : Int32)), (.int (191 : Int32))] [] rfl pd0 rfl rfl 0 (Nat.le_of_eq rfl) (hb hby d8_210) rfl (by decide) (by decide) (by decide) (by decide)
                  obtain ⟨rfl, rfl, Kc15⟩ := hq15
                  refine oGo.step (f' := (mkF m 213 #[.val (.ref x0), .val (.int x1), .val (.int x2), .val (.int (oGet4 y0 y1 y2 y3 x1)), .val (.int v8), .val (.int v11)] [(.int (spec9 (x1 + (2 : Int32)) x2 (128 : Int32) (191 : Int32) y0 y1 y2 y3))])) st15 ?_
                  have e15 : T15.heap = h0 := Kc15
                  have X15 := o_same X15 rfl rfl
                  by_cases c16 : (spec9 (x1 + (2 : Int32)) x2 (128 : Int32) (191 : Int32) y0 y1 y2 y3) = 0
                  · refine o_ifT (pc' := 237) X15 hx (hb hby d8_213) (XT.i0_eq_t c16) (by decide) (by decide) ?_
                    refine o_iconst (pc' := 238) (v := (0 : Int32)) X15 hx (hb hby d8_237) rfl rfl ?_
                    exact J14 T15 X15 e15 _ ((if_neg c13).trans (if_pos c16)).symm
                  · refine o_ifF (pc' := 216) X15 hx (hb hby d8_213) (XT.i0_eq_f c16) rfl ?_
                    refine o_aloadN (pc' := 217) X15 hx (hb hby d8_216) rfl rfl rfl ?_
                    refine o_iloadN (pc' := 218) X15 hx (hb hby d8_217) rfl rfl ?_
                    refine o_iconst (pc' := 219) (v := (3 : Int32)) X15 hx (hb hby d8_218) rfl rfl ?_
                    refine o_iadd (pc' := 220) X15 hx (hb hby d8_219)  rfl ?_
                    refine o_iloadN (pc' := 221) X15 hx (hb hby d8_220) rfl rfl ?_
                    refine o_sipush (pc' := 224) (v := (128 : Int32)) X15 hx (hb hby d8_221) rfl rfl ?_
                    refine o_sipush (pc' := 227) (v := (191 : Int32)) X15 hx (hb hby d8_224) rfl rfl ?_
                    obtain ⟨r17, T17, L17, X17, hq17, st17⟩ := o_callS X15 hx hZ hown (hw _ (List.mem_of_getElem? (i := 44) rfl)) (hw _ (List.mem_of_getElem? (i := 45) rfl)) (hw _ (List.mem_of_getElem? (i := 13) rfl)) (hw _ (List.mem_of_getElem? (i := 46) rfl)) (by decide) (rm9 l Z a0 hw x0 (x1 + (3 : Int32)) x2 (128 : Int32) (191 : Int32) y0 y1 y2 y3 h0 n0 Z0 A0 (own_nn hi (own_lt4 hin hn)).2.2 hn) e15 (pc' := 230) (Ls := #[.val (.ref x0), .val (.int x1), .val (.int x2), .val (.int (oGet4 y0 y1 y2 y3 x1)), .val (.int v8), .val (.int v11)]) (by rw [hml]; rfl) [(.ref x0), (.int (x1 + (3 : Int32))), (.int x2), (.int (128 : Int32)), (.int (191 : Int32))] [] rfl pd0 rfl rfl 0 (Nat.le_of_eq rfl) (hb hby d8_227) rfl (by decide) (by decide) (by decide) (by decide)
                    obtain ⟨rfl, rfl, Kc17⟩ := hq17
                    refine oGo.step (f' := (mkF m 230 #[.val (.ref x0), .val (.int x1), .val (.int x2), .val (.int (oGet4 y0 y1 y2 y3 x1)), .val (.int v8), .val (.int v11)] [(.int (spec9 (x1 + (3 : Int32)) x2 (128 : Int32) (191 : Int32) y0 y1 y2 y3))])) st17 ?_
                    have e17 : T17.heap = h0 := Kc17
                    have X17 := o_same X17 rfl rfl
                    by_cases c18 : (spec9 (x1 + (3 : Int32)) x2 (128 : Int32) (191 : Int32) y0 y1 y2 y3) = 0
                    · refine o_ifT (pc' := 237) X17 hx (hb hby d8_230) (XT.i0_eq_t c18) (by decide) (by decide) ?_
                      refine o_iconst (pc' := 238) (v := (0 : Int32)) X17 hx (hb hby d8_237) rfl rfl ?_
                      exact J14 T17 X17 e17 _ ((if_neg c13).trans ((if_neg c16).trans (if_pos c18))).symm
                    · refine o_ifF (pc' := 233) X17 hx (hb hby d8_230) (XT.i0_eq_f c18) rfl ?_
                      refine o_iconst (pc' := 234) (v := (4 : Int32)) X17 hx (hb hby d8_233) rfl rfl ?_
                      refine o_goto (pc' := 238) X17 hx (hb hby d8_234) (by decide) (by decide) ?_
                      exact J14 T17 X17 e17 _ ((if_neg c13).trans ((if_neg c16).trans (if_neg c18))).symm
              by_cases c9 : (oGet4 y0 y1 y2 y3 x1) = (244 : Int32)
              · refine o_icmpF (pc' := 179) X0 hx (hb hby d8_176) (XT.ii_ne_f c9) rfl ?_
                refine o_sipush (pc' := 182) (v := (143 : Int32)) X0 hx (hb hby d8_179) rfl rfl ?_
                refine o_istore (pc' := 184) (l' := #[.val (.ref x0), .val (.int x1), .val (.int x2), .val (.int (oGet4 y0 y1 y2 y3 x1)), .val (.int v8), .val (.int (143 : Int32))]) X0 hx (hb hby d8_182) rfl rfl ?_
                exact J10 _ (if_pos c9).symm
              · refine o_icmpT (pc' := 184) X0 hx (hb hby d8_176) (XT.ii_ne_t c9) (by decide) (by decide) ?_
                exact J10 _ (if_neg c9).symm
            by_cases c6 : (oGet4 y0 y1 y2 y3 x1) = (240 : Int32)
            · refine o_icmpF (pc' := 167) X0 hx (hb hby d8_164) (XT.ii_ne_f c6) rfl ?_
              refine o_sipush (pc' := 170) (v := (144 : Int32)) X0 hx (hb hby d8_167) rfl rfl ?_
              refine o_istore (pc' := 172) (l' := #[.val (.ref x0), .val (.int x1), .val (.int x2), .val (.int (oGet4 y0 y1 y2 y3 x1)), .val (.int (144 : Int32)), .val (.int (191 : Int32))]) X0 hx (hb hby d8_170) rfl rfl ?_
              exact J7 _ (if_pos c6).symm
            · refine o_icmpT (pc' := 172) X0 hx (hb hby d8_164) (XT.ii_ne_t c6) (by decide) (by decide) ?_
              exact J7 _ (if_neg c6).symm
      · refine o_icmpF (pc' := 57) X0 hx (hb hby d8_54) (XT.ii_lt_f c3) rfl ?_
        refine o_iloadN (pc' := 58) X0 hx (hb hby d8_57) rfl rfl ?_
        refine o_sipush (pc' := 61) (v := (239 : Int32)) X0 hx (hb hby d8_58) rfl rfl ?_
        by_cases c21 : (239 : Int32) < (oGet4 y0 y1 y2 y3 x1)
        · refine o_icmpT (pc' := 136) X0 hx (hb hby d8_61) (XT.ii_gt_t c21) (by decide) (by decide) ?_
          refine o_iloadN (pc' := 137) X0 hx (hb hby d8_136) rfl rfl ?_
          refine o_sipush (pc' := 140) (v := (240 : Int32)) X0 hx (hb hby d8_137) rfl rfl ?_
          by_cases c22 : (oGet4 y0 y1 y2 y3 x1) < (240 : Int32)
          · refine o_icmpT (pc' := 239) X0 hx (hb hby d8_140) (XT.ii_lt_t c22) (by decide) (by decide) ?_
            refine o_iconst (pc' := 240) (v := (0 : Int32)) X0 hx (hb hby d8_239) rfl rfl ?_
            refine o_retI X0 hx hret hlk (hb hby d8_240) (by decide) (by decide) ?_
            exact ⟨congrArg (fun z => some (Value.int z)) (show _ = (spec8 x1 x2 y0 y1 y2 y3) from ((if_neg c1).trans ((if_pos c2).trans ((if_neg c3).trans ((if_pos c21).trans (if_pos c22))))).symm), rfl, e0⟩
          · refine o_icmpF (pc' := 143) X0 hx (hb hby d8_140) (XT.ii_lt_f c22) rfl ?_
            refine o_iloadN (pc' := 144) X0 hx (hb hby d8_143) rfl rfl ?_
            refine o_sipush (pc' := 147) (v := (244 : Int32)) X0 hx (hb hby d8_144) rfl rfl ?_
            by_cases c23 : (244 : Int32) < (oGet4 y0 y1 y2 y3 x1)
            · refine o_icmpT (pc' := 239) X0 hx (hb hby d8_147) (XT.ii_gt_t c23) (by decide) (by decide) ?_
              refine o_iconst (pc' := 240) (v := (0 : Int32)) X0 hx (hb hby d8_239) rfl rfl ?_
              refine o_retI X0 hx hret hlk (hb hby d8_240) (by decide) (by decide) ?_
              exact ⟨congrArg (fun z => some (Value.int z)) (show _ = (spec8 x1 x2 y0 y1 y2 y3) from ((if_neg c1).trans ((if_pos c2).trans ((if_neg c3).trans ((if_pos c21).trans ((if_neg c22).trans (if_pos c23)))))).symm), rfl, e0⟩
            · refine o_icmpF (pc' := 150) X0 hx (hb hby d8_147) (XT.ii_gt_f c23) rfl ?_
              refine o_sipush (pc' := 153) (v := (128 : Int32)) X0 hx (hb hby d8_150) rfl rfl ?_
              refine o_istore (pc' := 155) (l' := #[.val (.ref x0), .val (.int x1), .val (.int x2), .val (.int (oGet4 y0 y1 y2 y3 x1)), .val (.int (128 : Int32)), .unset]) X0 hx (hb hby d8_153) rfl rfl ?_
              refine o_sipush (pc' := 158) (v := (191 : Int32)) X0 hx (hb hby d8_155) rfl rfl ?_
              refine o_istore (pc' := 160) (l' := #[.val (.ref x0), .val (.int x1), .val (.int x2), .val (.int (oGet4 y0 y1 y2 y3 x1)), .val (.int (128 : Int32)), .val (.int (191 : Int32))]) X0 hx (hb hby d8_158) rfl rfl ?_
              refine o_iloadN (pc' := 161) X0 hx (hb hby d8_160) rfl rfl ?_
              refine o_sipush (pc' := 164) (v := (240 : Int32)) X0 hx (hb hby d8_161) rfl rfl ?_
              have J25 : ∀ (v26 : Int32), v26 = (if (oGet4 y0 y1 y2 y3 x1) = (240 : Int32) then (144 : Int32) else (128 : Int32)) → oGo p e below (oG s (fun v h L => v = some (.int (spec8 x1 x2 y0 y1 y2 y3)) ∧ L = [] ∧ h = h0) room8.cells room8.slots) s₁ (mkF m 172 #[.val (.ref x0), .val (.int x1), .val (.int x2), .val (.int (oGet4 y0 y1 y2 y3 x1)), .val (.int v26), .val (.int (191 : Int32))] []) := by
                intro v26 hv26
                refine o_iloadN (pc' := 173) X0 hx (hb hby d8_172) rfl rfl ?_
                refine o_sipush (pc' := 176) (v := (244 : Int32)) X0 hx (hb hby d8_173) rfl rfl ?_
                have J28 : ∀ (v29 : Int32), v29 = (if (oGet4 y0 y1 y2 y3 x1) = (244 : Int32) then (143 : Int32) else (191 : Int32)) → oGo p e below (oG s (fun v h L => v = some (.int (spec8 x1 x2 y0 y1 y2 y3)) ∧ L = [] ∧ h = h0) room8.cells room8.slots) s₁ (mkF m 184 #[.val (.ref x0), .val (.int x1), .val (.int x2), .val (.int (oGet4 y0 y1 y2 y3 x1)), .val (.int v26), .val (.int v29)] []) := by
                  intro v29 hv29
                  refine o_aloadN (pc' := 185) X0 hx (hb hby d8_184) rfl rfl rfl ?_
                  refine o_iloadN (pc' := 186) X0 hx (hb hby d8_185) rfl rfl ?_
                  refine o_iconst (pc' := 187) (v := (1 : Int32)) X0 hx (hb hby d8_186) rfl rfl ?_
                  refine o_iadd (pc' := 188) X0 hx (hb hby d8_187)  rfl ?_
                  refine o_iloadN (pc' := 189) X0 hx (hb hby d8_188) rfl rfl ?_
                  refine o_iload (pc' := 191) X0 hx (hb hby d8_189) rfl rfl ?_
                  refine o_iload (pc' := 193) X0 hx (hb hby d8_191) rfl rfl ?_
                  obtain ⟨r30, T30, L30, X30, hq30, st30⟩ := o_callS X0 hx hZ hown (hw _ (List.mem_of_getElem? (i := 44) rfl)) (hw _ (List.mem_of_getElem? (i := 45) rfl)) (hw _ (List.mem_of_getElem? (i := 13) rfl)) (hw _ (List.mem_of_getElem? (i := 46) rfl)) (by decide) (rm9 l Z a0 hw x0 (x1 + (1 : Int32)) x2 v26 v29 y0 y1 y2 y3 h0 n0 Z0 A0 (own_nn hi (own_lt4 hin hn)).1 hn) e0 (pc' := 196) (Ls := #[.val (.ref x0), .val (.int x1), .val (.int x2), .val (.int (oGet4 y0 y1 y2 y3 x1)), .val (.int v26), .val (.int v29)]) (by rw [hml]; rfl) [(.ref x0), (.int (x1 + (1 : Int32))), (.int x2), (.int v26), (.int v29)] [] rfl pd0 rfl rfl 0 (Nat.le_of_eq rfl) (hb hby d8_193) rfl (by decide) (by decide) (by decide) (by decide)
                  obtain ⟨rfl, rfl, Kc30⟩ := hq30
                  refine oGo.step (f' := (mkF m 196 #[.val (.ref x0), .val (.int x1), .val (.int x2), .val (.int (oGet4 y0 y1 y2 y3 x1)), .val (.int v26), .val (.int v29)] [(.int (spec9 (x1 + (1 : Int32)) x2 v26 v29 y0 y1 y2 y3))])) st30 ?_
                  have e30 : T30.heap = h0 := Kc30
                  have X30 := o_same X30 rfl rfl
                  have J32 : ∀ (T38 : State) (X38 : Stand p l e room8 s m #[(.ref x0), (.int x1), (.int x2)] below meth c T38 [] (0) (0)) (e38 : T38.heap = h0) (v37 : Int32), v37 = (if (spec9 (x1 + (1 : Int32)) x2 v26 v29 y0 y1 y2 y3) = 0 then (0 : Int32) else (if (spec9 (x1 + (2 : Int32)) x2 (128 : Int32) (191 : Int32) y0 y1 y2 y3) = 0 then (0 : Int32) else (if (spec9 (x1 + (3 : Int32)) x2 (128 : Int32) (191 : Int32) y0 y1 y2 y3) = 0 then (0 : Int32) else (4 : Int32)))) → oGo p e below (oG s (fun v h L => v = some (.int (spec8 x1 x2 y0 y1 y2 y3)) ∧ L = [] ∧ h = h0) room8.cells room8.slots) T38 (mkF m 238 #[.val (.ref x0), .val (.int x1), .val (.int x2), .val (.int (oGet4 y0 y1 y2 y3 x1)), .val (.int v26), .val (.int v29)] [(.int v37)]) := by
                    intro T38 X38 e38 v37 hv37
                    refine o_retI X38 hx hret hlk (hb hby d8_238) (by decide) (by decide) ?_
                    subst hv37 hv29 hv26
                    exact ⟨congrArg (fun z => some (Value.int z)) (show _ = (spec8 x1 x2 y0 y1 y2 y3) from ((if_neg c1).trans ((if_pos c2).trans ((if_neg c3).trans ((if_pos c21).trans ((if_neg c22).trans (if_neg c23)))))).symm), rfl, e38⟩
                  by_cases c31 : (spec9 (x1 + (1 : Int32)) x2 v26 v29 y0 y1 y2 y3) = 0
                  · refine o_ifT (pc' := 237) X30 hx (hb hby d8_196) (XT.i0_eq_t c31) (by decide) (by decide) ?_
                    refine o_iconst (pc' := 238) (v := (0 : Int32)) X30 hx (hb hby d8_237) rfl rfl ?_
                    exact J32 T30 X30 e30 _ (if_pos c31).symm
                  · refine o_ifF (pc' := 199) X30 hx (hb hby d8_196) (XT.i0_eq_f c31) rfl ?_
                    refine o_aloadN (pc' := 200) X30 hx (hb hby d8_199) rfl rfl rfl ?_
                    refine o_iloadN (pc' := 201) X30 hx (hb hby d8_200) rfl rfl ?_
                    refine o_iconst (pc' := 202) (v := (2 : Int32)) X30 hx (hb hby d8_201) rfl rfl ?_
                    refine o_iadd (pc' := 203) X30 hx (hb hby d8_202)  rfl ?_
                    refine o_iloadN (pc' := 204) X30 hx (hb hby d8_203) rfl rfl ?_
                    refine o_sipush (pc' := 207) (v := (128 : Int32)) X30 hx (hb hby d8_204) rfl rfl ?_
                    refine o_sipush (pc' := 210) (v := (191 : Int32)) X30 hx (hb hby d8_207) rfl rfl ?_
                    obtain ⟨r33, T33, L33, X33, hq33, st33⟩ := o_callS X30 hx hZ hown (hw _ (List.mem_of_getElem? (i := 44) rfl)) (hw _ (List.mem_of_getElem? (i := 45) rfl)) (hw _ (List.mem_of_getElem? (i := 13) rfl)) (hw _ (List.mem_of_getElem? (i := 46) rfl)) (by decide) (rm9 l Z a0 hw x0 (x1 + (2 : Int32)) x2 (128 : Int32) (191 : Int32) y0 y1 y2 y3 h0 n0 Z0 A0 (own_nn hi (own_lt4 hin hn)).2.1 hn) e30 (pc' := 213) (Ls := #[.val (.ref x0), .val (.int x1), .val (.int x2), .val (.int (oGet4 y0 y1 y2 y3 x1)), .val (.int v26), .val (.int v29)]) (by rw [hml]; rfl) [(.ref x0), (.int (x1 + (2 : Int32))), (.int x2), (.int (128 : Int32)), (.int (191 : Int32))] [] rfl pd0 rfl rfl 0 (Nat.le_of_eq rfl) (hb hby d8_210) rfl (by decide) (by decide) (by decide) (by decide)
                    obtain ⟨rfl, rfl, Kc33⟩ := hq33
                    refine oGo.step (f' := (mkF m 213 #[.val (.ref x0), .val (.int x1), .val (.int x2), .val (.int (oGet4 y0 y1 y2 y3 x1)), .val (.int v26), .val (.int v29)] [(.int (spec9 (x1 + (2 : Int32)) x2 (128 : Int32) (191 : Int32) y0 y1 y2 y3))])) st33 ?_
                    have e33 : T33.heap = h0 := Kc33
                    have X33 := o_same X33 rfl rfl
                    by_cases c34 : (spec9 (x1 + (2 : Int32)) x2 (128 : Int32) (191 : Int32) y0 y1 y2 y3) = 0
                    · refine o_ifT (pc' := 237) X33 hx (hb hby d8_213) (XT.i0_eq_t c34) (by decide) (by decide) ?_
                      refine o_iconst (pc' := 238) (v := (0 : Int32)) X33 hx (hb hby d8_237) rfl rfl ?_
                      exact J32 T33 X33 e33 _ ((if_neg c31).trans (if_pos c34)).symm
                    · refine o_ifF (pc' := 216) X33 hx (hb hby d8_213) (XT.i0_eq_f c34) rfl ?_
                      refine o_aloadN (pc' := 217) X33 hx (hb hby d8_216) rfl rfl rfl ?_
                      refine o_iloadN (pc' := 218) X33 hx (hb hby d8_217) rfl rfl ?_
                      refine o_iconst (pc' := 219) (v := (3 : Int32)) X33 hx (hb hby d8_218) rfl rfl ?_
                      refine o_iadd (pc' := 220) X33 hx (hb hby d8_219)  rfl ?_
                      refine o_iloadN (pc' := 221) X33 hx (hb hby d8_220) rfl rfl ?_
                      refine o_sipush (pc' := 224) (v := (128 : Int32)) X33 hx (hb hby d8_221) rfl rfl ?_
                      refine o_sipush (pc' := 227) (v := (191 : Int32)) X33 hx (hb hby d8_224) rfl rfl ?_
                      obtain ⟨r35, T35, L35, X35, hq35, st35⟩ := o_callS X33 hx hZ hown (hw _ (List.mem_of_getElem? (i := 44) rfl)) (hw _ (List.mem_of_getElem? (i := 45) rfl)) (hw _ (List.mem_of_getElem? (i := 13) rfl)) (hw _ (List.mem_of_getElem? (i := 46) rfl)) (by decide) (rm9 l Z a0 hw x0 (x1 + (3 : Int32)) x2 (128 : Int32) (191 : Int32) y0 y1 y2 y3 h0 n0 Z0 A0 (own_nn hi (own_lt4 hin hn)).2.2 hn) e33 (pc' := 230) (Ls := #[.val (.ref x0), .val (.int x1), .val (.int x2), .val (.int (oGet4 y0 y1 y2 y3 x1)), .val (.int v26), .val (.int v29)]) (by rw [hml]; rfl) [(.ref x0), (.int (x1 + (3 : Int32))), (.int x2), (.int (128 : Int32)), (.int (191 : Int32))] [] rfl pd0 rfl rfl 0 (Nat.le_of_eq rfl) (hb hby d8_227) rfl (by decide) (by decide) (by decide) (by decide)
                      obtain ⟨rfl, rfl, Kc35⟩ := hq35
                      refine oGo.step (f' := (mkF m 230 #[.val (.ref x0), .val (.int x1), .val (.int x2), .val (.int (oGet4 y0 y1 y2 y3 x1)), .val (.int v26), .val (.int v29)] [(.int (spec9 (x1 + (3 : Int32)) x2 (128 : Int32) (191 : Int32) y0 y1 y2 y3))])) st35 ?_
                      have e35 : T35.heap = h0 := Kc35
                      have X35 := o_same X35 rfl rfl
                      by_cases c36 : (spec9 (x1 + (3 : Int32)) x2 (128 : Int32) (191 : Int32) y0 y1 y2 y3) = 0
                      · refine o_ifT (pc' := 237) X35 hx (hb hby d8_230) (XT.i0_eq_t c36) (by decide) (by decide) ?_
                        refine o_iconst (pc' := 238) (v := (0 : Int32)) X35 hx (hb hby d8_237) rfl rfl ?_
                        exact J32 T35 X35 e35 _ ((if_neg c31).trans ((if_neg c34).trans (if_pos c36))).symm
                      · refine o_ifF (pc' := 233) X35 hx (hb hby d8_230) (XT.i0_eq_f c36) rfl ?_
                        refine o_iconst (pc' := 234) (v := (4 : Int32)) X35 hx (hb hby d8_233) rfl rfl ?_
                        refine o_goto (pc' := 238) X35 hx (hb hby d8_234) (by decide) (by decide) ?_
                        exact J32 T35 X35 e35 _ ((if_neg c31).trans ((if_neg c34).trans (if_neg c36))).symm
                by_cases c27 : (oGet4 y0 y1 y2 y3 x1) = (244 : Int32)
                · refine o_icmpF (pc' := 179) X0 hx (hb hby d8_176) (XT.ii_ne_f c27) rfl ?_
                  refine o_sipush (pc' := 182) (v := (143 : Int32)) X0 hx (hb hby d8_179) rfl rfl ?_
                  refine o_istore (pc' := 184) (l' := #[.val (.ref x0), .val (.int x1), .val (.int x2), .val (.int (oGet4 y0 y1 y2 y3 x1)), .val (.int v26), .val (.int (143 : Int32))]) X0 hx (hb hby d8_182) rfl rfl ?_
                  exact J28 _ (if_pos c27).symm
                · refine o_icmpT (pc' := 184) X0 hx (hb hby d8_176) (XT.ii_ne_t c27) (by decide) (by decide) ?_
                  exact J28 _ (if_neg c27).symm
              by_cases c24 : (oGet4 y0 y1 y2 y3 x1) = (240 : Int32)
              · refine o_icmpF (pc' := 167) X0 hx (hb hby d8_164) (XT.ii_ne_f c24) rfl ?_
                refine o_sipush (pc' := 170) (v := (144 : Int32)) X0 hx (hb hby d8_167) rfl rfl ?_
                refine o_istore (pc' := 172) (l' := #[.val (.ref x0), .val (.int x1), .val (.int x2), .val (.int (oGet4 y0 y1 y2 y3 x1)), .val (.int (144 : Int32)), .val (.int (191 : Int32))]) X0 hx (hb hby d8_170) rfl rfl ?_
                exact J25 _ (if_pos c24).symm
              · refine o_icmpT (pc' := 172) X0 hx (hb hby d8_164) (XT.ii_ne_t c24) (by decide) (by decide) ?_
                exact J25 _ (if_neg c24).symm
        · refine o_icmpF (pc' := 64) X0 hx (hb hby d8_61) (XT.ii_gt_f c21) rfl ?_
          refine o_sipush (pc' := 67) (v := (128 : Int32)) X0 hx (hb hby d8_64) rfl rfl ?_
          refine o_istore (pc' := 69) (l' := #[.val (.ref x0), .val (.int x1), .val (.int x2), .val (.int (oGet4 y0 y1 y2 y3 x1)), .val (.int (128 : Int32)), .unset]) X0 hx (hb hby d8_67) rfl rfl ?_
          refine o_sipush (pc' := 72) (v := (191 : Int32)) X0 hx (hb hby d8_69) rfl rfl ?_
          refine o_istore (pc' := 74) (l' := #[.val (.ref x0), .val (.int x1), .val (.int x2), .val (.int (oGet4 y0 y1 y2 y3 x1)), .val (.int (128 : Int32)), .val (.int (191 : Int32))]) X0 hx (hb hby d8_72) rfl rfl ?_
          refine o_iloadN (pc' := 75) X0 hx (hb hby d8_74) rfl rfl ?_
          refine o_sipush (pc' := 78) (v := (224 : Int32)) X0 hx (hb hby d8_75) rfl rfl ?_
          have J40 : ∀ (v41 : Int32), v41 = (if (oGet4 y0 y1 y2 y3 x1) = (224 : Int32) then (160 : Int32) else (128 : Int32)) → oGo p e below (oG s (fun v h L => v = some (.int (spec8 x1 x2 y0 y1 y2 y3)) ∧ L = [] ∧ h = h0) room8.cells room8.slots) s₁ (mkF m 86 #[.val (.ref x0), .val (.int x1), .val (.int x2), .val (.int (oGet4 y0 y1 y2 y3 x1)), .val (.int v41), .val (.int (191 : Int32))] []) := by
            intro v41 hv41
            refine o_iloadN (pc' := 87) X0 hx (hb hby d8_86) rfl rfl ?_
            refine o_sipush (pc' := 90) (v := (237 : Int32)) X0 hx (hb hby d8_87) rfl rfl ?_
            have J43 : ∀ (v44 : Int32), v44 = (if (oGet4 y0 y1 y2 y3 x1) = (237 : Int32) then (159 : Int32) else (191 : Int32)) → oGo p e below (oG s (fun v h L => v = some (.int (spec8 x1 x2 y0 y1 y2 y3)) ∧ L = [] ∧ h = h0) room8.cells room8.slots) s₁ (mkF m 98 #[.val (.ref x0), .val (.int x1), .val (.int x2), .val (.int (oGet4 y0 y1 y2 y3 x1)), .val (.int v41), .val (.int v44)] []) := by
              intro v44 hv44
              refine o_aloadN (pc' := 99) X0 hx (hb hby d8_98) rfl rfl rfl ?_
              refine o_iloadN (pc' := 100) X0 hx (hb hby d8_99) rfl rfl ?_
              refine o_iconst (pc' := 101) (v := (1 : Int32)) X0 hx (hb hby d8_100) rfl rfl ?_
              refine o_iadd (pc' := 102) X0 hx (hb hby d8_101)  rfl ?_
              refine o_iloadN (pc' := 103) X0 hx (hb hby d8_102) rfl rfl ?_
              refine o_iload (pc' := 105) X0 hx (hb hby d8_103) rfl rfl ?_
              refine o_iload (pc' := 107) X0 hx (hb hby d8_105) rfl rfl ?_
              obtain ⟨r45, T45, L45, X45, hq45, st45⟩ := o_callS X0 hx hZ hown (hw _ (List.mem_of_getElem? (i := 44) rfl)) (hw _ (List.mem_of_getElem? (i := 45) rfl)) (hw _ (List.mem_of_getElem? (i := 13) rfl)) (hw _ (List.mem_of_getElem? (i := 46) rfl)) (by decide) (rm9 l Z a0 hw x0 (x1 + (1 : Int32)) x2 v41 v44 y0 y1 y2 y3 h0 n0 Z0 A0 (own_nn hi (own_lt4 hin hn)).1 hn) e0 (pc' := 110) (Ls := #[.val (.ref x0), .val (.int x1), .val (.int x2), .val (.int (oGet4 y0 y1 y2 y3 x1)), .val (.int v41), .val (.int v44)]) (by rw [hml]; rfl) [(.ref x0), (.int (x1 + (1 : Int32))), (.int x2), (.int v41), (.int v44)] [] rfl pd0 rfl rfl 0 (Nat.le_of_eq rfl) (hb hby d8_107) rfl (by decide) (by decide) (by decide) (by decide)
              obtain ⟨rfl, rfl, Kc45⟩ := hq45
              refine oGo.step (f' := (mkF m 110 #[.val (.ref x0), .val (.int x1), .val (.int x2), .val (.int (oGet4 y0 y1 y2 y3 x1)), .val (.int v41), .val (.int v44)] [(.int (spec9 (x1 + (1 : Int32)) x2 v41 v44 y0 y1 y2 y3))])) st45 ?_
              have e45 : T45.heap = h0 := Kc45
              have X45 := o_same X45 rfl rfl
              have J47 : ∀ (T51 : State) (X51 : Stand p l e room8 s m #[(.ref x0), (.int x1), (.int x2)] below meth c T51 [] (0) (0)) (e51 : T51.heap = h0) (v50 : Int32), v50 = (if (spec9 (x1 + (1 : Int32)) x2 v41 v44 y0 y1 y2 y3) = 0 then (0 : Int32) else (if (spec9 (x1 + (2 : Int32)) x2 (128 : Int32) (191 : Int32) y0 y1 y2 y3) = 0 then (0 : Int32) else (3 : Int32))) → oGo p e below (oG s (fun v h L => v = some (.int (spec8 x1 x2 y0 y1 y2 y3)) ∧ L = [] ∧ h = h0) room8.cells room8.slots) T51 (mkF m 135 #[.val (.ref x0), .val (.int x1), .val (.int x2), .val (.int (oGet4 y0 y1 y2 y3 x1)), .val (.int v41), .val (.int v44)] [(.int v50)]) := by
                intro T51 X51 e51 v50 hv50
                refine o_retI X51 hx hret hlk (hb hby d8_135) (by decide) (by decide) ?_
                subst hv50 hv44 hv41
                exact ⟨congrArg (fun z => some (Value.int z)) (show _ = (spec8 x1 x2 y0 y1 y2 y3) from ((if_neg c1).trans ((if_pos c2).trans ((if_neg c3).trans (if_neg c21)))).symm), rfl, e51⟩
              by_cases c46 : (spec9 (x1 + (1 : Int32)) x2 v41 v44 y0 y1 y2 y3) = 0
              · refine o_ifT (pc' := 134) X45 hx (hb hby d8_110) (XT.i0_eq_t c46) (by decide) (by decide) ?_
                refine o_iconst (pc' := 135) (v := (0 : Int32)) X45 hx (hb hby d8_134) rfl rfl ?_
                exact J47 T45 X45 e45 _ (if_pos c46).symm
              · refine o_ifF (pc' := 113) X45 hx (hb hby d8_110) (XT.i0_eq_f c46) rfl ?_
                refine o_aloadN (pc' := 114) X45 hx (hb hby d8_113) rfl rfl rfl ?_
                refine o_iloadN (pc' := 115) X45 hx (hb hby d8_114) rfl rfl ?_
                refine o_iconst (pc' := 116) (v := (2 : Int32)) X45 hx (hb hby d8_115) rfl rfl ?_
                refine o_iadd (pc' := 117) X45 hx (hb hby d8_116)  rfl ?_
                refine o_iloadN (pc' := 118) X45 hx (hb hby d8_117) rfl rfl ?_
                refine o_sipush (pc' := 121) (v := (128 : Int32)) X45 hx (hb hby d8_118) rfl rfl ?_
                refine o_sipush (pc' := 124) (v := (191 : Int32)) X45 hx (hb hby d8_121) rfl rfl ?_
                obtain ⟨r48, T48, L48, X48, hq48, st48⟩ := o_callS X45 hx hZ hown (hw _ (List.mem_of_getElem? (i := 44) rfl)) (hw _ (List.mem_of_getElem? (i := 45) rfl)) (hw _ (List.mem_of_getElem? (i := 13) rfl)) (hw _ (List.mem_of_getElem? (i := 46) rfl)) (by decide) (rm9 l Z a0 hw x0 (x1 + (2 : Int32)) x2 (128 : Int32) (191 : Int32) y0 y1 y2 y3 h0 n0 Z0 A0 (own_nn hi (own_lt4 hin hn)).2.1 hn) e45 (pc' := 127) (Ls := #[.val (.ref x0), .val (.int x1), .val (.int x2), .val (.int (oGet4 y0 y1 y2 y3 x1)), .val (.int v41), .val (.int v44)]) (by rw [hml]; rfl) [(.ref x0), (.int (x1 + (2 : Int32))), (.int x2), (.int (128 : Int32)), (.int (191 : Int32))] [] rfl pd0 rfl rfl 0 (Nat.le_of_eq rfl) (hb hby d8_124) rfl (by decide) (by decide) (by decide) (by decide)
                obtain ⟨rfl, rfl, Kc48⟩ := hq48
                refine oGo.step (f' := (mkF m 127 #[.val (.ref x0), .val (.int x1), .val (.int x2), .val (.int (oGet4 y0 y1 y2 y3 x1)), .val (.int v41), .val (.int v44)] [(.int (spec9 (x1 + (2 : Int32)) x2 (128 : Int32) (191 : Int32) y0 y1 y2 y3))])) st48 ?_
                have e48 : T48.heap = h0 := Kc48
                have X48 := o_same X48 rfl rfl
                by_cases c49 : (spec9 (x1 + (2 : Int32)) x2 (128 : Int32) (191 : Int32) y0 y1 y2 y3) = 0
                · refine o_ifT (pc' := 134) X48 hx (hb hby d8_127) (XT.i0_eq_t c49) (by decide) (by decide) ?_
                  refine o_iconst (pc' := 135) (v := (0 : Int32)) X48 hx (hb hby d8_134) rfl rfl ?_
                  exact J47 T48 X48 e48 _ ((if_neg c46).trans (if_pos c49)).symm
                · refine o_ifF (pc' := 130) X48 hx (hb hby d8_127) (XT.i0_eq_f c49) rfl ?_
                  refine o_iconst (pc' := 131) (v := (3 : Int32)) X48 hx (hb hby d8_130) rfl rfl ?_
                  refine o_goto (pc' := 135) X48 hx (hb hby d8_131) (by decide) (by decide) ?_
                  exact J47 T48 X48 e48 _ ((if_neg c46).trans (if_neg c49)).symm
            by_cases c42 : (oGet4 y0 y1 y2 y3 x1) = (237 : Int32)
            · refine o_icmpF (pc' := 93) X0 hx (hb hby d8_90) (XT.ii_ne_f c42) rfl ?_
              refine o_sipush (pc' := 96) (v := (159 : Int32)) X0 hx (hb hby d8_93) rfl rfl ?_
              refine o_istore (pc' := 98) (l' := #[.val (.ref x0), .val (.int x1), .val (.int x2), .val (.int (oGet4 y0 y1 y2 y3 x1)), .val (.int v41), .val (.int (159 : Int32))]) X0 hx (hb hby d8_96) rfl rfl ?_
              exact J43 _ (if_pos c42).symm
            · refine o_icmpT (pc' := 98) X0 hx (hb hby d8_90) (XT.ii_ne_t c42) (by decide) (by decide) ?_
              exact J43 _ (if_neg c42).symm
          by_cases c39 : (oGet4 y0 y1 y2 y3 x1) = (224 : Int32)
          · refine o_icmpF (pc' := 81) X0 hx (hb hby d8_78) (XT.ii_ne_f c39) rfl ?_
            refine o_sipush (pc' := 84) (v := (160 : Int32)) X0 hx (hb hby d8_81) rfl rfl ?_
            refine o_istore (pc' := 86) (l' := #[.val (.ref x0), .val (.int x1), .val (.int x2), .val (.int (oGet4 y0 y1 y2 y3 x1)), .val (.int (160 : Int32)), .val (.int (191 : Int32))]) X0 hx (hb hby d8_84) rfl rfl ?_
            exact J40 _ (if_pos c39).symm
          · refine o_icmpT (pc' := 86) X0 hx (hb hby d8_78) (XT.ii_ne_t c39) (by decide) (by decide) ?_
            exact J40 _ (if_neg c39).symm
    · refine o_icmpF (pc' := 20) X0 hx (hb hby d8_17) (XT.ii_lt_f c2) rfl ?_
      refine o_iloadN (pc' := 21) X0 hx (hb hby d8_20) rfl rfl ?_
      refine o_sipush (pc' := 24) (v := (223 : Int32)) X0 hx (hb hby d8_21) rfl rfl ?_
      by_cases c52 : (223 : Int32) < (oGet4 y0 y1 y2 y3 x1)
      · refine o_icmpT (pc' := 50) X0 hx (hb hby d8_24) (XT.ii_gt_t c52) (by decide) (by decide) ?_
        refine o_iloadN (pc' := 51) X0 hx (hb hby d8_50) rfl rfl ?_
        refine o_sipush (pc' := 54) (v := (224 : Int32)) X0 hx (hb hby d8_51) rfl rfl ?_
        by_cases c53 : (oGet4 y0 y1 y2 y3 x1) < (224 : Int32)
        · refine o_icmpT (pc' := 136) X0 hx (hb hby d8_54) (XT.ii_lt_t c53) (by decide) (by decide) ?_
          refine o_iloadN (pc' := 137) X0 hx (hb hby d8_136) rfl rfl ?_
          refine o_sipush (pc' := 140) (v := (240 : Int32)) X0 hx (hb hby d8_137) rfl rfl ?_
          by_cases c54 : (oGet4 y0 y1 y2 y3 x1) < (240 : Int32)
          · refine o_icmpT (pc' := 239) X0 hx (hb hby d8_140) (XT.ii_lt_t c54) (by decide) (by decide) ?_
            refine o_iconst (pc' := 240) (v := (0 : Int32)) X0 hx (hb hby d8_239) rfl rfl ?_
            refine o_retI X0 hx hret hlk (hb hby d8_240) (by decide) (by decide) ?_
            exact ⟨congrArg (fun z => some (Value.int z)) (show _ = (spec8 x1 x2 y0 y1 y2 y3) from ((if_neg c1).trans ((if_neg c2).trans ((if_pos c52).trans ((if_pos c53).trans (if_pos c54))))).symm), rfl, e0⟩
          · refine o_icmpF (pc' := 143) X0 hx (hb hby d8_140) (XT.ii_lt_f c54) rfl ?_
            refine o_iloadN (pc' := 144) X0 hx (hb hby d8_143) rfl rfl ?_
            refine o_sipush (pc' := 147) (v := (244 : Int32)) X0 hx (hb hby d8_144) rfl rfl ?_
            by_cases c55 : (244 : Int32) < (oGet4 y0 y1 y2 y3 x1)
            · refine o_icmpT (pc' := 239) X0 hx (hb hby d8_147) (XT.ii_gt_t c55) (by decide) (by decide) ?_
              refine o_iconst (pc' := 240) (v := (0 : Int32)) X0 hx (hb hby d8_239) rfl rfl ?_
              refine o_retI X0 hx hret hlk (hb hby d8_240) (by decide) (by decide) ?_
              exact ⟨congrArg (fun z => some (Value.int z)) (show _ = (spec8 x1 x2 y0 y1 y2 y3) from ((if_neg c1).trans ((if_neg c2).trans ((if_pos c52).trans ((if_pos c53).trans ((if_neg c54).trans (if_pos c55)))))).symm), rfl, e0⟩
            · refine o_icmpF (pc' := 150) X0 hx (hb hby d8_147) (XT.ii_gt_f c55) rfl ?_
              refine o_sipush (pc' := 153) (v := (128 : Int32)) X0 hx (hb hby d8_150) rfl rfl ?_
              refine o_istore (pc' := 155) (l' := #[.val (.ref x0), .val (.int x1), .val (.int x2), .val (.int (oGet4 y0 y1 y2 y3 x1)), .val (.int (128 : Int32)), .unset]) X0 hx (hb hby d8_153) rfl rfl ?_
              refine o_sipush (pc' := 158) (v := (191 : Int32)) X0 hx (hb hby d8_155) rfl rfl ?_
              refine o_istore (pc' := 160) (l' := #[.val (.ref x0), .val (.int x1), .val (.int x2), .val (.int (oGet4 y0 y1 y2 y3 x1)), .val (.int (128 : Int32)), .val (.int (191 : Int32))]) X0 hx (hb hby d8_158) rfl rfl ?_
              refine o_iloadN (pc' := 161) X0 hx (hb hby d8_160) rfl rfl ?_
              refine o_sipush (pc' := 164) (v := (240 : Int32)) X0 hx (hb hby d8_161) rfl rfl ?_
              have J57 : ∀ (v58 : Int32), v58 = (if (oGet4 y0 y1 y2 y3 x1) = (240 : Int32) then (144 : Int32) else (128 : Int32)) → oGo p e below (oG s (fun v h L => v = some (.int (spec8 x1 x2 y0 y1 y2 y3)) ∧ L = [] ∧ h = h0) room8.cells room8.slots) s₁ (mkF m 172 #[.val (.ref x0), .val (.int x1), .val (.int x2), .val (.int (oGet4 y0 y1 y2 y3 x1)), .val (.int v58), .val (.int (191 : Int32))] []) := by
                intro v58 hv58
                refine o_iloadN (pc' := 173) X0 hx (hb hby d8_172) rfl rfl ?_
                refine o_sipush (pc' := 176) (v := (244 : Int32)) X0 hx (hb hby d8_173) rfl rfl ?_
                have J60 : ∀ (v61 : Int32), v61 = (if (oGet4 y0 y1 y2 y3 x1) = (244 : Int32) then (143 : Int32) else (191 : Int32)) → oGo p e below (oG s (fun v h L => v = some (.int (spec8 x1 x2 y0 y1 y2 y3)) ∧ L = [] ∧ h = h0) room8.cells room8.slots) s₁ (mkF m 184 #[.val (.ref x0), .val (.int x1), .val (.int x2), .val (.int (oGet4 y0 y1 y2 y3 x1)), .val (.int v58), .val (.int v61)] []) := by
                  intro v61 hv61
                  refine o_aloadN (pc' := 185) X0 hx (hb hby d8_184) rfl rfl rfl ?_
                  refine o_iloadN (pc' := 186) X0 hx (hb hby d8_185) rfl rfl ?_
                  refine o_iconst (pc' := 187) (v := (1 : Int32)) X0 hx (hb hby d8_186) rfl rfl ?_
                  refine o_iadd (pc' := 188) X0 hx (hb hby d8_187)  rfl ?_
                  refine o_iloadN (pc' := 189) X0 hx (hb hby d8_188) rfl rfl ?_
                  refine o_iload (pc' := 191) X0 hx (hb hby d8_189) rfl rfl ?_
                  refine o_iload (pc' := 193) X0 hx (hb hby d8_191) rfl rfl ?_
                  obtain ⟨r62, T62, L62, X62, hq62, st62⟩ := o_callS X0 hx hZ hown (hw _ (List.mem_of_getElem? (i := 44) rfl)) (hw _ (List.mem_of_getElem? (i := 45) rfl)) (hw _ (List.mem_of_getElem? (i := 13) rfl)) (hw _ (List.mem_of_getElem? (i := 46) rfl)) (by decide) (rm9 l Z a0 hw x0 (x1 + (1 : Int32)) x2 v58 v61 y0 y1 y2 y3 h0 n0 Z0 A0 (own_nn hi (own_lt4 hin hn)).1 hn) e0 (pc' := 196) (Ls := #[.val (.ref x0), .val (.int x1), .val (.int x2), .val (.int (oGet4 y0 y1 y2 y3 x1)), .val (.int v58), .val (.int v61)]) (by rw [hml]; rfl) [(.ref x0), (.int (x1 + (1 : Int32))), (.int x2), (.int v58), (.int v61)] [] rfl pd0 rfl rfl 0 (Nat.le_of_eq rfl) (hb hby d8_193) rfl (by decide) (by decide) (by decide) (by decide)
                  obtain ⟨rfl, rfl, Kc62⟩ := hq62
                  refine oGo.step (f' := (mkF m 196 #[.val (.ref x0), .val (.int x1), .val (.int x2), .val (.int (oGet4 y0 y1 y2 y3 x1)), .val (.int v58), .val (.int v61)] [(.int (spec9 (x1 + (1 : Int32)) x2 v58 v61 y0 y1 y2 y3))])) st62 ?_
                  have e62 : T62.heap = h0 := Kc62
                  have X62 := o_same X62 rfl rfl
                  have J64 : ∀ (T70 : State) (X70 : Stand p l e room8 s m #[(.ref x0), (.int x1), (.int x2)] below meth c T70 [] (0) (0)) (e70 : T70.heap = h0) (v69 : Int32), v69 = (if (spec9 (x1 + (1 : Int32)) x2 v58 v61 y0 y1 y2 y3) = 0 then (0 : Int32) else (if (spec9 (x1 + (2 : Int32)) x2 (128 : Int32) (191 : Int32) y0 y1 y2 y3) = 0 then (0 : Int32) else (if (spec9 (x1 + (3 : Int32)) x2 (128 : Int32) (191 : Int32) y0 y1 y2 y3) = 0 then (0 : Int32) else (4 : Int32)))) → oGo p e below (oG s (fun v h L => v = some (.int (spec8 x1 x2 y0 y1 y2 y3)) ∧ L = [] ∧ h = h0) room8.cells room8.slots) T70 (mkF m 238 #[.val (.ref x0), .val (.int x1), .val (.int x2), .val (.int (oGet4 y0 y1 y2 y3 x1)), .val (.int v58), .val (.int v61)] [(.int v69)]) := by
                    intro T70 X70 e70 v69 hv69
                    refine o_retI X70 hx hret hlk (hb hby d8_238) (by decide) (by decide) ?_
                    subst hv69 hv61 hv58
                    exact ⟨congrArg (fun z => some (Value.int z)) (show _ = (spec8 x1 x2 y0 y1 y2 y3) from ((if_neg c1).trans ((if_neg c2).trans ((if_pos c52).trans ((if_pos c53).trans ((if_neg c54).trans (if_neg c55)))))).symm), rfl, e70⟩
                  by_cases c63 : (spec9 (x1 + (1 : Int32)) x2 v58 v61 y0 y1 y2 y3) = 0
                  · refine o_ifT (pc' := 237) X62 hx (hb hby d8_196) (XT.i0_eq_t c63) (by decide) (by decide) ?_
                    refine o_iconst (pc' := 238) (v := (0 : Int32)) X62 hx (hb hby d8_237) rfl rfl ?_
                    exact J64 T62 X62 e62 _ (if_pos c63).symm
                  · refine o_ifF (pc' := 199) X62 hx (hb hby d8_196) (XT.i0_eq_f c63) rfl ?_
                    refine o_aloadN (pc' := 200) X62 hx (hb hby d8_199) rfl rfl rfl ?_
                    refine o_iloadN (pc' := 201) X62 hx (hb hby d8_200) rfl rfl ?_
                    refine o_iconst (pc' := 202) (v := (2 : Int32)) X62 hx (hb hby d8_201) rfl rfl ?_
                    refine o_iadd (pc' := 203) X62 hx (hb hby d8_202)  rfl ?_
                    refine o_iloadN (pc' := 204) X62 hx (hb hby d8_203) rfl rfl ?_
                    refine o_sipush (pc' := 207) (v := (128 : Int32)) X62 hx (hb hby d8_204) rfl rfl ?_
                    refine o_sipush (pc' := 210) (v := (191 : Int32)) X62 hx (hb hby d8_207) rfl rfl ?_
                    obtain ⟨r65, T65, L65, X65, hq65, st65⟩ := o_callS X62 hx hZ hown (hw _ (List.mem_of_getElem? (i := 44) rfl)) (hw _ (List.mem_of_getElem? (i := 45) rfl)) (hw _ (List.mem_of_getElem? (i := 13) rfl)) (hw _ (List.mem_of_getElem? (i := 46) rfl)) (by decide) (rm9 l Z a0 hw x0 (x1 + (2 : Int32)) x2 (128 : Int32) (191 : Int32) y0 y1 y2 y3 h0 n0 Z0 A0 (own_nn hi (own_lt4 hin hn)).2.1 hn) e62 (pc' := 213) (Ls := #[.val (.ref x0), .val (.int x1), .val (.int x2), .val (.int (oGet4 y0 y1 y2 y3 x1)), .val (.int v58), .val (.int v61)]) (by rw [hml]; rfl) [(.ref x0), (.int (x1 + (2 : Int32))), (.int x2), (.int (128 : Int32)), (.int (191 : Int32))] [] rfl pd0 rfl rfl 0 (Nat.le_of_eq rfl) (hb hby d8_210) rfl (by decide) (by decide) (by decide) (by decide)
                    obtain ⟨rfl, rfl, Kc65⟩ := hq65
                    refine oGo.step (f' := (mkF m 213 #[.val (.ref x0), .val (.int x1), .val (.int x2), .val (.int (oGet4 y0 y1 y2 y3 x1)), .val (.int v58), .val (.int v61)] [(.int (spec9 (x1 + (2 : Int32)) x2 (128 : Int32) (191 : Int32) y0 y1 y2 y3))])) st65 ?_
                    have e65 : T65.heap = h0 := Kc65
                    have X65 := o_same X65 rfl rfl
                    by_cases c66 : (spec9 (x1 + (2 : Int32)) x2 (128 : Int32) (191 : Int32) y0 y1 y2 y3) = 0
                    · refine o_ifT (pc' := 237) X65 hx (hb hby d8_213) (XT.i0_eq_t c66) (by decide) (by decide) ?_
                      refine o_iconst (pc' := 238) (v := (0 : Int32)) X65 hx (hb hby d8_237) rfl rfl ?_
                      exact J64 T65 X65 e65 _ ((if_neg c63).trans (if_pos c66)).symm
                    · refine o_ifF (pc' := 216) X65 hx (hb hby d8_213) (XT.i0_eq_f c66) rfl ?_
                      refine o_aloadN (pc' := 217) X65 hx (hb hby d8_216) rfl rfl rfl ?_
                      refine o_iloadN (pc' := 218) X65 hx (hb hby d8_217) rfl rfl ?_
                      refine o_iconst (pc' := 219) (v := (3 : Int32)) X65 hx (hb hby d8_218) rfl rfl ?_
                      refine o_iadd (pc' := 220) X65 hx (hb hby d8_219)  rfl ?_
                      refine o_iloadN (pc' := 221) X65 hx (hb hby d8_220) rfl rfl ?_
                      refine o_sipush (pc' := 224) (v := (128 : Int32)) X65 hx (hb hby d8_221) rfl rfl ?_
                      refine o_sipush (pc' := 227) (v := (191 : Int32)) X65 hx (hb hby d8_224) rfl rfl ?_
                      obtain ⟨r67, T67, L67, X67, hq67, st67⟩ := o_callS X65 hx hZ hown (hw _ (List.mem_of_getElem? (i := 44) rfl)) (hw _ (List.mem_of_getElem? (i := 45) rfl)) (hw _ (List.mem_of_getElem? (i := 13) rfl)) (hw _ (List.mem_of_getElem? (i := 46) rfl)) (by decide) (rm9 l Z a0 hw x0 (x1 + (3 : Int32)) x2 (128 : Int32) (191 : Int32) y0 y1 y2 y3 h0 n0 Z0 A0 (own_nn hi (own_lt4 hin hn)).2.2 hn) e65 (pc' := 230) (Ls := #[.val (.ref x0), .val (.int x1), .val (.int x2), .val (.int (oGet4 y0 y1 y2 y3 x1)), .val (.int v58), .val (.int v61)]) (by rw [hml]; rfl) [(.ref x0), (.int (x1 + (3 : Int32))), (.int x2), (.int (128 : Int32)), (.int (191 : Int32))] [] rfl pd0 rfl rfl 0 (Nat.le_of_eq rfl) (hb hby d8_227) rfl (by decide) (by decide) (by decide) (by decide)
                      obtain ⟨rfl, rfl, Kc67⟩ := hq67
                      refine oGo.step (f' := (mkF m 230 #[.val (.ref x0), .val (.int x1), .val (.int x2), .val (.int (oGet4 y0 y1 y2 y3 x1)), .val (.int v58), .val (.int v61)] [(.int (spec9 (x1 + (3 : Int32)) x2 (128 : Int32) (191 : Int32) y0 y1 y2 y3))])) st67 ?_
                      have e67 : T67.heap = h0 := Kc67
                      have X67 := o_same X67 rfl rfl
                      by_cases c68 : (spec9 (x1 + (3 : Int32)) x2 (128 : Int32) (191 : Int32) y0 y1 y2 y3) = 0
                      · refine o_ifT (pc' := 237) X67 hx (hb hby d8_230) (XT.i0_eq_t c68) (by decide) (by decide) ?_
                        refine o_iconst (pc' := 238) (v := (0 : Int32)) X67 hx (hb hby d8_237) rfl rfl ?_
                        exact J64 T67 X67 e67 _ ((if_neg c63).trans ((if_neg c66).trans (if_pos c68))).symm
                      · refine o_ifF (pc' := 233) X67 hx (hb hby d8_230) (XT.i0_eq_f c68) rfl ?_
                        refine o_iconst (pc' := 234) (v := (4 : Int32)) X67 hx (hb hby d8_233) rfl rfl ?_
                        refine o_goto (pc' := 238) X67 hx (hb hby d8_234) (by decide) (by decide) ?_
                        exact J64 T67 X67 e67 _ ((if_neg c63).trans ((if_neg c66).trans (if_neg c68))).symm
                by_cases c59 : (oGet4 y0 y1 y2 y3 x1) = (244 : Int32)
                · refine o_icmpF (pc' := 179) X0 hx (hb hby d8_176) (XT.ii_ne_f c59) rfl ?_
                  refine o_sipush (pc' := 182) (v := (143 : Int32)) X0 hx (hb hby d8_179) rfl rfl ?_
                  refine o_istore (pc' := 184) (l' := #[.val (.ref x0), .val (.int x1), .val (.int x2), .val (.int (oGet4 y0 y1 y2 y3 x1)), .val (.int v58), .val (.int (143 : Int32))]) X0 hx (hb hby d8_182) rfl rfl ?_
                  exact J60 _ (if_pos c59).symm
                · refine o_icmpT (pc' := 184) X0 hx (hb hby d8_176) (XT.ii_ne_t c59) (by decide) (by decide) ?_
                  exact J60 _ (if_neg c59).symm
              by_cases c56 : (oGet4 y0 y1 y2 y3 x1) = (240 : Int32)
              · refine o_icmpF (pc' := 167) X0 hx (hb hby d8_164) (XT.ii_ne_f c56) rfl ?_
                refine o_sipush (pc' := 170) (v := (144 : Int32)) X0 hx (hb hby d8_167) rfl rfl ?_
                refine o_istore (pc' := 172) (l' := #[.val (.ref x0), .val (.int x1), .val (.int x2), .val (.int (oGet4 y0 y1 y2 y3 x1)), .val (.int (144 : Int32)), .val (.int (191 : Int32))]) X0 hx (hb hby d8_170) rfl rfl ?_
                exact J57 _ (if_pos c56).symm
              · refine o_icmpT (pc' := 172) X0 hx (hb hby d8_164) (XT.ii_ne_t c56) (by decide) (by decide) ?_
                exact J57 _ (if_neg c56).symm
        · refine o_icmpF (pc' := 57) X0 hx (hb hby d8_54) (XT.ii_lt_f c53) rfl ?_
          refine o_iloadN (pc' := 58) X0 hx (hb hby d8_57) rfl rfl ?_
          refine o_sipush (pc' := 61) (v := (239 : Int32)) X0 hx (hb hby d8_58) rfl rfl ?_
          by_cases c71 : (239 : Int32) < (oGet4 y0 y1 y2 y3 x1)
          · refine o_icmpT (pc' := 136) X0 hx (hb hby d8_61) (XT.ii_gt_t c71) (by decide) (by decide) ?_
            refine o_iloadN (pc' := 137) X0 hx (hb hby d8_136) rfl rfl ?_
            refine o_sipush (pc' := 140) (v := (240 : Int32)) X0 hx (hb hby d8_137) rfl rfl ?_
            by_cases c72 : (oGet4 y0 y1 y2 y3 x1) < (240 : Int32)
            · refine o_icmpT (pc' := 239) X0 hx (hb hby d8_140) (XT.ii_lt_t c72) (by decide) (by decide) ?_
              refine o_iconst (pc' := 240) (v := (0 : Int32)) X0 hx (hb hby d8_239) rfl rfl ?_
              refine o_retI X0 hx hret hlk (hb hby d8_240) (by decide) (by decide) ?_
              exact ⟨congrArg (fun z => some (Value.int z)) (show _ = (spec8 x1 x2 y0 y1 y2 y3) from ((if_neg c1).trans ((if_neg c2).trans ((if_pos c52).trans ((if_neg c53).trans ((if_pos c71).trans (if_pos c72)))))).symm), rfl, e0⟩
            · refine o_icmpF (pc' := 143) X0 hx (hb hby d8_140) (XT.ii_lt_f c72) rfl ?_
              refine o_iloadN (pc' := 144) X0 hx (hb hby d8_143) rfl rfl ?_
              refine o_sipush (pc' := 147) (v := (244 : Int32)) X0 hx (hb hby d8_144) rfl rfl ?_
              by_cases c73 : (244 : Int32) < (oGet4 y0 y1 y2 y3 x1)
              · refine o_icmpT (pc' := 239) X0 hx (hb hby d8_147) (XT.ii_gt_t c73) (by decide) (by decide) ?_
                refine o_iconst (pc' := 240) (v := (0 : Int32)) X0 hx (hb hby d8_239) rfl rfl ?_
                refine o_retI X0 hx hret hlk (hb hby d8_240) (by decide) (by decide) ?_
                exact ⟨congrArg (fun z => some (Value.int z)) (show _ = (spec8 x1 x2 y0 y1 y2 y3) from ((if_neg c1).trans ((if_neg c2).trans ((if_pos c52).trans ((if_neg c53).trans ((if_pos c71).trans ((if_neg c72).trans (if_pos c73))))))).symm), rfl, e0⟩
              · refine o_icmpF (pc' := 150) X0 hx (hb hby d8_147) (XT.ii_gt_f c73) rfl ?_
                refine o_sipush (pc' := 153) (v := (128 : Int32)) X0 hx (hb hby d8_150) rfl rfl ?_
                refine o_istore (pc' := 155) (l' := #[.val (.ref x0), .val (.int x1), .val (.int x2), .val (.int (oGet4 y0 y1 y2 y3 x1)), .val (.int (128 : Int32)), .unset]) X0 hx (hb hby d8_153) rfl rfl ?_
                refine o_sipush (pc' := 158) (v := (191 : Int32)) X0 hx (hb hby d8_155) rfl rfl ?_
                refine o_istore (pc' := 160) (l' := #[.val (.ref x0), .val (.int x1), .val (.int x2), .val (.int (oGet4 y0 y1 y2 y3 x1)), .val (.int (128 : Int32)), .val (.int (191 : Int32))]) X0 hx (hb hby d8_158) rfl rfl ?_
                refine o_iloadN (pc' := 161) X0 hx (hb hby d8_160) rfl rfl ?_
                refine o_sipush (pc' := 164) (v := (240 : Int32)) X0 hx (hb hby d8_161) rfl rfl ?_
                have J75 : ∀ (v76 : Int32), v76 = (if (oGet4 y0 y1 y2 y3 x1) = (240 : Int32) then (144 : Int32) else (128 : Int32)) → oGo p e below (oG s (fun v h L => v = some (.int (spec8 x1 x2 y0 y1 y2 y3)) ∧ L = [] ∧ h = h0) room8.cells room8.slots) s₁ (mkF m 172 #[.val (.ref x0), .val (.int x1), .val (.int x2), .val (.int (oGet4 y0 y1 y2 y3 x1)), .val (.int v76), .val (.int (191 : Int32))] []) := by
                  intro v76 hv76
                  refine o_iloadN (pc' := 173) X0 hx (hb hby d8_172) rfl rfl ?_
                  refine o_sipush (pc' := 176) (v := (244 : Int32)) X0 hx (hb hby d8_173) rfl rfl ?_
                  have J78 : ∀ (v79 : Int32), v79 = (if (oGet4 y0 y1 y2 y3 x1) = (244 : Int32) then (143 : Int32) else (191 : Int32)) → oGo p e below (oG s (fun v h L => v = some (.int (spec8 x1 x2 y0 y1 y2 y3)) ∧ L = [] ∧ h = h0) room8.cells room8.slots) s₁ (mkF m 184 #[.val (.ref x0), .val (.int x1), .val (.int x2), .val (.int (oGet4 y0 y1 y2 y3 x1)), .val (.int v76), .val (.int v79)] []) := by
                    intro v79 hv79
                    refine o_aloadN (pc' := 185) X0 hx (hb hby d8_184) rfl rfl rfl ?_
                    refine o_iloadN (pc' := 186) X0 hx (hb hby d8_185) rfl rfl ?_
                    refine o_iconst (pc' := 187) (v := (1 : Int32)) X0 hx (hb hby d8_186) rfl rfl ?_
                    refine o_iadd (pc' := 188) X0 hx (hb hby d8_187)  rfl ?_
                    refine o_iloadN (pc' := 189) X0 hx (hb hby d8_188) rfl rfl ?_
                    refine o_iload (pc' := 191) X0 hx (hb hby d8_189) rfl rfl ?_
                    refine o_iload (pc' := 193) X0 hx (hb hby d8_191) rfl rfl ?_
                    obtain ⟨r80, T80, L80, X80, hq80, st80⟩ := o_callS X0 hx hZ hown (hw _ (List.mem_of_getElem? (i := 44) rfl)) (hw _ (List.mem_of_getElem? (i := 45) rfl)) (hw _ (List.mem_of_getElem? (i := 13) rfl)) (hw _ (List.mem_of_getElem? (i := 46) rfl)) (by decide) (rm9 l Z a0 hw x0 (x1 + (1 : Int32)) x2 v76 v79 y0 y1 y2 y3 h0 n0 Z0 A0 (own_nn hi (own_lt4 hin hn)).1 hn) e0 (pc' := 196) (Ls := #[.val (.ref x0), .val (.int x1), .val (.int x2), .val (.int (oGet4 y0 y1 y2 y3 x1)), .val (.int v76), .val (.int v79)]) (by rw [hml]; rfl) [(.ref x0), (.int (x1 + (1 : Int32))), (.int x2), (.int v76), (.int v79)] [] rfl pd0 rfl rfl 0 (Nat.le_of_eq rfl) (hb hby d8_193) rfl (by decide) (by decide) (by decide) (by decide)
                    obtain ⟨rfl, rfl, Kc80⟩ := hq80
                    refine oGo.step (f' := (mkF m 196 #[.val (.ref x0), .val (.int x1), .val (.int x2), .val (.int (oGet4 y0 y1 y2 y3 x1)), .val (.int v76), .val (.int v79)] [(.int (spec9 (x1 + (1 : Int32)) x2 v76 v79 y0 y1 y2 y3))])) st80 ?_
                    have e80 : T80.heap = h0 := Kc80
                    have X80 := o_same X80 rfl rfl
                    have J82 : ∀ (T88 : State) (X88 : Stand p l e room8 s m #[(.ref x0), (.int x1), (.int x2)] below meth c T88 [] (0) (0)) (e88 : T88.heap = h0) (v87 : Int32), v87 = (if (spec9 (x1 + (1 : Int32)) x2 v76 v79 y0 y1 y2 y3) = 0 then (0 : Int32) else (if (spec9 (x1 + (2 : Int32)) x2 (128 : Int32) (191 : Int32) y0 y1 y2 y3) = 0 then (0 : Int32) else (if (spec9 (x1 + (3 : Int32)) x2 (128 : Int32) (191 : Int32) y0 y1 y2 y3) = 0 then (0 : Int32) else (4 : Int32)))) → oGo p e below (oG s (fun v h L => v = some (.int (spec8 x1 x2 y0 y1 y2 y3)) ∧ L = [] ∧ h = h0) room8.cells room8.slots) T88 (mkF m 238 #[.val (.ref x0), .val (.int x1), .val (.int x2), .val (.int (oGet4 y0 y1 y2 y3 x1)), .val (.int v76), .val (.int v79)] [(.int v87)]) := by
                      intro T88 X88 e88 v87 hv87
                      refine o_retI X88 hx hret hlk (hb hby d8_238) (by decide) (by decide) ?_
                      subst hv87 hv79 hv76
                      exact ⟨congrArg (fun z => some (Value.int z)) (show _ = (spec8 x1 x2 y0 y1 y2 y3) from ((if_neg c1).trans ((if_neg c2).trans ((if_pos c52).trans ((if_neg c53).trans ((if_pos c71).trans ((if_neg c72).trans (if_neg c73))))))).symm), rfl, e88⟩
                    by_cases c81 : (spec9 (x1 + (1 : Int32)) x2 v76 v79 y0 y1 y2 y3) = 0
                    · refine o_ifT (pc' := 237) X80 hx (hb hby d8_196) (XT.i0_eq_t c81) (by decide) (by decide) ?_
                      refine o_iconst (pc' := 238) (v := (0 : Int32)) X80 hx (hb hby d8_237) rfl rfl ?_
                      exact J82 T80 X80 e80 _ (if_pos c81).symm
                    · refine o_ifF (pc' := 199) X80 hx (hb hby d8_196) (XT.i0_eq_f c81) rfl ?_
                      refine o_aloadN (pc' := 200) X80 hx (hb hby d8_199) rfl rfl rfl ?_
                      refine o_iloadN (pc' := 201) X80 hx (hb hby d8_200) rfl rfl ?_
                      refine o_iconst (pc' := 202) (v := (2 : Int32)) X80 hx (hb hby d8_201) rfl rfl ?_
                      refine o_iadd (pc' := 203) X80 hx (hb hby d8_202)  rfl ?_
                      refine o_iloadN (pc' := 204) X80 hx (hb hby d8_203) rfl rfl ?_
                      refine o_sipush (pc' := 207) (v := (128 : Int32)) X80 hx (hb hby d8_204) rfl rfl ?_
                      refine o_sipush (pc' := 210) (v := (191 : Int32)) X80 hx (hb hby d8_207) rfl rfl ?_
                      obtain ⟨r83, T83, L83, X83, hq83, st83⟩ := o_callS X80 hx hZ hown (hw _ (List.mem_of_getElem? (i := 44) rfl)) (hw _ (List.mem_of_getElem? (i := 45) rfl)) (hw _ (List.mem_of_getElem? (i := 13) rfl)) (hw _ (List.mem_of_getElem? (i := 46) rfl)) (by decide) (rm9 l Z a0 hw x0 (x1 + (2 : Int32)) x2 (128 : Int32) (191 : Int32) y0 y1 y2 y3 h0 n0 Z0 A0 (own_nn hi (own_lt4 hin hn)).2.1 hn) e80 (pc' := 213) (Ls := #[.val (.ref x0), .val (.int x1), .val (.int x2), .val (.int (oGet4 y0 y1 y2 y3 x1)), .val (.int v76), .val (.int v79)]) (by rw [hml]; rfl) [(.ref x0), (.int (x1 + (2 : Int32))), (.int x2), (.int (128 : Int32)), (.int (191 : Int32))] [] rfl pd0 rfl rfl 0 (Nat.le_of_eq rfl) (hb hby d8_210) rfl (by decide) (by decide) (by decide) (by decide)
                      obtain ⟨rfl, rfl, Kc83⟩ := hq83
                      refine oGo.step (f' := (mkF m 213 #[.val (.ref x0), .val (.int x1), .val (.int x2), .val (.int (oGet4 y0 y1 y2 y3 x1)), .val (.int v76), .val (.int v79)] [(.int (spec9 (x1 + (2 : Int32)) x2 (128 : Int32) (191 : Int32) y0 y1 y2 y3))])) st83 ?_
                      have e83 : T83.heap = h0 := Kc83
                      have X83 := o_same X83 rfl rfl
                      by_cases c84 : (spec9 (x1 + (2 : Int32)) x2 (128 : Int32) (191 : Int32) y0 y1 y2 y3) = 0
                      · refine o_ifT (pc' := 237) X83 hx (hb hby d8_213) (XT.i0_eq_t c84) (by decide) (by decide) ?_
                        refine o_iconst (pc' := 238) (v := (0 : Int32)) X83 hx (hb hby d8_237) rfl rfl ?_
                        exact J82 T83 X83 e83 _ ((if_neg c81).trans (if_pos c84)).symm
                      · refine o_ifF (pc' := 216) X83 hx (hb hby d8_213) (XT.i0_eq_f c84) rfl ?_
                        refine o_aloadN (pc' := 217) X83 hx (hb hby d8_216) rfl rfl rfl ?_
                        refine o_iloadN (pc' := 218) X83 hx (hb hby d8_217) rfl rfl ?_
                        refine o_iconst (pc' := 219) (v := (3 : Int32)) X83 hx (hb hby d8_218) rfl rfl ?_
                        refine o_iadd (pc' := 220) X83 hx (hb hby d8_219)  rfl ?_
                        refine o_iloadN (pc' := 221) X83 hx (hb hby d8_220) rfl rfl ?_
                        refine o_sipush (pc' := 224) (v := (128 : Int32)) X83 hx (hb hby d8_221) rfl rfl ?_
                        refine o_sipush (pc' := 227) (v := (191 : Int32)) X83 hx (hb hby d8_224) rfl rfl ?_
                        obtain ⟨r85, T85, L85, X85, hq85, st85⟩ := o_callS X83 hx hZ hown (hw _ (List.mem_of_getElem? (i := 44) rfl)) (hw _ (List.mem_of_getElem? (i := 45) rfl)) (hw _ (List.mem_of_getElem? (i := 13) rfl)) (hw _ (List.mem_of_getElem? (i := 46) rfl)) (by decide) (rm9 l Z a0 hw x0 (x1 + (3 : Int32)) x2 (128 : Int32) (191 : Int32) y0 y1 y2 y3 h0 n0 Z0 A0 (own_nn hi (own_lt4 hin hn)).2.2 hn) e83 (pc' := 230) (Ls := #[.val (.ref x0), .val (.int x1), .val (.int x2), .val (.int (oGet4 y0 y1 y2 y3 x1)), .val (.int v76), .val (.int v79)]) (by rw [hml]; rfl) [(.ref x0), (.int (x1 + (3 : Int32))), (.int x2), (.int (128 : Int32)), (.int (191 : Int32))] [] rfl pd0 rfl rfl 0 (Nat.le_of_eq rfl) (hb hby d8_227) rfl (by decide) (by decide) (by decide) (by decide)
                        obtain ⟨rfl, rfl, Kc85⟩ := hq85
                        refine oGo.step (f' := (mkF m 230 #[.val (.ref x0), .val (.int x1), .val (.int x2), .val (.int (oGet4 y0 y1 y2 y3 x1)), .val (.int v76), .val (.int v79)] [(.int (spec9 (x1 + (3 : Int32)) x2 (128 : Int32) (191 : Int32) y0 y1 y2 y3))])) st85 ?_
                        have e85 : T85.heap = h0 := Kc85
                        have X85 := o_same X85 rfl rfl
                        by_cases c86 : (spec9 (x1 + (3 : Int32)) x2 (128 : Int32) (191 : Int32) y0 y1 y2 y3) = 0
                        · refine o_ifT (pc' := 237) X85 hx (hb hby d8_230) (XT.i0_eq_t c86) (by decide) (by decide) ?_
                          refine o_iconst (pc' := 238) (v := (0 : Int32)) X85 hx (hb hby d8_237) rfl rfl ?_
                          exact J82 T85 X85 e85 _ ((if_neg c81).trans ((if_neg c84).trans (if_pos c86))).symm
                        · refine o_ifF (pc' := 233) X85 hx (hb hby d8_230) (XT.i0_eq_f c86) rfl ?_
                          refine o_iconst (pc' := 234) (v := (4 : Int32)) X85 hx (hb hby d8_233) rfl rfl ?_
                          refine o_goto (pc' := 238) X85 hx (hb hby d8_234) (by decide) (by decide) ?_
                          exact J82 T85 X85 e85 _ ((if_neg c81).trans ((if_neg c84).trans (if_neg c86))).symm
                  by_cases c77 : (oGet4 y0 y1 y2 y3 x1) = (244 : Int32)
                  · refine o_icmpF (pc' := 179) X0 hx (hb hby d8_176) (XT.ii_ne_f c77) rfl ?_
                    refine o_sipush (pc' := 182) (v := (143 : Int32)) X0 hx (hb hby d8_179) rfl rfl ?_
                    refine o_istore (pc' := 184) (l' := #[.val (.ref x0), .val (.int x1), .val (.int x2), .val (.int (oGet4 y0 y1 y2 y3 x1)), .val (.int v76), .val (.int (143 : Int32))]) X0 hx (hb hby d8_182) rfl rfl ?_
                    exact J78 _ (if_pos c77).symm
                  · refine o_icmpT (pc' := 184) X0 hx (hb hby d8_176) (XT.ii_ne_t c77) (by decide) (by decide) ?_
                    exact J78 _ (if_neg c77).symm
                by_cases c74 : (oGet4 y0 y1 y2 y3 x1) = (240 : Int32)
                · refine o_icmpF (pc' := 167) X0 hx (hb hby d8_164) (XT.ii_ne_f c74) rfl ?_
                  refine o_sipush (pc' := 170) (v := (144 : Int32)) X0 hx (hb hby d8_167) rfl rfl ?_
                  refine o_istore (pc' := 172) (l' := #[.val (.ref x0), .val (.int x1), .val (.int x2), .val (.int (oGet4 y0 y1 y2 y3 x1)), .val (.int (144 : Int32)), .val (.int (191 : Int32))]) X0 hx (hb hby d8_170) rfl rfl ?_
                  exact J75 _ (if_pos c74).symm
                · refine o_icmpT (pc' := 172) X0 hx (hb hby d8_164) (XT.ii_ne_t c74) (by decide) (by decide) ?_
                  exact J75 _ (if_neg c74).symm
          · refine o_icmpF (pc' := 64) X0 hx (hb hby d8_61) (XT.ii_gt_f c71) rfl ?_
            refine o_sipush (pc' := 67) (v := (128 : Int32)) X0 hx (hb hby d8_64) rfl rfl ?_
            refine o_istore (pc' := 69) (l' := #[.val (.ref x0), .val (.int x1), .val (.int x2), .val (.int (oGet4 y0 y1 y2 y3 x1)), .val (.int (128 : Int32)), .unset]) X0 hx (hb hby d8_67) rfl rfl ?_
            refine o_sipush (pc' := 72) (v := (191 : Int32)) X0 hx (hb hby d8_69) rfl rfl ?_
            refine o_istore (pc' := 74) (l' := #[.val (.ref x0), .val (.int x1), .val (.int x2), .val (.int (oGet4 y0 y1 y2 y3 x1)), .val (.int (128 : Int32)), .val (.int (191 : Int32))]) X0 hx (hb hby d8_72) rfl rfl ?_
            refine o_iloadN (pc' := 75) X0 hx (hb hby d8_74) rfl rfl ?_
            refine o_sipush (pc' := 78) (v := (224 : Int32)) X0 hx (hb hby d8_75) rfl rfl ?_
            have J90 : ∀ (v91 : Int32), v91 = (if (oGet4 y0 y1 y2 y3 x1) = (224 : Int32) then (160 : Int32) else (128 : Int32)) → oGo p e below (oG s (fun v h L => v = some (.int (spec8 x1 x2 y0 y1 y2 y3)) ∧ L = [] ∧ h = h0) room8.cells room8.slots) s₁ (mkF m 86 #[.val (.ref x0), .val (.int x1), .val (.int x2), .val (.int (oGet4 y0 y1 y2 y3 x1)), .val (.int v91), .val (.int (191 : Int32))] []) := by
              intro v91 hv91
              refine o_iloadN (pc' := 87) X0 hx (hb hby d8_86) rfl rfl ?_
              refine o_sipush (pc' := 90) (v := (237 : Int32)) X0 hx (hb hby d8_87) rfl rfl ?_
              have J93 : ∀ (v94 : Int32), v94 = (if (oGet4 y0 y1 y2 y3 x1) = (237 : Int32) then (159 : Int32) else (191 : Int32)) → oGo p e below (oG s (fun v h L => v = some (.int (spec8 x1 x2 y0 y1 y2 y3)) ∧ L = [] ∧ h = h0) room8.cells room8.slots) s₁ (mkF m 98 #[.val (.ref x0), .val (.int x1), .val (.int x2), .val (.int (oGet4 y0 y1 y2 y3 x1)), .val (.int v91), .val (.int v94)] []) := by
                intro v94 hv94
                refine o_aloadN (pc' := 99) X0 hx (hb hby d8_98) rfl rfl rfl ?_
                refine o_iloadN (pc' := 100) X0 hx (hb hby d8_99) rfl rfl ?_
                refine o_iconst (pc' := 101) (v := (1 : Int32)) X0 hx (hb hby d8_100) rfl rfl ?_
                refine o_iadd (pc' := 102) X0 hx (hb hby d8_101)  rfl ?_
                refine o_iloadN (pc' := 103) X0 hx (hb hby d8_102) rfl rfl ?_
                refine o_iload (pc' := 105) X0 hx (hb hby d8_103) rfl rfl ?_
                refine o_iload (pc' := 107) X0 hx (hb hby d8_105) rfl rfl ?_
                obtain ⟨r95, T95, L95, X95, hq95, st95⟩ := o_callS X0 hx hZ hown (hw _ (List.mem_of_getElem? (i := 44) rfl)) (hw _ (List.mem_of_getElem? (i := 45) rfl)) (hw _ (List.mem_of_getElem? (i := 13) rfl)) (hw _ (List.mem_of_getElem? (i := 46) rfl)) (by decide) (rm9 l Z a0 hw x0 (x1 + (1 : Int32)) x2 v91 v94 y0 y1 y2 y3 h0 n0 Z0 A0 (own_nn hi (own_lt4 hin hn)).1 hn) e0 (pc' := 110) (Ls := #[.val (.ref x0), .val (.int x1), .val (.int x2), .val (.int (oGet4 y0 y1 y2 y3 x1)), .val (.int v91), .val (.int v94)]) (by rw [hml]; rfl) [(.ref x0), (.int (x1 + (1 : Int32))), (.int x2), (.int v91), (.int v94)] [] rfl pd0 rfl rfl 0 (Nat.le_of_eq rfl) (hb hby d8_107) rfl (by decide) (by decide) (by decide) (by decide)
                obtain ⟨rfl, rfl, Kc95⟩ := hq95
                refine oGo.step (f' := (mkF m 110 #[.val (.ref x0), .val (.int x1), .val (.int x2), .val (.int (oGet4 y0 y1 y2 y3 x1)), .val (.int v91), .val (.int v94)] [(.int (spec9 (x1 + (1 : Int32)) x2 v91 v94 y0 y1 y2 y3))])) st95 ?_
                have e95 : T95.heap = h0 := Kc95
                have X95 := o_same X95 rfl rfl
                have J97 : ∀ (T101 : State) (X101 : Stand p l e room8 s m #[(.ref x0), (.int x1), (.int x2)] below meth c T101 [] (0) (0)) (e101 : T101.heap = h0) (v100 : Int32), v100 = (if (spec9 (x1 + (1 : Int32)) x2 v91 v94 y0 y1 y2 y3) = 0 then (0 : Int32) else (if (spec9 (x1 + (2 : Int32)) x2 (128 : Int32) (191 : Int32) y0 y1 y2 y3) = 0 then (0 : Int32) else (3 : Int32))) → oGo p e below (oG s (fun v h L => v = some (.int (spec8 x1 x2 y0 y1 y2 y3)) ∧ L = [] ∧ h = h0) room8.cells room8.slots) T101 (mkF m 135 #[.val (.ref x0), .val (.int x1), .val (.int x2), .val (.int (oGet4 y0 y1 y2 y3 x1)), .val (.int v91), .val (.int v94)] [(.int v100)]) := by
                  intro T101 X101 e101 v100 hv100
                  refine o_retI X101 hx hret hlk (hb hby d8_135) (by decide) (by decide) ?_
                  subst hv100 hv94 hv91
                  exact ⟨congrArg (fun z => some (Value.int z)) (show _ = (spec8 x1 x2 y0 y1 y2 y3) from ((if_neg c1).trans ((if_neg c2).trans ((if_pos c52).trans ((if_neg c53).trans (if_neg c71))))).symm), rfl, e101⟩
                by_cases c96 : (spec9 (x1 + (1 : Int32)) x2 v91 v94 y0 y1 y2 y3) = 0
                · refine o_ifT (pc' := 134) X95 hx (hb hby d8_110) (XT.i0_eq_t c96) (by decide) (by decide) ?_
                  refine o_iconst (pc' := 135) (v := (0 : Int32)) X95 hx (hb hby d8_134) rfl rfl ?_
                  exact J97 T95 X95 e95 _ (if_pos c96).symm
                · refine o_ifF (pc' := 113) X95 hx (hb hby d8_110) (XT.i0_eq_f c96) rfl ?_
                  refine o_aloadN (pc' := 114) X95 hx (hb hby d8_113) rfl rfl rfl ?_
                  refine o_iloadN (pc' := 115) X95 hx (hb hby d8_114) rfl rfl ?_
                  refine o_iconst (pc' := 116) (v := (2 : Int32)) X95 hx (hb hby d8_115) rfl rfl ?_
                  refine o_iadd (pc' := 117) X95 hx (hb hby d8_116)  rfl ?_
                  refine o_iloadN (pc' := 118) X95 hx (hb hby d8_117) rfl rfl ?_
                  refine o_sipush (pc' := 121) (v := (128 : Int32)) X95 hx (hb hby d8_118) rfl rfl ?_
                  refine o_sipush (pc' := 124) (v := (191 : Int32)) X95 hx (hb hby d8_121) rfl rfl ?_
                  obtain ⟨r98, T98, L98, X98, hq98, st98⟩ := o_callS X95 hx hZ hown (hw _ (List.mem_of_getElem? (i := 44) rfl)) (hw _ (List.mem_of_getElem? (i := 45) rfl)) (hw _ (List.mem_of_getElem? (i := 13) rfl)) (hw _ (List.mem_of_getElem? (i := 46) rfl)) (by decide) (rm9 l Z a0 hw x0 (x1 + (2 : Int32)) x2 (128 : Int32) (191 : Int32) y0 y1 y2 y3 h0 n0 Z0 A0 (own_nn hi (own_lt4 hin hn)).2.1 hn) e95 (pc' := 127) (Ls := #[.val (.ref x0), .val (.int x1), .val (.int x2), .val (.int (oGet4 y0 y1 y2 y3 x1)), .val (.int v91), .val (.int v94)]) (by rw [hml]; rfl) [(.ref x0), (.int (x1 + (2 : Int32))), (.int x2), (.int (128 : Int32)), (.int (191 : Int32))] [] rfl pd0 rfl rfl 0 (Nat.le_of_eq rfl) (hb hby d8_124) rfl (by decide) (by decide) (by decide) (by decide)
                  obtain ⟨rfl, rfl, Kc98⟩ := hq98
                  refine oGo.step (f' := (mkF m 127 #[.val (.ref x0), .val (.int x1), .val (.int x2), .val (.int (oGet4 y0 y1 y2 y3 x1)), .val (.int v91), .val (.int v94)] [(.int (spec9 (x1 + (2 : Int32)) x2 (128 : Int32) (191 : Int32) y0 y1 y2 y3))])) st98 ?_
                  have e98 : T98.heap = h0 := Kc98
                  have X98 := o_same X98 rfl rfl
                  by_cases c99 : (spec9 (x1 + (2 : Int32)) x2 (128 : Int32) (191 : Int32) y0 y1 y2 y3) = 0
                  · refine o_ifT (pc' := 134) X98 hx (hb hby d8_127) (XT.i0_eq_t c99) (by decide) (by decide) ?_
                    refine o_iconst (pc' := 135) (v := (0 : Int32)) X98 hx (hb hby d8_134) rfl rfl ?_
                    exact J97 T98 X98 e98 _ ((if_neg c96).trans (if_pos c99)).symm
                  · refine o_ifF (pc' := 130) X98 hx (hb hby d8_127) (XT.i0_eq_f c99) rfl ?_
                    refine o_iconst (pc' := 131) (v := (3 : Int32)) X98 hx (hb hby d8_130) rfl rfl ?_
                    refine o_goto (pc' := 135) X98 hx (hb hby d8_131) (by decide) (by decide) ?_
                    exact J97 T98 X98 e98 _ ((if_neg c96).trans (if_neg c99)).symm
              by_cases c92 : (oGet4 y0 y1 y2 y3 x1) = (237 : Int32)
              · refine o_icmpF (pc' := 93) X0 hx (hb hby d8_90) (XT.ii_ne_f c92) rfl ?_
                refine o_sipush (pc' := 96) (v := (159 : Int32)) X0 hx (hb hby d8_93) rfl rfl ?_
                refine o_istore (pc' := 98) (l' := #[.val (.ref x0), .val (.int x1), .val (.int x2), .val (.int (oGet4 y0 y1 y2 y3 x1)), .val (.int v91), .val (.int (159 : Int32))]) X0 hx (hb hby d8_96) rfl rfl ?_
                exact J93 _ (if_pos c92).symm
              · refine o_icmpT (pc' := 98) X0 hx (hb hby d8_90) (XT.ii_ne_t c92) (by decide) (by decide) ?_
                exact J93 _ (if_neg c92).symm
            by_cases c89 : (oGet4 y0 y1 y2 y3 x1) = (224 : Int32)
            · refine o_icmpF (pc' := 81) X0 hx (hb hby d8_78) (XT.ii_ne_f c89) rfl ?_
              refine o_sipush (pc' := 84) (v := (160 : Int32)) X0 hx (hb hby d8_81) rfl rfl ?_
              refine o_istore (pc' := 86) (l' := #[.val (.ref x0), .val (.int x1), .val (.int x2), .val (.int (oGet4 y0 y1 y2 y3 x1)), .val (.int (160 : Int32)), .val (.int (191 : Int32))]) X0 hx (hb hby d8_84) rfl rfl ?_
              exact J90 _ (if_pos c89).symm
            · refine o_icmpT (pc' := 86) X0 hx (hb hby d8_78) (XT.ii_ne_t c89) (by decide) (by decide) ?_
              exact J90 _ (if_neg c89).symm
      · refine o_icmpF (pc' := 27) X0 hx (hb hby d8_24) (XT.ii_gt_f c52) rfl ?_
        refine o_aloadN (pc' := 28) X0 hx (hb hby d8_27) rfl rfl rfl ?_
        refine o_iloadN (pc' := 29) X0 hx (hb hby d8_28) rfl rfl ?_
        refine o_iconst (pc' := 30) (v := (1 : Int32)) X0 hx (hb hby d8_29) rfl rfl ?_
        refine o_iadd (pc' := 31) X0 hx (hb hby d8_30)  rfl ?_
        refine o_iloadN (pc' := 32) X0 hx (hb hby d8_31) rfl rfl ?_
        refine o_sipush (pc' := 35) (v := (128 : Int32)) X0 hx (hb hby d8_32) rfl rfl ?_
        refine o_sipush (pc' := 38) (v := (191 : Int32)) X0 hx (hb hby d8_35) rfl rfl ?_
        obtain ⟨r102, T102, L102, X102, hq102, st102⟩ := o_callS X0 hx hZ hown (hw _ (List.mem_of_getElem? (i := 44) rfl)) (hw _ (List.mem_of_getElem? (i := 45) rfl)) (hw _ (List.mem_of_getElem? (i := 13) rfl)) (hw _ (List.mem_of_getElem? (i := 46) rfl)) (by decide) (rm9 l Z a0 hw x0 (x1 + (1 : Int32)) x2 (128 : Int32) (191 : Int32) y0 y1 y2 y3 h0 n0 Z0 A0 (own_nn hi (own_lt4 hin hn)).1 hn) e0 (pc' := 41) (Ls := #[.val (.ref x0), .val (.int x1), .val (.int x2), .val (.int (oGet4 y0 y1 y2 y3 x1)), .unset, .unset]) (by rw [hml]; rfl) [(.ref x0), (.int (x1 + (1 : Int32))), (.int x2), (.int (128 : Int32)), (.int (191 : Int32))] [] rfl pd0 rfl rfl 0 (Nat.le_of_eq rfl) (hb hby d8_38) rfl (by decide) (by decide) (by decide) (by decide)
        obtain ⟨rfl, rfl, Kc102⟩ := hq102
        refine oGo.step (f' := (mkF m 41 #[.val (.ref x0), .val (.int x1), .val (.int x2), .val (.int (oGet4 y0 y1 y2 y3 x1)), .unset, .unset] [(.int (spec9 (x1 + (1 : Int32)) x2 (128 : Int32) (191 : Int32) y0 y1 y2 y3))])) st102 ?_
        have e102 : T102.heap = h0 := Kc102
        have X102 := o_same X102 rfl rfl
        have J104 : ∀ (v105 : Int32), v105 = (if (spec9 (x1 + (1 : Int32)) x2 (128 : Int32) (191 : Int32) y0 y1 y2 y3) = 0 then (0 : Int32) else (2 : Int32)) → oGo p e below (oG s (fun v h L => v = some (.int (spec8 x1 x2 y0 y1 y2 y3)) ∧ L = [] ∧ h = h0) room8.cells room8.slots) T102 (mkF m 49 #[.val (.ref x0), .val (.int x1), .val (.int x2), .val (.int (oGet4 y0 y1 y2 y3 x1)), .unset, .unset] [(.int v105)]) := by
          intro v105 hv105
          refine o_retI X102 hx hret hlk (hb hby d8_49) (by decide) (by decide) ?_
          subst hv105
          exact ⟨congrArg (fun z => some (Value.int z)) (show _ = (spec8 x1 x2 y0 y1 y2 y3) from ((if_neg c1).trans ((if_neg c2).trans (if_neg c52))).symm), rfl, e102⟩
        by_cases c103 : (spec9 (x1 + (1 : Int32)) x2 (128 : Int32) (191 : Int32) y0 y1 y2 y3) = 0
        · refine o_ifT (pc' := 48) X102 hx (hb hby d8_41) (XT.i0_eq_t c103) (by decide) (by decide) ?_
          refine o_iconst (pc' := 49) (v := (0 : Int32)) X102 hx (hb hby d8_48) rfl rfl ?_
          exact J104 _ (if_pos c103).symm
        · refine o_ifF (pc' := 44) X102 hx (hb hby d8_41) (XT.i0_eq_f c103) rfl ?_
          refine o_iconst (pc' := 45) (v := (2 : Int32)) X102 hx (hb hby d8_44) rfl rfl ?_
          refine o_goto (pc' := 49) X102 hx (hb hby d8_45) (by decide) (by decide) ?_
          exact J104 _ (if_neg c103).symm
theorem d4_0 : decode method_4_code 0 = .ok (.iload_n 1, 1) := by decide +kernel
theorem d4_1 : decode method_4_code 1 = .ok (.ifCond .lt 8, 3) := by decide +kernel
theorem d4_4 : decode method_4_code 4 = .ok (.iload_n 1, 1) := by decide +kernel
theorem d4_5 : decode method_4_code 5 = .ok (.iload_n 2, 1) := by decide +kernel
theorem d4_6 : decode method_4_code 6 = .ok (.if_icmp .lt 5, 3) := by decide +kernel
theorem d4_9 : decode method_4_code 9 = .ok (.iload_n 1, 1) := by decide +kernel
theorem d4_10 : decode method_4_code 10 = .ok (.ireturn, 1) := by decide +kernel
theorem d4_11 : decode method_4_code 11 = .ok (.aload_n 0, 1) := by decide +kernel
theorem d4_12 : decode method_4_code 12 = .ok (.iload_n 1, 1) := by decide +kernel
theorem d4_13 : decode method_4_code 13 = .ok (.iload_n 2, 1) := by decide +kernel
theorem d4_14 : decode method_4_code 14 = .ok (.invokestatic 33, 3) := by decide +kernel
theorem d4_17 : decode method_4_code 17 = .ok (.istore_n 3, 1) := by decide +kernel
theorem d4_18 : decode method_4_code 18 = .ok (.iload_n 3, 1) := by decide +kernel
theorem d4_19 : decode method_4_code 19 = .ok (.ifCond .ne 5, 3) := by decide +kernel
theorem d4_22 : decode method_4_code 22 = .ok (.iconst (-1), 1) := by decide +kernel
theorem d4_23 : decode method_4_code 23 = .ok (.ireturn, 1) := by decide +kernel
theorem d4_24 : decode method_4_code 24 = .ok (.iload_n 1, 1) := by decide +kernel
theorem d4_25 : decode method_4_code 25 = .ok (.iload_n 3, 1) := by decide +kernel
theorem d4_26 : decode method_4_code 26 = .ok (.iadd, 1) := by decide +kernel
theorem d4_27 : decode method_4_code 27 = .ok (.ireturn, 1) := by decide +kernel
theorem ef4 (m : MethodId) (x0 : Addr) (x1 : Int32) (x2 : Int32) : entryFrame m #[(.ref x0), (.int x1), (.int x2)] 4 = mkF m 0 #[.val (.ref x0), .val (.int x1), .val (.int x2), .unset] [] := by first | (simp [entryFrame, mkF, argsToLocals, Value.category]; done) | rfl
theorem pd1 : parseMethodDescriptor "([III)I" = some ⟨[(.array .int), .int, .int], (some .int)⟩ := by decide +kernel
def spec4 (x1 : Int32) (x2 : Int32) (y0 : Int32) (y1 : Int32) (y2 : Int32) (y3 : Int32) : Int32 := (if x1 < 0 then x1 else (if x1 < x2 then (if (spec8 x1 x2 y0 y1 y2 y3) = 0 then (-1 : Int32) else (x1 + (spec8 x1 x2 y0 y1 y2 y3))) else x1))
def room4 : Room := { frames := 2, cells := 0, slots := 0, locals := 33 }
set_option maxRecDepth 65536 in
set_option maxHeartbeats 40000000 in
theorem rm4 (l : Launch) (Z : State) (a0 : Array Value) (hw : ∀ d ∈ tables_1, d.before a0 Z = true) (x0 : Addr) (x1 : Int32) (x2 : Int32) (y0 : Int32) (y1 : Int32) (y2 : Int32) (y3 : Int32) (h0 : Heap) (n0 : Nat) (Z0 : n0 ≤ h0.size)  (A0 : oInts Z h0 x0 [y0, y1, y2, y3]) (hn : ¬ 4 < x2) :
    oCon l Z (⟨"com/example/harborlog/harborlog/Utf8DecoderEndPinLaw", "step", "([III)I"⟩ : MethodName) method_4_code 4 (some .int) room4 #[(.ref x0), (.int x1), (.int x2)] h0 (fun v h L => v = some (.int (spec4 x1 x2 y0 y1 y2 y3)) ∧ L = [] ∧ h = h0) := by
  refine oCon.of (plainFor_of_name pn_9) ?_
  intro p e s m below meth c s₁ hx hby hml hown hnm hret hlk hZ X0 e0
  rw [ef4 m x0 x1 x2]
  have N0 := Fr.nil n0
  refine o_iloadN (pc' := 1) X0 hx (hb hby d4_0) rfl rfl ?_
  by_cases c1 : x1 < 0
  · refine o_ifT (pc' := 9) X0 hx (hb hby d4_1) (XT.i0_lt_t c1) (by decide) (by decide) ?_
    refine o_iloadN (pc' := 10) X0 hx (hb hby d4_9) rfl rfl ?_
    refine o_retI X0 hx hret hlk (hb hby d4_10) (by decide) (by decide) ?_
    exact ⟨congrArg (fun z => some (Value.int z)) (show _ = (spec4 x1 x2 y0 y1 y2 y3) from (if_pos c1).symm), rfl, e0⟩
  · refine o_ifF (pc' := 4) X0 hx (hb hby d4_1) (XT.i0_lt_f c1) rfl ?_
    refine o_iloadN (pc' := 5) X0 hx (hb hby d4_4) rfl rfl ?_
    refine o_iloadN (pc' := 6) X0 hx (hb hby d4_5) rfl rfl ?_
    by_cases c2 : x1 < x2
    · refine o_icmpT (pc' := 11) X0 hx (hb hby d4_6) (XT.ii_lt_t c2) (by decide) (by decide) ?_
      refine o_aloadN (pc' := 12) X0 hx (hb hby d4_11) rfl rfl rfl ?_
      refine o_iloadN (pc' := 13) X0 hx (hb hby d4_12) rfl rfl ?_
      refine o_iloadN (pc' := 14) X0 hx (hb hby d4_13) rfl rfl ?_
      obtain ⟨r3, T3, L3, X3, hq3, st3⟩ := o_callS X0 hx hZ hown (hw _ (List.mem_of_getElem? (i := 41) rfl)) (hw _ (List.mem_of_getElem? (i := 42) rfl)) (hw _ (List.mem_of_getElem? (i := 13) rfl)) (hw _ (List.mem_of_getElem? (i := 43) rfl)) (by decide) (rm8 l Z a0 hw x0 x1 x2 y0 y1 y2 y3 h0 n0 Z0 A0 c1 c2 hn) e0 (pc' := 17) (Ls := #[.val (.ref x0), .val (.int x1), .val (.int x2), .unset]) (by rw [hml]; rfl) [(.ref x0), (.int x1), (.int x2)] [] rfl pd1 rfl rfl 0 (Nat.le_of_eq rfl) (hb hby d4_14) rfl (by decide) (by decide) (by decide) (by decide)
      obtain ⟨rfl, rfl, Kc3⟩ := hq3
      refine oGo.step (f' := (mkF m 17 #[.val (.ref x0), .val (.int x1), .val (.int x2), .unset] [(.int (spec8 x1 x2 y0 y1 y2 y3))])) st3 ?_
      have e3 : T3.heap = h0 := Kc3
      have X3 := o_same X3 rfl rfl
      refine o_istoreN (pc' := 18) (l' := #[.val (.ref x0), .val (.int x1), .val (.int x2), .val (.int (spec8 x1 x2 y0 y1 y2 y3))]) X3 hx (hb hby d4_17) rfl rfl ?_
      refine o_iloadN (pc' := 19) X3 hx (hb hby d4_18) rfl rfl ?_
      by_cases c4 : (spec8 x1 x2 y0 y1 y2 y3) = 0
      · refine o_ifF (pc' := 22) X3 hx (hb hby d4_19) (XT.i0_ne_f c4) rfl ?_
        refine o_iconst (pc' := 23) (v := (-1 : Int32)) X3 hx (hb hby d4_22) rfl rfl ?_
        refine o_retI X3 hx hret hlk (hb hby d4_23) (by decide) (by decide) ?_
        exact ⟨congrArg (fun z => some (Value.int z)) (show _ = (spec4 x1 x2 y0 y1 y2 y3) from ((if_neg c1).trans ((if_pos c2).trans (if_pos c4))).symm), rfl, e3⟩
      · refine o_ifT (pc' := 24) X3 hx (hb hby d4_19) (XT.i0_ne_t c4) (by decide) (by decide) ?_
        refine o_iloadN (pc' := 25) X3 hx (hb hby d4_24) rfl rfl ?_
        refine o_iloadN (pc' := 26) X3 hx (hb hby d4_25) rfl rfl ?_
        refine o_iadd (pc' := 27) X3 hx (hb hby d4_26)  rfl ?_
        refine o_retI X3 hx hret hlk (hb hby d4_27) (by decide) (by decide) ?_
        exact ⟨congrArg (fun z => some (Value.int z)) (show _ = (spec4 x1 x2 y0 y1 y2 y3) from ((if_neg c1).trans ((if_pos c2).trans (if_neg c4))).symm), rfl, e3⟩
    · refine o_icmpF (pc' := 9) X0 hx (hb hby d4_6) (XT.ii_lt_f c2) rfl ?_
      refine o_iloadN (pc' := 10) X0 hx (hb hby d4_9) rfl rfl ?_
      refine o_retI X0 hx hret hlk (hb hby d4_10) (by decide) (by decide) ?_
      exact ⟨congrArg (fun z => some (Value.int z)) (show _ = (spec4 x1 x2 y0 y1 y2 y3) from ((if_neg c1).trans (if_neg c2)).symm), rfl, e0⟩
theorem d3_0 : decode method_3_code 0 = .ok (.iconst 0, 1) := by decide +kernel
theorem d3_1 : decode method_3_code 1 = .ok (.istore_n 2, 1) := by decide +kernel
theorem d3_2 : decode method_3_code 2 = .ok (.aload_n 0, 1) := by decide +kernel
theorem d3_3 : decode method_3_code 3 = .ok (.iload_n 2, 1) := by decide +kernel
theorem d3_4 : decode method_3_code 4 = .ok (.iload_n 1, 1) := by decide +kernel
theorem d3_5 : decode method_3_code 5 = .ok (.invokestatic 29, 3) := by decide +kernel
theorem d3_8 : decode method_3_code 8 = .ok (.istore_n 2, 1) := by decide +kernel
theorem d3_9 : decode method_3_code 9 = .ok (.aload_n 0, 1) := by decide +kernel
theorem d3_10 : decode method_3_code 10 = .ok (.iload_n 2, 1) := by decide +kernel
theorem d3_11 : decode method_3_code 11 = .ok (.iload_n 1, 1) := by decide +kernel
theorem d3_12 : decode method_3_code 12 = .ok (.invokestatic 29, 3) := by decide +kernel
theorem d3_15 : decode method_3_code 15 = .ok (.istore_n 2, 1) := by decide +kernel
theorem d3_16 : decode method_3_code 16 = .ok (.aload_n 0, 1) := by decide +kernel
theorem d3_17 : decode method_3_code 17 = .ok (.iload_n 2, 1) := by decide +kernel
theorem d3_18 : decode method_3_code 18 = .ok (.iload_n 1, 1) := by decide +kernel
theorem d3_19 : decode method_3_code 19 = .ok (.invokestatic 29, 3) := by decide +kernel
theorem d3_22 : decode method_3_code 22 = .ok (.istore_n 2, 1) := by decide +kernel
theorem d3_23 : decode method_3_code 23 = .ok (.aload_n 0, 1) := by decide +kernel
theorem d3_24 : decode method_3_code 24 = .ok (.iload_n 2, 1) := by decide +kernel
theorem d3_25 : decode method_3_code 25 = .ok (.iload_n 1, 1) := by decide +kernel
theorem d3_26 : decode method_3_code 26 = .ok (.invokestatic 29, 3) := by decide +kernel
theorem d3_29 : decode method_3_code 29 = .ok (.istore_n 2, 1) := by decide +kernel
theorem d3_30 : decode method_3_code 30 = .ok (.iload_n 2, 1) := by decide +kernel
theorem d3_31 : decode method_3_code 31 = .ok (.iload_n 1, 1) := by decide +kernel
theorem d3_32 : decode method_3_code 32 = .ok (.if_icmp .ne 7, 3) := by decide +kernel
theorem d3_35 : decode method_3_code 35 = .ok (.iconst 1, 1) := by decide +kernel
theorem d3_36 : decode method_3_code 36 = .ok (.goto 4, 3) := by decide +kernel
theorem d3_39 : decode method_3_code 39 = .ok (.iconst 0, 1) := by decide +kernel
theorem d3_40 : decode method_3_code 40 = .ok (.ireturn, 1) := by decide +kernel
theorem ef3 (m : MethodId) (x0 : Addr) (x1 : Int32) : entryFrame m #[(.ref x0), (.int x1)] 3 = mkF m 0 #[.val (.ref x0), .val (.int x1), .unset] [] := by first | (simp [entryFrame, mkF, argsToLocals, Value.category]; done) | rfl
def spec3 (x1 : Int32) (y0 : Int32) (y1 : Int32) (y2 : Int32) (y3 : Int32) : Int32 := (if (spec4 (spec4 (spec4 (spec4 (0 : Int32) x1 y0 y1 y2 y3) x1 y0 y1 y2 y3) x1 y0 y1 y2 y3) x1 y0 y1 y2 y3) = x1 then (1 : Int32) else (0 : Int32))
def room3 : Room := { frames := 3, cells := 0, slots := 0, locals := 48 }
set_option maxRecDepth 65536 in
set_option maxHeartbeats 40000000 in
theorem rm3 (l : Launch) (Z : State) (a0 : Array Value) (hw : ∀ d ∈ tables_1, d.before a0 Z = true) (x0 : Addr) (x1 : Int32) (y0 : Int32) (y1 : Int32) (y2 : Int32) (y3 : Int32) (h0 : Heap) (n0 : Nat) (Z0 : n0 ≤ h0.size)  (A0 : oInts Z h0 x0 [y0, y1, y2, y3]) (hn : ¬ 4 < x1) :
    oCon l Z (⟨"com/example/harborlog/harborlog/Utf8DecoderEndPinLaw", "wellFormed", "([II)Z"⟩ : MethodName) method_3_code 3 (some .boolean) room3 #[(.ref x0), (.int x1)] h0 (fun v h L => v = some (.int (spec3 x1 y0 y1 y2 y3)) ∧ L = [] ∧ h = h0) := by
  refine oCon.of (plainFor_of_name pn_9) ?_
  intro p e s m below meth c s₁ hx hby hml hown hnm hret hlk hZ X0 e0
  rw [ef3 m x0 x1]
  have N0 := Fr.nil n0
  refine o_iconst (pc' := 1) (v := (0 : Int32)) X0 hx (hb hby d3_0) rfl rfl ?_
  refine o_istoreN (pc' := 2) (l' := #[.val (.ref x0), .val (.int x1), .val (.int (0 : Int32))]) X0 hx (hb hby d3_1) rfl rfl ?_
  refine o_aloadN (pc' := 3) X0 hx (hb hby d3_2) rfl rfl rfl ?_
  refine o_iloadN (pc' := 4) X0 hx (hb hby d3_3) rfl rfl ?_
  refine o_iloadN (pc' := 5) X0 hx (hb hby d3_4) rfl rfl ?_
  obtain ⟨r1, T1, L1, X1, hq1, st1⟩ := o_callS X0 hx hZ hown (hw _ (List.mem_of_getElem? (i := 15) rfl)) (hw _ (List.mem_of_getElem? (i := 16) rfl)) (hw _ (List.mem_of_getElem? (i := 13) rfl)) (hw _ (List.mem_of_getElem? (i := 17) rfl)) (by decide) (rm4 l Z a0 hw x0 (0 : Int32) x1 y0 y1 y2 y3 h0 n0 Z0 A0 hn) e0 (pc' := 8) (Ls := #[.val (.ref x0), .val (.int x1), .val (.int (0 : Int32))]) (by rw [hml]; rfl) [(.ref x0), (.int (0 : Int32)), (.int x1)] [] rfl pd1 rfl rfl 0 (Nat.le_of_eq rfl) (hb hby d3_5) rfl (by decide) (by decide) (by decide) (by decide)
  obtain ⟨rfl, rfl, Kc1⟩ := hq1
  refine oGo.step (f' := (mkF m 8 #[.val (.ref x0), .val (.int x1), .val (.int (0 : Int32))] [(.int (spec4 (0 : Int32) x1 y0 y1 y2 y3))])) st1 ?_
  have e1 : T1.heap = h0 := Kc1
  have X1 := o_same X1 rfl rfl
  refine o_istoreN (pc' := 9) (l' := #[.val (.ref x0), .val (.int x1), .val (.int (spec4 (0 : Int32) x1 y0 y1 y2 y3))]) X1 hx (hb hby d3_8) rfl rfl ?_
  refine o_aloadN (pc' := 10) X1 hx (hb hby d3_9) rfl rfl rfl ?_
  refine o_iloadN (pc' := 11) X1 hx (hb hby d3_10) rfl rfl ?_
  refine o_iloadN (pc' := 12) X1 hx (hb hby d3_11) rfl rfl ?_
  obtain ⟨r2, T2, L2, X2, hq2, st2⟩ := o_callS X1 hx hZ hown (hw _ (List.mem_of_getElem? (i := 15) rfl)) (hw _ (List.mem_of_getElem? (i := 16) rfl)) (hw _ (List.mem_of_getElem? (i := 13) rfl)) (hw _ (List.mem_of_getElem? (i := 17) rfl)) (by decide) (rm4 l Z a0 hw x0 (spec4 (0 : Int32) x1 y0 y1 y2 y3) x1 y0 y1 y2 y3 h0 n0 Z0 A0 hn) e1 (pc' := 15) (Ls := #[.val (.ref x0), .val (.int x1), .val (.int (spec4 (0 : Int32) x1 y0 y1 y2 y3))]) (by rw [hml]; rfl) [(.ref x0), (.int (spec4 (0 : Int32) x1 y0 y1 y2 y3)), (.int x1)] [] rfl pd1 rfl rfl 0 (Nat.le_of_eq rfl) (hb hby d3_12) rfl (by decide) (by decide) (by decide) (by decide)
  obtain ⟨rfl, rfl, Kc2⟩ := hq2
  refine oGo.step (f' := (mkF m 15 #[.val (.ref x0), .val (.int x1), .val (.int (spec4 (0 : Int32) x1 y0 y1 y2 y3))] [(.int (spec4 (spec4 (0 : Int32) x1 y0 y1 y2 y3) x1 y0 y1 y2 y3))])) st2 ?_
  have e2 : T2.heap = h0 := Kc2
  have X2 := o_same X2 rfl rfl
  refine o_istoreN (pc' := 16) (l' := #[.val (.ref x0), .val (.int x1), .val (.int (spec4 (spec4 (0 : Int32) x1 y0 y1 y2 y3) x1 y0 y1 y2 y3))]) X2 hx (hb hby d3_15) rfl rfl ?_
  refine o_aloadN (pc' := 17) X2 hx (hb hby d3_16) rfl rfl rfl ?_
  refine o_iloadN (pc' := 18) X2 hx (hb hby d3_17) rfl rfl ?_
  refine o_iloadN (pc' := 19) X2 hx (hb hby d3_18) rfl rfl ?_
  obtain ⟨r3, T3, L3, X3, hq3, st3⟩ := o_callS X2 hx hZ hown (hw _ (List.mem_of_getElem? (i := 15) rfl)) (hw _ (List.mem_of_getElem? (i := 16) rfl)) (hw _ (List.mem_of_getElem? (i := 13) rfl)) (hw _ (List.mem_of_getElem? (i := 17) rfl)) (by decide) (rm4 l Z a0 hw x0 (spec4 (spec4 (0 : Int32) x1 y0 y1 y2 y3) x1 y0 y1 y2 y3) x1 y0 y1 y2 y3 h0 n0 Z0 A0 hn) e2 (pc' := 22) (Ls := #[.val (.ref x0), .val (.int x1), .val (.int (spec4 (spec4 (0 : Int32) x1 y0 y1 y2 y3) x1 y0 y1 y2 y3))]) (by rw [hml]; rfl) [(.ref x0), (.int (spec4 (spec4 (0 : Int32) x1 y0 y1 y2 y3) x1 y0 y1 y2 y3)), (.int x1)] [] rfl pd1 rfl rfl 0 (Nat.le_of_eq rfl) (hb hby d3_19) rfl (by decide) (by decide) (by decide) (by decide)
  obtain ⟨rfl, rfl, Kc3⟩ := hq3
  refine oGo.step (f' := (mkF m 22 #[.val (.ref x0), .val (.int x1), .val (.int (spec4 (spec4 (0 : Int32) x1 y0 y1 y2 y3) x1 y0 y1 y2 y3))] [(.int (spec4 (spec4 (spec4 (0 : Int32) x1 y0 y1 y2 y3) x1 y0 y1 y2 y3) x1 y0 y1 y2 y3))])) st3 ?_
  have e3 : T3.heap = h0 := Kc3
  have X3 := o_same X3 rfl rfl
  refine o_istoreN (pc' := 23) (l' := #[.val (.ref x0), .val (.int x1), .val (.int (spec4 (spec4 (spec4 (0 : Int32) x1 y0 y1 y2 y3) x1 y0 y1 y2 y3) x1 y0 y1 y2 y3))]) X3 hx (hb hby d3_22) rfl rfl ?_
  refine o_aloadN (pc' := 24) X3 hx (hb hby d3_23) rfl rfl rfl ?_
  refine o_iloadN (pc' := 25) X3 hx (hb hby d3_24) rfl rfl ?_
  refine o_iloadN (pc' := 26) X3 hx (hb hby d3_25) rfl rfl ?_
  obtain ⟨r4, T4, L4, X4, hq4, st4⟩ := o_callS X3 hx hZ hown (hw _ (List.mem_of_getElem? (i := 15) rfl)) (hw _ (List.mem_of_getElem? (i := 16) rfl)) (hw _ (List.mem_of_getElem? (i := 13) rfl)) (hw _ (List.mem_of_getElem? (i := 17) rfl)) (by decide) (rm4 l Z a0 hw x0 (spec4 (spec4 (spec4 (0 : Int32) x1 y0 y1 y2 y3) x1 y0 y1 y2 y3) x1 y0 y1 y2 y3) x1 y0 y1 y2 y3 h0 n0 Z0 A0 hn) e3 (pc' := 29) (Ls := #[.val (.ref x0), .val (.int x1), .val (.int (spec4 (spec4 (spec4 (0 : Int32) x1 y0 y1 y2 y3) x1 y0 y1 y2 y3) x1 y0 y1 y2 y3))]) (by rw [hml]; rfl) [(.ref x0), (.int (spec4 (spec4 (spec4 (0 : Int32) x1 y0 y1 y2 y3) x1 y0 y1 y2 y3) x1 y0 y1 y2 y3)), (.int x1)] [] rfl pd1 rfl rfl 0 (Nat.le_of_eq rfl) (hb hby d3_26) rfl (by decide) (by decide) (by decide) (by decide)
  obtain ⟨rfl, rfl, Kc4⟩ := hq4
  refine oGo.step (f' := (mkF m 29 #[.val (.ref x0), .val (.int x1), .val (.int (spec4 (spec4 (spec4 (0 : Int32) x1 y0 y1 y2 y3) x1 y0 y1 y2 y3) x1 y0 y1 y2 y3))] [(.int (spec4 (spec4 (spec4 (spec4 (0 : Int32) x1 y0 y1 y2 y3) x1 y0 y1 y2 y3) x1 y0 y1 y2 y3) x1 y0 y1 y2 y3))])) st4 ?_
  have e4 : T4.heap = h0 := Kc4
  have X4 := o_same X4 rfl rfl
  refine o_istoreN (pc' := 30) (l' := #[.val (.ref x0), .val (.int x1), .val (.int (spec4 (spec4 (spec4 (spec4 (0 : Int32) x1 y0 y1 y2 y3) x1 y0 y1 y2 y3) x1 y0 y1 y2 y3) x1 y0 y1 y2 y3))]) X4 hx (hb hby d3_29) rfl rfl ?_
  refine o_iloadN (pc' := 31) X4 hx (hb hby d3_30) rfl rfl ?_
  refine o_iloadN (pc' := 32) X4 hx (hb hby d3_31) rfl rfl ?_
  have J6 : ∀ (v7 : Int32), v7 = (if (spec4 (spec4 (spec4 (spec4 (0 : Int32) x1 y0 y1 y2 y3) x1 y0 y1 y2 y3) x1 y0 y1 y2 y3) x1 y0 y1 y2 y3) = x1 then (1 : Int32) else (0 : Int32)) → oGo p e below (oG s (fun v h L => v = some (.int (spec3 x1 y0 y1 y2 y3)) ∧ L = [] ∧ h = h0) room3.cells room3.slots) T4 (mkF m 40 #[.val (.ref x0), .val (.int x1), .val (.int (spec4 (spec4 (spec4 (spec4 (0 : Int32) x1 y0 y1 y2 y3) x1 y0 y1 y2 y3) x1 y0 y1 y2 y3) x1 y0 y1 y2 y3))] [(.int v7)]) := by
    intro v7 hv7
    refine o_retZ X4 hx hret hlk (hb hby d3_40) (by rw [hv7]; (repeat' split) <;> (first | rfl | assumption)) (by decide) (by decide) ?_
    subst hv7
    exact ⟨rfl, rfl, e4⟩
  by_cases c5 : (spec4 (spec4 (spec4 (spec4 (0 : Int32) x1 y0 y1 y2 y3) x1 y0 y1 y2 y3) x1 y0 y1 y2 y3) x1 y0 y1 y2 y3) = x1
  · refine o_icmpF (pc' := 35) X4 hx (hb hby d3_32) (XT.ii_ne_f c5) rfl ?_
    refine o_iconst (pc' := 36) (v := (1 : Int32)) X4 hx (hb hby d3_35) rfl rfl ?_
    refine o_goto (pc' := 40) X4 hx (hb hby d3_36) (by decide) (by decide) ?_
    exact J6 _ (if_pos c5).symm
  · refine o_icmpT (pc' := 39) X4 hx (hb hby d3_32) (XT.ii_ne_t c5) (by decide) (by decide) ?_
    refine o_iconst (pc' := 40) (v := (0 : Int32)) X4 hx (hb hby d3_39) rfl rfl ?_
    exact J6 _ (if_neg c5).symm

def oAcc : Int32 → Int32 → Int32 → Int32 → List Int32 → Bool
  | cp, k, g, z, [] => decide (z = 0 ∧ k = 0)
  | cp, k, g, z, b :: r => oAcc (fld7_codePoint b cp k) (fld7_lacking b k) (fld7_given b k g) (fld7_malformed b cp k g z) r
theorem acc_cons (cp k g z b : Int32) (r : List Int32) : oAcc cp k g z (b :: r) = oAcc (fld7_codePoint b cp k) (fld7_lacking b k) (fld7_given b k g) (fld7_malformed b cp k g z) r := rfl
theorem nx_stuck (x cp k g : Int32) : fld7_malformed x cp k g 1 = 1 := by
  unfold fld7_malformed
  (repeat' split) <;> first | rfl | decide
theorem acc_bad : ∀ (l : List Int32) (cp k g : Int32), oAcc cp k g 1 l = false
  | [], cp, k, g => by simp [oAcc]
  | b :: r, cp, k, g => by
    show oAcc _ _ _ (fld7_malformed b cp k g 1) r = false
    rw [nx_stuck]; exact acc_bad r _ _ _
theorem z01 : (0 : Int32) = 0 ∨ (0 : Int32) = 1 := Or.inl rfl
theorem acc_indep : ∀ (l : List Int32) (cp : Int32), oAcc cp 0 0 0 l = oAcc 0 0 0 0 l
  | [], cp => rfl
  | b :: r, cp => by
    show oAcc (fld7_codePoint b cp 0) (fld7_lacking b 0) (fld7_given b 0 0) (fld7_malformed b cp 0 0 0) r = oAcc (fld7_codePoint b 0 0) (fld7_lacking b 0) (fld7_given b 0 0) (fld7_malformed b 0 0 0 0) r
    by_cases h : b < 128
    · obtain ⟨e1, e2, e3, e4, -⟩ := nx_ascii (cp := cp) (g := 0) (k := 0) rfl z01 h
      obtain ⟨f1, -, -, f4, -⟩ := nx_ascii (cp := 0) (g := 0) (k := 0) rfl z01 h
      rw [e1, e2, e3, e4, f1, f4]; exact acc_indep r cp
    · by_cases h2 : b < 192 ∨ 247 < b
      · obtain ⟨-, -, -, e4, -⟩ := nx_bad (cp := cp) (g := 0) (k := 0) (z := 0) rfl h h2
        obtain ⟨-, -, -, f4, -⟩ := nx_bad (cp := 0) (g := 0) (k := 0) (z := 0) rfl h h2
        rw [e4, f4, acc_bad, acc_bad]
      · have a1 : ¬ b < 192 := fun q => h2 (Or.inl q)
        have a2 : ¬ 247 < b := fun q => h2 (Or.inr q)
        obtain ⟨e1, -, -, e4, -⟩ := nx_lead (cp := cp) (g := 0) (k := 0) rfl z01 a1 a2
        obtain ⟨f1, -, -, f4, -⟩ := nx_lead (cp := 0) (g := 0) (k := 0) rfl z01 a1 a2
        rw [e1, e4, f1, f4]
abbrev oA (l : List Int32) : Bool := oAcc 0 0 0 0 l
theorem A_ascii {b : Int32} {r : List Int32} (h : b < 128) : oA (b :: r) = oA r := by
  show oAcc (fld7_codePoint b 0 0) (fld7_lacking b 0) (fld7_given b 0 0) (fld7_malformed b 0 0 0 0) r = _
  obtain ⟨f1, f2, f3, f4, -⟩ := nx_ascii (cp := 0) (g := 0) (k := 0) rfl z01 h
  rw [f1, f2, f3, f4]
theorem A_bad {b : Int32} {r : List Int32} (h : ¬ b < 128) (h2 : b < 192 ∨ 247 < b) : oA (b :: r) = false := by
  show oAcc (fld7_codePoint b 0 0) (fld7_lacking b 0) (fld7_given b 0 0) (fld7_malformed b 0 0 0 0) r = _
  obtain ⟨-, -, -, f4, -⟩ := nx_bad (cp := 0) (g := 0) (k := 0) (z := 0) rfl h h2
  rw [f4, acc_bad]
theorem A_lead {b : Int32} {r : List Int32} (h : ¬ b < 192) (h2 : ¬ 247 < b) : oA (b :: r) = oAcc (b &&& ((63 : Int32) >>> (oTop b &&& 31))) (oTop b) 1 0 r := by
  show oAcc (fld7_codePoint b 0 0) (fld7_lacking b 0) (fld7_given b 0 0) (fld7_malformed b 0 0 0 0) r = _
  obtain ⟨f1, f2, f3, f4, -⟩ := nx_lead (cp := 0) (g := 0) (k := 0) rfl z01 h h2
  rw [f1, f2, f3, f4]
theorem acc_cut {b cp k g : Int32} {r : List Int32} (hk : 0 < k) (h : ¬ (b &&& 192) = 128) : oAcc cp k g 0 (b :: r) = false := by
  show oAcc _ _ _ (fld7_malformed b cp k g 0) r = _
  rw [(nx_cut hk z01 h).1, acc_bad]
theorem acc_more {b cp k g : Int32} {r : List Int32} (hk : 0 < k) (h : (b &&& 192) = 128) (h1 : ¬ k - 1 = 0) : oAcc cp k g 0 (b :: r) = oAcc (oSh cp b) (k - 1) (g + 1) 0 r := by
  show oAcc (fld7_codePoint b cp k) (fld7_lacking b k) (fld7_given b k g) (fld7_malformed b cp k g 0) r = _
  obtain ⟨f1, f2, f3, f4, -⟩ := nx_more (cp := cp) (g := g) (z := 0) hk h h1
  rw [f1, f2, f3, f4]
theorem acc_last {b cp k g : Int32} {r : List Int32} (hk : 0 < k) (h : (b &&& 192) = 128) (h1 : k - 1 = 0) : oAcc cp k g 0 (b :: r) = (oScal (oSh cp b) g && oA r) := by
  show oAcc (fld7_codePoint b cp k) (fld7_lacking b k) (fld7_given b k g) (fld7_malformed b cp k g 0) r = _
  obtain ⟨f2, f3, f4, -⟩ := nx_last (cp := cp) (g := g) hk z01 h h1
  rw [f2, f3, f4]
  by_cases q : oScal (oSh cp b) g = true
  · rw [if_pos q, q, acc_indep]; rfl
  · rw [if_neg q, acc_bad, Bool.eq_false_iff.mpr q]; rfl
theorem acc_end {cp k g : Int32} (h : ¬ k = 0) : oAcc cp k g 0 [] = false := by simp [oAcc, h]


theorem own_lti {x y : Int32} : x < y ↔ x.toInt < y.toInt := Int32.lt_iff_toInt_lt
theorem scal_iff (v g : Int32) : oScal v g = true ↔ ((oLeast g).toInt ≤ v.toInt ∧ v.toInt ≤ 1114111 ∧ (v.toInt < 55296 ∨ 57343 < v.toInt)) := by
  obtain ⟨-, -, -, -, -, -, -, -, -, l1, l2, l3, -, -⟩ := own_lit
  unfold oScal
  rw [decide_eq_true_eq, own_lti, own_lti, own_lti, own_lti, l1, l2, l3]
  omega
theorem bool_if {p : Prop} [Decidable p] {x y : Bool} (h : x = true ↔ p) : (x && y) = if p then y else false := by
  by_cases q : p
  · rw [if_pos q, h.mpr q]; rfl
  · rw [if_neg q]
    have : x = false := Bool.eq_false_iff.mpr fun r => q (h.mp r)
    rw [this]; rfl
theorem if_iff {p q : Prop} [Decidable p] [Decidable q] {x : Bool} (h : p ↔ q) : (if p then x else false) = if q then x else false := by
  by_cases a : p
  · rw [if_pos a, if_pos (h.mp a)]
  · rw [if_neg a, if_neg fun b => a (h.mpr b)]
theorem top1 {b : Int32} (h2 : b.toInt < 224) : oTop b = 1 := by
  have a : b < 224 := own_lti.mpr h2
  have c : b < 240 := Int32.lt_trans a (by decide)
  unfold oTop; rw [if_pos a, if_pos c]; decide
theorem top2 {b : Int32} (h1 : 224 ≤ b.toInt) (h2 : b.toInt < 240) : oTop b = 2 := by
  have a : ¬ b < 224 := fun q => by have := own_lti.mp q; have : (224 : Int32).toInt = 224 := rfl; omega
  have c : b < 240 := own_lti.mpr h2
  unfold oTop; rw [if_neg a, if_pos c]; decide
theorem top3 {b : Int32} (h1 : 240 ≤ b.toInt) : oTop b = 3 := by
  have e1 : (224 : Int32).toInt = 224 := rfl
  have e2 : (240 : Int32).toInt = 240 := rfl
  have a : ¬ b < 224 := fun q => by have := own_lti.mp q; omega
  have c : ¬ b < 240 := fun q => by have := own_lti.mp q; omega
  unfold oTop; rw [if_neg a, if_neg c]; decide
theorem m31 : ((63 : Int32) >>> ((1 : Int32) &&& 31)) = 31 := by decide
theorem m15 : ((63 : Int32) >>> ((2 : Int32) &&& 31)) = 15 := by decide
theorem m7 : ((63 : Int32) >>> ((3 : Int32) &&& 31)) = 7 := by decide
theorem A_two {b : Int32} {r : List Int32} (hb : oB b) (h1 : 192 ≤ b.toInt) (h2 : b.toInt < 224) (hr : ∀ x ∈ r, oB x) : oA (b :: r) = match r with | [] => false | c :: r' => if (194 ≤ b.toInt ∧ 128 ≤ c.toInt ∧ c.toInt ≤ 191) then oA r' else false := by
  have e1 : (192 : Int32).toInt = 192 := rfl
  have e2 : (247 : Int32).toInt = 247 := rfl
  rw [A_lead (fun q => by have := own_lti.mp q; omega) (fun q => by have := own_lti.mp q; omega), top1 h2, m31]
  have eb := (own_byte hb).2.2.1
  match r, hr with
  | [], _ => exact acc_end (by decide)
  | c :: r', hr =>
    have hc := hr c (List.mem_cons_self ..)
    have ec := (own_byte hc).1
    by_cases q : (c &&& 192) = 128
    · have qq := ec.mp q
      rw [acc_last (by decide) q (by decide)]
      have v := own_shift (cp := b &&& 31) (by omega) (by omega) hc qq
      have l : (oLeast 1).toInt = 128 := rfl
      rw [bool_if (scal_iff _ _)]
      apply if_iff
      rw [l]; show (128 ≤ (oSh (b &&& 31) c).toInt ∧ _) ↔ _
      rw [show (oSh (b &&& 31) c).toInt = _ from v]
      omega
    · rw [acc_cut (by decide) q]; refine Eq.symm (if_neg ?_)
      intro w; exact q (ec.mpr ⟨w.2.1, by omega⟩)
theorem A_three {b : Int32} {r : List Int32} (hb : oB b) (h1 : 224 ≤ b.toInt) (h2 : b.toInt < 240) (hr : ∀ x ∈ r, oB x) : oA (b :: r) = match r with | c :: d :: r' => if (((if b.toInt = 224 then 160 else 128) ≤ c.toInt ∧ c.toInt ≤ (if b.toInt = 237 then 159 else 191)) ∧ 128 ≤ d.toInt ∧ d.toInt ≤ 191) then oA r' else false | _ => false := by
  have e1 : (192 : Int32).toInt = 192 := rfl
  have e2 : (247 : Int32).toInt = 247 := rfl
  rw [A_lead (fun q => by have := own_lti.mp q; omega) (fun q => by have := own_lti.mp q; omega), top2 h1 h2, m15]
  have eb := (own_byte hb).2.2.2.1
  match r, hr with
  | [], _ => exact acc_end (by decide)
  | [c], hr =>
    have hc := hr c (List.mem_cons_self ..)
    by_cases q : (c &&& 192) = 128
    · rw [acc_more (by decide) q (by decide)]; exact acc_end (by decide)
    · exact acc_cut (by decide) q
  | c :: d :: r', hr =>
    have hc := hr c (List.mem_cons_self ..)
    have hd := hr d (List.mem_cons_of_mem _ (List.mem_cons_self ..))
    have ec := (own_byte hc).1
    have ed := (own_byte hd).1
    by_cases q : (c &&& 192) = 128
    · have qq := ec.mp q
      have v := own_shift (cp := b &&& 15) (by omega) (by omega) hc qq
      rw [acc_more (by decide) q (by decide)]
      by_cases p : (d &&& 192) = 128
      · have pp := ed.mp p
        rw [acc_last (by decide) p (by decide)]
        have v2 := own_shift (cp := oSh (b &&& 15) c) (by rw [v]; omega) (by rw [v]; omega) hd pp
        rw [v] at v2
        have l : (oLeast (1 + 1)).toInt = 2048 := rfl
        rw [bool_if (scal_iff _ _)]
        apply if_iff
        rw [l]; show (2048 ≤ (oSh (oSh (b &&& 15) c) d).toInt ∧ _) ↔ _
        rw [show (oSh (oSh (b &&& 15) c) d).toInt = _ from v2]
        split <;> split <;> omega
      · rw [acc_cut (by decide) p]; refine Eq.symm (if_neg ?_)
        intro w; exact p (ed.mpr ⟨w.2.1, by omega⟩)
    · rw [acc_cut (by decide) q]; refine Eq.symm (if_neg ?_)
      intro w; apply q; rw [ec]; obtain ⟨⟨w1, w2⟩, -⟩ := w
      split at w1 <;> split at w2 <;> omega
theorem A_four {b : Int32} {r : List Int32} (hb : oB b) (h1 : 240 ≤ b.toInt) (h2 : b.toInt < 248) (hr : ∀ x ∈ r, oB x) : oA (b :: r) = match r with | c :: d :: f :: r' => if (b.toInt ≤ 244 ∧ ((if b.toInt = 240 then 144 else 128) ≤ c.toInt ∧ c.toInt ≤ (if b.toInt = 244 then 143 else 191)) ∧ (128 ≤ d.toInt ∧ d.toInt ≤ 191) ∧ 128 ≤ f.toInt ∧ f.toInt ≤ 191) then oA r' else false | _ => false := by
  have e1 : (192 : Int32).toInt = 192 := rfl
  have e2 : (247 : Int32).toInt = 247 := rfl
  rw [A_lead (fun q => by have := own_lti.mp q; omega) (fun q => by have := own_lti.mp q; omega), top3 h1, m7]
  have eb := (own_byte hb).2.2.2.2
  match r, hr with
  | [], _ => exact acc_end (by decide)
  | [c], hr =>
    by_cases q : (c &&& 192) = 128
    · rw [acc_more (by decide) q (by decide)]; exact acc_end (by decide)
    · exact acc_cut (by decide) q
  | [c, d], hr =>
    by_cases q : (c &&& 192) = 128
    · rw [acc_more (by decide) q (by decide)]
      by_cases p : (d &&& 192) = 128
      · rw [acc_more (by decide) p (by decide)]; exact acc_end (by decide)
      · exact acc_cut (by decide) p
    · exact acc_cut (by decide) q
  | c :: d :: f :: r', hr =>
    have hc := hr c (List.mem_cons_self ..)
    have hd := hr d (List.mem_cons_of_mem _ (List.mem_cons_self ..))
    have hf := hr f (List.mem_cons_of_mem _ (List.mem_cons_of_mem _ (List.mem_cons_self ..)))
    have ec := (own_byte hc).1
    have ed := (own_byte hd).1
    have ef := (own_byte hf).1
    by_cases q : (c &&& 192) = 128
    · have qq := ec.mp q
      have v := own_shift (cp := b &&& 7) (by omega) (by omega) hc qq
      rw [acc_more (by decide) q (by decide)]
      by_cases p : (d &&& 192) = 128
      · have pp := ed.mp p
        have v2 := own_shift (cp := oSh (b &&& 7) c) (by rw [v]; omega) (by rw [v]; omega) hd pp
        rw [v] at v2
        rw [acc_more (by decide) p (by decide)]
        by_cases t : (f &&& 192) = 128
        · have tt := ef.mp t
          rw [acc_last (by decide) t (by decide)]
          have v3 := own_shift (cp := oSh (oSh (b &&& 7) c) d) (by rw [v2]; omega) (by rw [v2]; omega) hf tt
          rw [v2] at v3
          have l : (oLeast (1 + 1 + 1)).toInt = 65536 := rfl
          rw [bool_if (scal_iff _ _)]
          apply if_iff
          rw [l]; show (65536 ≤ (oSh (oSh (oSh (b &&& 7) c) d) f).toInt ∧ _) ↔ _
          rw [show (oSh (oSh (oSh (b &&& 7) c) d) f).toInt = _ from v3]
          split <;> split <;> omega
        · rw [acc_cut (by decide) t]; refine Eq.symm (if_neg ?_)
          intro w; exact t (ef.mpr ⟨w.2.2.2.1, by omega⟩)
      · rw [acc_cut (by decide) p]; refine Eq.symm (if_neg ?_)
        intro w; exact p (ed.mpr ⟨w.2.2.1.1, by omega⟩)
    · rw [acc_cut (by decide) q]; refine Eq.symm (if_neg ?_)
      intro w; apply q; rw [ec]; obtain ⟨-, ⟨w1, w2⟩, -⟩ := w
      split at w1 <;> split at w2 <;> omega
def oCl : List Int32 → Nat
  | [] => 0
  | b :: r =>
    if b.toInt < 128 then 1
    else if b.toInt < 194 then 0
    else if b.toInt ≤ 223 then (match r with | [] => 0 | c :: _ => if 128 ≤ c.toInt ∧ c.toInt ≤ 191 then 2 else 0)
    else if b.toInt ≤ 239 then (match r with | c :: d :: _ => if (((if b.toInt = 224 then 160 else 128) ≤ c.toInt ∧ c.toInt ≤ (if b.toInt = 237 then 159 else 191)) ∧ 128 ≤ d.toInt ∧ d.toInt ≤ 191) then 3 else 0 | _ => 0)
    else if b.toInt ≤ 244 then (match r with | c :: d :: f :: _ => if (((if b.toInt = 240 then 144 else 128) ≤ c.toInt ∧ c.toInt ≤ (if b.toInt = 244 then 143 else 191)) ∧ (128 ≤ d.toInt ∧ d.toInt ≤ 191) ∧ 128 ≤ f.toInt ∧ f.toInt ≤ 191) then 4 else 0 | _ => 0)
    else 0
theorem oCl_cons (b : Int32) (r : List Int32) : oCl (b :: r) =
    (if b.toInt < 128 then 1
    else if b.toInt < 194 then 0
    else if b.toInt ≤ 223 then (match r with | [] => 0 | c :: _ => if 128 ≤ c.toInt ∧ c.toInt ≤ 191 then 2 else 0)
    else if b.toInt ≤ 239 then (match r with | c :: d :: _ => if (((if b.toInt = 224 then 160 else 128) ≤ c.toInt ∧ c.toInt ≤ (if b.toInt = 237 then 159 else 191)) ∧ 128 ≤ d.toInt ∧ d.toInt ≤ 191) then 3 else 0 | _ => 0)
    else if b.toInt ≤ 244 then (match r with | c :: d :: f :: _ => if (((if b.toInt = 240 then 144 else 128) ≤ c.toInt ∧ c.toInt ≤ (if b.toInt = 244 then 143 else 191)) ∧ (128 ≤ d.toInt ∧ d.toInt ≤ 191) ∧ 128 ≤ f.toInt ∧ f.toInt ≤ 191) then 4 else 0 | _ => 0)
    else 0) := rfl
theorem A_step (b : Int32) (r : List Int32) (hb : oB b) (hr : ∀ x ∈ r, oB x) : oA (b :: r) = match oCl (b :: r) with | 0 => false | k + 1 => oA (r.drop k) := by
  have e1 : (128 : Int32).toInt = 128 := rfl
  have e2 : (192 : Int32).toInt = 192 := rfl
  have e3 : (247 : Int32).toInt = 247 := rfl
  rw [oCl_cons]
  by_cases a1 : b.toInt < 128
  · rw [if_pos a1, A_ascii (own_lti.mpr a1)]; rfl
  · rw [if_neg a1]
    by_cases a2 : b.toInt < 194
    · rw [if_pos a2]
      by_cases a3 : b.toInt < 192
      · rw [A_bad (fun q => a1 (own_lti.mp q)) (Or.inl (own_lti.mpr a3))]
      · rw [A_two hb (by omega) (by omega) hr]
        match r with
        | [] => rfl
        | c :: r' => show (if _ then _ else _) = _; rw [if_neg (by omega)]
    · rw [if_neg a2]
      by_cases a3 : b.toInt ≤ 223
      · rw [if_pos a3, A_two hb (by omega) (by omega) hr]
        match r with
        | [] => rfl
        | c :: r' =>
          show (if _ then _ else _) = match (if _ then _ else _ : Nat) with | 0 => _ | k + 1 => _
          by_cases w : 128 ≤ c.toInt ∧ c.toInt ≤ 191
          · rw [if_pos w, if_pos ⟨by omega, w.1, w.2⟩]; rfl
          · rw [if_neg w, if_neg (fun q => w q.2)]
      · rw [if_neg a3]
        by_cases a4 : b.toInt ≤ 239
        · rw [if_pos a4, A_three hb (by omega) (by omega) hr]
          match r with
          | [] => rfl
          | [c] => rfl
          | c :: d :: r' =>
            by_cases w : (((if b.toInt = 224 then 160 else 128) ≤ c.toInt ∧ c.toInt ≤ (if b.toInt = 237 then 159 else 191)) ∧ 128 ≤ d.toInt ∧ d.toInt ≤ 191)
            · show (if _ then _ else _) = match (if _ then _ else _ : Nat) with | 0 => _ | k + 1 => _
              rw [if_pos w, if_pos w]; rfl
            · show (if _ then _ else _) = match (if _ then _ else _ : Nat) with | 0 => _ | k + 1 => _
              rw [if_neg w, if_neg w]
        · rw [if_neg a4]
          by_cases a5 : b.toInt < 248
          · rw [A_four hb (by omega) a5 hr]
            by_cases a6 : b.toInt ≤ 244
            · rw [if_pos a6]
              match r with
              | [] => rfl
              | [c] => rfl
              | [c, d] => rfl
              | c :: d :: f :: r' =>
                by_cases w : (((if b.toInt = 240 then 144 else 128) ≤ c.toInt ∧ c.toInt ≤ (if b.toInt = 244 then 143 else 191)) ∧ (128 ≤ d.toInt ∧ d.toInt ≤ 191) ∧ 128 ≤ f.toInt ∧ f.toInt ≤ 191)
                · show (if _ then _ else _) = match (if _ then _ else _ : Nat) with | 0 => _ | k + 1 => _
                  rw [if_pos w, if_pos ⟨a6, w⟩]; rfl
                · show (if _ then _ else _) = match (if _ then _ else _ : Nat) with | 0 => _ | k + 1 => _
                  rw [if_neg w, if_neg (fun q => w q.2)]
            · rw [if_neg a6]
              match r with
              | [] => rfl
              | [c] => rfl
              | [c, d] => rfl
              | c :: d :: f :: r' => show (if _ then _ else _) = _; rw [if_neg (fun q => a6 q.1)]
          · rw [if_neg (by omega), A_bad (fun q => a1 (own_lti.mp q)) (Or.inr (own_lti.mpr (by omega)))]


def oN (l : List Int32) (lo hi : Int32) : Int32 := match l with | [] => 0 | c :: _ => if c < lo then 0 else if hi < c then 0 else 1
theorem oN_cons (c : Int32) (l : List Int32) (lo hi : Int32) : (oN (c :: l) lo hi = 0) ↔ ¬ (lo.toInt ≤ c.toInt ∧ c.toInt ≤ hi.toInt) := by
  unfold oN
  by_cases a : c < lo
  · simp only [if_pos a, true_iff]; have := own_lti.mp a; omega
  · by_cases b : hi < c
    · simp only [if_neg a, if_pos b, true_iff]; have := own_lti.mp b; omega
    · simp only [if_neg a, if_neg b]
      have a' : ¬ c.toInt < lo.toInt := fun q => a (own_lti.mpr q)
      have b' : ¬ hi.toInt < c.toInt := fun q => b (own_lti.mpr q)
      constructor
      · intro q; exact absurd q (by decide)
      · intro q; exact absurd ⟨by omega, by omega⟩ q
theorem own_eqi {x y : Int32} : x = y ↔ x.toInt = y.toInt := Int32.toInt_inj.symm
theorem s8 {x1 x2 y0 y1 y2 y3 b : Int32} {r : List Int32} (H0 : oGet4 y0 y1 y2 y3 x1 = b) (H1 : ∀ lo hi, spec9 (x1 + (1 : Int32)) x2 lo hi y0 y1 y2 y3 = oN r lo hi) (H2 : ∀ lo hi, spec9 (x1 + (2 : Int32)) x2 lo hi y0 y1 y2 y3 = oN (r.drop 1) lo hi) (H3 : ∀ lo hi, spec9 (x1 + (3 : Int32)) x2 lo hi y0 y1 y2 y3 = oN (r.drop 2) lo hi) : spec8 x1 x2 y0 y1 y2 y3 = Int32.ofNat (oCl (b :: r)) := by
  have l1 : (128 : Int32).toInt = 128 := rfl
  have l2 : (194 : Int32).toInt = 194 := rfl
  have l3 : (223 : Int32).toInt = 223 := rfl
  have l4 : (224 : Int32).toInt = 224 := rfl
  have l5 : (239 : Int32).toInt = 239 := rfl
  have l6 : (240 : Int32).toInt = 240 := rfl
  have l7 : (244 : Int32).toInt = 244 := rfl
  have l8 : (191 : Int32).toInt = 191 := rfl
  have l9 : (160 : Int32).toInt = 160 := rfl
  have l10 : (159 : Int32).toInt = 159 := rfl
  have l11 : (144 : Int32).toInt = 144 := rfl
  have l12 : (143 : Int32).toInt = 143 := rfl
  have l13 : (237 : Int32).toInt = 237 := rfl
  unfold spec8 oCl
  rw [H0]
  simp only [H1, H2, H3]
  by_cases a1 : b < 128
  · rw [if_pos a1, if_pos (show b.toInt < 128 from own_lti.mp a1)]; rfl
  · have a1' : ¬ b.toInt < 128 := fun q => a1 (own_lti.mpr q)
    rw [if_neg a1, if_neg a1']
    by_cases a2 : b < 194
    · have a2' : b.toInt < 194 := own_lti.mp a2
      have c1 : b < 224 := own_lti.mpr (by omega)
      have c2 : b < 240 := own_lti.mpr (by omega)
      rw [if_pos a2, if_pos c1, if_pos c2, if_pos a2']; rfl
    · have a2' : ¬ b.toInt < 194 := fun q => a2 (own_lti.mpr q)
      rw [if_neg a2, if_neg a2']
      by_cases a3 : 223 < b
      · have a3' := own_lti.mp a3
        have c1 : ¬ b < 224 := fun q => by have := own_lti.mp q; omega
        rw [if_pos a3, if_neg c1, if_neg (by omega : ¬ b.toInt ≤ 223)]
        by_cases a4 : 239 < b
        · have a4' := own_lti.mp a4
          have c2 : ¬ b < 240 := fun q => by have := own_lti.mp q; omega
          rw [if_pos a4, if_neg c2, if_neg (by omega : ¬ b.toInt ≤ 239)]
          by_cases a5 : 244 < b
          · have a5' := own_lti.mp a5
            rw [if_pos a5, if_neg (by omega : ¬ b.toInt ≤ 244)]; rfl
          · have a5' : ¬ (244 : Int32).toInt < b.toInt := fun q => a5 (own_lti.mpr q)
            rw [if_neg a5, if_pos (by omega : b.toInt ≤ 244)]
            match r with
            | [] => rfl
            | [c] =>
              show (if oN [c] _ _ = 0 then (0 : Int32) else (if oN [] _ _ = 0 then (0 : Int32) else _)) = 0
              by_cases q : oN [c] (if b = (240 : Int32) then (144 : Int32) else (128 : Int32)) (if b = (244 : Int32) then (143 : Int32) else (191 : Int32)) = 0
              · rw [if_pos q]
              · rw [if_neg q]; rfl
            | [c, d] =>
              show (if oN [c, d] _ _ = 0 then (0 : Int32) else (if oN [d] _ _ = 0 then (0 : Int32) else (if oN [] _ _ = 0 then (0 : Int32) else _))) = 0
              by_cases q : oN [c, d] (if b = (240 : Int32) then (144 : Int32) else (128 : Int32)) (if b = (244 : Int32) then (143 : Int32) else (191 : Int32)) = 0
              · rw [if_pos q]
              · rw [if_neg q]
                by_cases p : oN [d] (128 : Int32) (191 : Int32) = 0
                · rw [if_pos p]
                · rw [if_neg p]; rfl
            | c :: d :: f :: r' =>
              show (if oN (c :: d :: f :: r') _ _ = 0 then (0 : Int32) else (if oN (d :: f :: r') _ _ = 0 then (0 : Int32) else (if oN (f :: r') _ _ = 0 then (0 : Int32) else (4 : Int32)))) = Int32.ofNat (if _ then _ else _)
              have t1 := oN_cons c (d :: f :: r') (if b = (240 : Int32) then (144 : Int32) else (128 : Int32)) (if b = (244 : Int32) then (143 : Int32) else (191 : Int32))
              have t2 := oN_cons d (f :: r') 128 191
              have t3 := oN_cons f r' 128 191
              have u1 : (if b = (240 : Int32) then (144 : Int32) else (128 : Int32)).toInt = (if b.toInt = 240 then 144 else 128) := by
                by_cases q : b = 240
                · rw [if_pos q, if_pos (show b.toInt = 240 from own_eqi.mp q)]; rfl
                · rw [if_neg q, if_neg (show ¬ b.toInt = 240 from fun w => q (own_eqi.mpr w))]; rfl
              have u2 : (if b = (244 : Int32) then (143 : Int32) else (191 : Int32)).toInt = (if b.toInt = 244 then 143 else 191) := by
                by_cases q : b = 244
                · rw [if_pos q, if_pos (show b.toInt = 244 from own_eqi.mp q)]; rfl
                · rw [if_neg q, if_neg (show ¬ b.toInt = 244 from fun w => q (own_eqi.mpr w))]; rfl
              rw [u1, u2] at t1
              rw [l1, l8] at t2 t3
              by_cases w1 : ((if b.toInt = 240 then 144 else 128) ≤ c.toInt ∧ c.toInt ≤ (if b.toInt = 244 then 143 else 191))
              · rw [if_neg (fun q => t1.mp q w1)]
                by_cases w2 : (128 ≤ d.toInt ∧ d.toInt ≤ 191)
                · rw [if_neg (fun q => t2.mp q w2)]
                  by_cases w3 : (128 ≤ f.toInt ∧ f.toInt ≤ 191)
                  · rw [if_neg (fun q => t3.mp q w3), if_pos ⟨w1, w2, w3⟩]; rfl
                  · rw [if_pos (t3.mpr w3), if_neg (fun q => w3 q.2.2)]; rfl
                · rw [if_pos (t2.mpr w2), if_neg (fun q => w2 q.2.1)]; rfl
              · rw [if_pos (t1.mpr w1), if_neg (fun q => w1 q.1)]; rfl
        · have a4' : ¬ (239 : Int32).toInt < b.toInt := fun q => a4 (own_lti.mpr q)
          rw [if_neg a4, if_pos (by omega : b.toInt ≤ 239)]
          match r with
          | [] => rfl
          | [c] =>
            show (if oN [c] _ _ = 0 then (0 : Int32) else (if oN [] _ _ = 0 then (0 : Int32) else _)) = 0
            by_cases q : oN [c] (if b = (224 : Int32) then (160 : Int32) else (128 : Int32)) (if b = (237 : Int32) then (159 : Int32) else (191 : Int32)) = 0
            · rw [if_pos q]
            · rw [if_neg q]; rfl
          | c :: d :: r' =>
            show (if oN (c :: d :: r') _ _ = 0 then (0 : Int32) else (if oN (d :: r') _ _ = 0 then (0 : Int32) else (3 : Int32))) = Int32.ofNat (if _ then _ else _)
            have t1 := oN_cons c (d :: r') (if b = (224 : Int32) then (160 : Int32) else (128 : Int32)) (if b = (237 : Int32) then (159 : Int32) else (191 : Int32))
            have t2 := oN_cons d r' 128 191
            have u1 : (if b = (224 : Int32) then (160 : Int32) else (128 : Int32)).toInt = (if b.toInt = 224 then 160 else 128) := by
              by_cases q : b = 224
              · rw [if_pos q, if_pos (show b.toInt = 224 from own_eqi.mp q)]; rfl
              · rw [if_neg q, if_neg (show ¬ b.toInt = 224 from fun w => q (own_eqi.mpr w))]; rfl
            have u2 : (if b = (237 : Int32) then (159 : Int32) else (191 : Int32)).toInt = (if b.toInt = 237 then 159 else 191) := by
              by_cases q : b = 237
              · rw [if_pos q, if_pos (show b.toInt = 237 from own_eqi.mp q)]; rfl
              · rw [if_neg q, if_neg (show ¬ b.toInt = 237 from fun w => q (own_eqi.mpr w))]; rfl
            rw [u1, u2] at t1
            rw [l1, l8] at t2
            by_cases w1 : ((if b.toInt = 224 then 160 else 128) ≤ c.toInt ∧ c.toInt ≤ (if b.toInt = 237 then 159 else 191))
            · rw [if_neg (fun q => t1.mp q w1)]
              by_cases w2 : (128 ≤ d.toInt ∧ d.toInt ≤ 191)
              · rw [if_neg (fun q => t2.mp q w2), if_pos ⟨w1, w2⟩]; rfl
              · rw [if_pos (t2.mpr w2), if_neg (fun q => w2 q.2)]; rfl
            · rw [if_pos (t1.mpr w1), if_neg (fun q => w1 q.1)]; rfl
      · have a3' : ¬ (223 : Int32).toInt < b.toInt := fun q => a3 (own_lti.mpr q)
        rw [if_neg a3, if_pos (by omega : b.toInt ≤ 223)]
        match r with
        | [] => rfl
        | c :: r' =>
          show (if oN (c :: r') _ _ = 0 then (0 : Int32) else (2 : Int32)) = Int32.ofNat (if _ then _ else _)
          have t1 := oN_cons c r' 128 191
          rw [l1, l8] at t1
          by_cases w1 : (128 ≤ c.toInt ∧ c.toInt ≤ 191)
          · rw [if_neg (fun q => t1.mp q w1), if_pos w1]; rfl
          · rw [if_pos (t1.mpr w1), if_neg w1]; rfl
theorem cl_le : ∀ l : List Int32, oCl l ≤ l.length
  | [] => Nat.le_refl _
  | [a] => by unfold oCl; (repeat' split) <;> simp_all
  | [a, b] => by unfold oCl; (repeat' split) <;> simp_all
  | [a, b, c] => by unfold oCl; (repeat' split) <;> simp_all
  | a :: b :: c :: d :: r => by unfold oCl; (repeat' split) <;> simp_all
/-- the scan by its lengths -/
def oS (n c0 c1 c2 c3 pos : Int32) : Int32 := if pos < 0 then pos else if pos < n then (if oGet4 c0 c1 c2 c3 pos = 0 then -1 else pos + oGet4 c0 c1 c2 c3 pos) else pos
def oAn (n c0 c1 c2 c3 : Nat) : Nat → Nat → Bool
  | 0, _ => false
  | f + 1, i => if i = n then true else match (if i = 0 then c0 else if i = 1 then c1 else if i = 2 then c2 else c3) with | 0 => false | k + 1 => oAn n c0 c1 c2 c3 f (i + (k + 1))
def oTab (n c0 c1 c2 c3 : Nat) : Bool :=
  let S := oS (Int32.ofNat n) (Int32.ofNat c0) (Int32.ofNat c1) (Int32.ofNat c2) (Int32.ofNat c3)
  let D := fun p : Int32 => decide (p = -1 ∨ p = 0 ∨ p = 1 ∨ p = 2 ∨ p = 3 ∨ p = 4)
  decide ((if oAn n c0 c1 c2 c3 5 0 then (1 : Int32) else 0) = (if S (S (S (S 0))) = Int32.ofNat n then 1 else 0)) && D (S 0) && D (S (S 0)) && D (S (S (S 0)))
theorem tab_ok : ∀ n, n < 5 → ∀ c0, c0 < n + 1 → ∀ c1, c1 < n - 1 + 1 → ∀ c2, c2 < n - 2 + 1 → ∀ c3, c3 < n - 3 + 1 → oTab n c0 c1 c2 c3 = true := by decide +kernel
theorem s4 {n p y0 y1 y2 y3 c0 c1 c2 c3 : Int32} (hn : ¬ 4 < n) (h0 : 0 < n → spec8 0 n y0 y1 y2 y3 = c0) (h1 : 1 < n → spec8 1 n y0 y1 y2 y3 = c1) (h2 : 2 < n → spec8 2 n y0 y1 y2 y3 = c2) (h3 : 3 < n → spec8 3 n y0 y1 y2 y3 = c3) (D : p = -1 ∨ p = 0 ∨ p = 1 ∨ p = 2 ∨ p = 3 ∨ p = 4) : spec4 p n y0 y1 y2 y3 = oS n c0 c1 c2 c3 p := by
  have g0 : oGet4 c0 c1 c2 c3 0 = c0 := rfl
  have g1 : oGet4 c0 c1 c2 c3 1 = c1 := rfl
  have g2 : oGet4 c0 c1 c2 c3 2 = c2 := rfl
  have g3 : oGet4 c0 c1 c2 c3 3 = c3 := rfl
  unfold spec4 oS
  rcases D with rfl | rfl | rfl | rfl | rfl | rfl
  · rw [if_pos (by decide), if_pos (by decide)]
  · by_cases q : (0 : Int32) < n
    · rw [h0 q, g0]
    · rw [if_neg q, if_neg q]
  · by_cases q : (1 : Int32) < n
    · rw [h1 q, g1]
    · rw [if_neg q, if_neg q]
  · by_cases q : (2 : Int32) < n
    · rw [h2 q, g2]
    · rw [if_neg q, if_neg q]
  · by_cases q : (3 : Int32) < n
    · rw [h3 q, g3]
    · rw [if_neg q, if_neg q]
  · rw [if_neg hn, if_neg hn]
theorem an_eq {n c0 c1 c2 c3 : Nat} (L : List Int32) (hL : ∀ x ∈ L, oB x) (hlen : L.length = n) (hc : ∀ i, i < n → (if i = 0 then c0 else if i = 1 then c1 else if i = 2 then c2 else c3) = oCl (L.drop i)) : ∀ f i, i ≤ n → n - i < f → oAn n c0 c1 c2 c3 f i = oA (L.drop i)
  | 0, i, _, h => absurd h (Nat.not_lt_zero _)
  | f + 1, i, hi, h => by
    unfold oAn
    by_cases q : i = n
    · rw [if_pos q, q, ← hlen, List.drop_length]; rfl
    · rw [if_neg q, hc i (by omega)]
      have hlt : i < L.length := by omega
      have hd : L.drop i = L[i] :: L.drop (i + 1) := List.drop_eq_getElem_cons hlt
      have hle := cl_le (L.drop i)
      rw [List.length_drop] at hle
      rw [hd, A_step _ _ (hL _ (List.getElem_mem hlt)) (fun x hx => hL x (List.mem_of_mem_drop hx)), ← hd]
      cases hk : oCl (L.drop i) with
      | zero => rfl
      | succ k =>
        show oAn n c0 c1 c2 c3 f (i + (k + 1)) = oA ((L.drop (i + 1)).drop k)
        rw [an_eq L hL hlen hc f (i + (k + 1)) (by omega) (by omega), List.drop_drop]
        congr 2; omega
theorem end_eq (k z : Int32) : spec5 k z = if oAcc 0 k 0 z [] = true then 1 else 0 := by
  unfold spec5 oAcc
  by_cases a : z = 0 <;> by_cases b : k = 0 <;> simp [a, b]
theorem acc_nil (cp k g z : Int32) : oAcc cp k g z [] = oAcc 0 k 0 z [] := rfl
theorem own_n4 : ∀ n, n < 5 → ¬ (4 : Int32) < Int32.ofNat n := by decide
theorem own_fin {n : Nat} (hn : n < 5) (N : Int32) (eN : N = Int32.ofNat n) (L : List Int32) (hL : ∀ x ∈ L, oB x) (hlen : L.length = n) {y0 y1 y2 y3 : Int32} (h0 : 0 < N → spec8 0 N y0 y1 y2 y3 = Int32.ofNat (oCl L)) (h1 : 1 < N → spec8 1 N y0 y1 y2 y3 = Int32.ofNat (oCl (L.drop 1))) (h2 : 2 < N → spec8 2 N y0 y1 y2 y3 = Int32.ofNat (oCl (L.drop 2))) (h3 : 3 < N → spec8 3 N y0 y1 y2 y3 = Int32.ofNat (oCl (L.drop 3))) : (if oA L = true then (1 : Int32) else 0) = spec3 N y0 y1 y2 y3 := by
  have b0 := cl_le L
  have b1 := cl_le (L.drop 1)
  have b2 := cl_le (L.drop 2)
  have b3 := cl_le (L.drop 3)
  rw [List.length_drop] at b1 b2 b3
  have T := tab_ok n hn (oCl L) (by omega) (oCl (L.drop 1)) (by omega) (oCl (L.drop 2)) (by omega) (oCl (L.drop 3)) (by omega)
  simp only [oTab, Bool.and_eq_true, decide_eq_true_eq] at T
  obtain ⟨⟨⟨t1, d1⟩, d2⟩, d3⟩ := T
  have hN : ¬ 4 < N := by rw [eN]; exact own_n4 n hn
  have A := an_eq (n := n) (c0 := oCl L) (c1 := oCl (L.drop 1)) (c2 := oCl (L.drop 2)) (c3 := oCl (L.drop 3)) L hL hlen (fun i hi => by
    rcases (by omega : i = 0 ∨ i = 1 ∨ i = 2 ∨ i = 3) with rfl | rfl | rfl | rfl <;> simp) 5 0 (Nat.zero_le _) (by omega)
  rw [List.drop_zero] at A
  rw [A, ← eN] at t1
  rw [← eN] at d1 d2 d3
  unfold spec3
  rw [s4 hN h0 h1 h2 h3 (Or.inr (Or.inl rfl)), s4 hN h0 h1 h2 h3 d1, s4 hN h0 h1 h2 h3 d2, s4 hN h0 h1 h2 h3 d3]
  exact t1

theorem f8_0_1 (y0 y1 y2 y3 : Int32) : spec8 (0 : Int32) (1 : Int32) y0 y1 y2 y3 = Int32.ofNat (oCl [y0]) := s8 (r := []) rfl (fun lo hi => rfl) (fun lo hi => rfl) (fun lo hi => rfl)
theorem f8_0_2 (y0 y1 y2 y3 : Int32) : spec8 (0 : Int32) (2 : Int32) y0 y1 y2 y3 = Int32.ofNat (oCl [y0, y1]) := s8 (r := [y1]) rfl (fun lo hi => rfl) (fun lo hi => rfl) (fun lo hi => rfl)
theorem f8_1_2 (y0 y1 y2 y3 : Int32) : spec8 (1 : Int32) (2 : Int32) y0 y1 y2 y3 = Int32.ofNat (oCl [y1]) := s8 (r := []) rfl (fun lo hi => rfl) (fun lo hi => rfl) (fun lo hi => rfl)
theorem f8_0_3 (y0 y1 y2 y3 : Int32) : spec8 (0 : Int32) (3 : Int32) y0 y1 y2 y3 = Int32.ofNat (oCl [y0, y1, y2]) := s8 (r := [y1, y2]) rfl (fun lo hi => rfl) (fun lo hi => rfl) (fun lo hi => rfl)
theorem f8_1_3 (y0 y1 y2 y3 : Int32) : spec8 (1 : Int32) (3 : Int32) y0 y1 y2 y3 = Int32.ofNat (oCl [y1, y2]) := s8 (r := [y2]) rfl (fun lo hi => rfl) (fun lo hi => rfl) (fun lo hi => rfl)
theorem f8_2_3 (y0 y1 y2 y3 : Int32) : spec8 (2 : Int32) (3 : Int32) y0 y1 y2 y3 = Int32.ofNat (oCl [y2]) := s8 (r := []) rfl (fun lo hi => rfl) (fun lo hi => rfl) (fun lo hi => rfl)
theorem f8_0_4 (y0 y1 y2 y3 : Int32) : spec8 (0 : Int32) (4 : Int32) y0 y1 y2 y3 = Int32.ofNat (oCl [y0, y1, y2, y3]) := s8 (r := [y1, y2, y3]) rfl (fun lo hi => rfl) (fun lo hi => rfl) (fun lo hi => rfl)
theorem f8_1_4 (y0 y1 y2 y3 : Int32) : spec8 (1 : Int32) (4 : Int32) y0 y1 y2 y3 = Int32.ofNat (oCl [y1, y2, y3]) := s8 (r := [y2, y3]) rfl (fun lo hi => rfl) (fun lo hi => rfl) (fun lo hi => rfl)
theorem f8_2_4 (y0 y1 y2 y3 : Int32) : spec8 (2 : Int32) (4 : Int32) y0 y1 y2 y3 = Int32.ofNat (oCl [y2, y3]) := s8 (r := [y3]) rfl (fun lo hi => rfl) (fun lo hi => rfl) (fun lo hi => rfl)
theorem f8_3_4 (y0 y1 y2 y3 : Int32) : spec8 (3 : Int32) (4 : Int32) y0 y1 y2 y3 = Int32.ofNat (oCl [y3]) := s8 (r := []) rfl (fun lo hi => rfl) (fun lo hi => rfl) (fun lo hi => rfl)
theorem fin_0 {y0 y1 y2 y3 : Int32} (B0 : oB y0) (B1 : oB y1) (B2 : oB y2) (B3 : oB y3) : (if oA ([] : List Int32) = true then (1 : Int32) else 0) = spec3 (0 : Int32) y0 y1 y2 y3 := own_fin (n := 0) (by decide) _ rfl [] (fun x hx => by simp at hx) rfl (fun q => absurd q (by decide)) (fun q => absurd q (by decide)) (fun q => absurd q (by decide)) (fun q => absurd q (by decide))
theorem fin_1 {y0 y1 y2 y3 : Int32} (B0 : oB y0) (B1 : oB y1) (B2 : oB y2) (B3 : oB y3) : (if oA ([y0] : List Int32) = true then (1 : Int32) else 0) = spec3 (1 : Int32) y0 y1 y2 y3 := own_fin (n := 1) (by decide) _ rfl [y0] (fun x hx => by simp at hx; rcases hx with rfl <;> assumption) rfl (fun _ => f8_0_1 y0 y1 y2 y3) (fun q => absurd q (by decide)) (fun q => absurd q (by decide)) (fun q => absurd q (by decide))
theorem fin_2 {y0 y1 y2 y3 : Int32} (B0 : oB y0) (B1 : oB y1) (B2 : oB y2) (B3 : oB y3) : (if oA ([y0, y1] : List Int32) = true then (1 : Int32) else 0) = spec3 (2 : Int32) y0 y1 y2 y3 := own_fin (n := 2) (by decide) _ rfl [y0, y1] (fun x hx => by simp at hx; rcases hx with rfl | rfl <;> assumption) rfl (fun _ => f8_0_2 y0 y1 y2 y3) (fun _ => f8_1_2 y0 y1 y2 y3) (fun q => absurd q (by decide)) (fun q => absurd q (by decide))
theorem fin_3 {y0 y1 y2 y3 : Int32} (B0 : oB y0) (B1 : oB y1) (B2 : oB y2) (B3 : oB y3) : (if oA ([y0, y1, y2] : List Int32) = true then (1 : Int32) else 0) = spec3 (3 : Int32) y0 y1 y2 y3 := own_fin (n := 3) (by decide) _ rfl [y0, y1, y2] (fun x hx => by simp at hx; rcases hx with rfl | rfl | rfl <;> assumption) rfl (fun _ => f8_0_3 y0 y1 y2 y3) (fun _ => f8_1_3 y0 y1 y2 y3) (fun _ => f8_2_3 y0 y1 y2 y3) (fun q => absurd q (by decide))
theorem fin_4 {y0 y1 y2 y3 : Int32} (B0 : oB y0) (B1 : oB y1) (B2 : oB y2) (B3 : oB y3) : (if oA ([y0, y1, y2, y3] : List Int32) = true then (1 : Int32) else 0) = spec3 (4 : Int32) y0 y1 y2 y3 := own_fin (n := 4) (by decide) _ rfl [y0, y1, y2, y3] (fun x hx => by simp at hx; rcases hx with rfl | rfl | rfl | rfl <;> assumption) rfl (fun _ => f8_0_4 y0 y1 y2 y3) (fun _ => f8_1_4 y0 y1 y2 y3) (fun _ => f8_2_4 y0 y1 y2 y3) (fun _ => f8_3_4 y0 y1 y2 y3)
theorem own_size {t : Term} {args : Array Value} {s : State} {x : Addr} {cl : Cell} (ht : t.eval args s none [] s = some (.ref x)) (ha : s.arrayAt? x = some cl) (h : (Term.length t).eval args s none [] s = some (.int 4)) : cl.slots.size = 4 := by
  by_cases hl : cl.slots.size < 2 ^ 31
  · rw [len_f ht ha hl] at h
    have q := Value.int.inj (Option.some.inj h)
    have e := len_toInt hl
    rw [q] at e
    have : (4 : Int32).toInt = 4 := rfl
    omega
  · simp [Term.eval, ht, ha, hl] at h
theorem own_four {c : Cell} {a b d f : Int32} (sz : c.slots.size = 4) (h0 : c.slots[(0 : Int32).toNatClampNeg]? = some (.int a)) (h1 : c.slots[(1 : Int32).toNatClampNeg]? = some (.int b)) (h2 : c.slots[(2 : Int32).toNatClampNeg]? = some (.int d)) (h3 : c.slots[(3 : Int32).toNatClampNeg]? = some (.int f)) : c.slots = ([a, b, d, f].map Value.int).toArray := by
  apply Array.ext_getElem?
  intro i
  match i with
  | 0 => exact h0
  | 1 => exact h1
  | 2 => exact h2
  | 3 => exact h3
  | i + 4 => rw [Array.getElem?_eq_none (by omega)]; rfl
theorem own_n5 (k : Int32) : (¬ ((k &&& (2147483647 : Int32)) % (5 : Int32)) < 0) ∧ ¬ 4 < ((k &&& (2147483647 : Int32)) % (5 : Int32)) := by
  have h1 := c_mask k 2147483647 31 (by decide) (by decide)
  have h2 := (c_irem (k &&& (2147483647 : Int32)) 5 5 rfl).1 (by omega)
  generalize ((k &&& (2147483647 : Int32)) % (5 : Int32)) = u at *
  have o0 : (0 : Int32).toInt = 0 := rfl
  have o4 : (4 : Int32).toInt = 4 := rfl
  constructor <;> intro q <;> have := own_lti.mp q <;> omega
theorem own_m255 (x : Int32) : oB (x &&& (255 : Int32)) := by
  have h1 := c_mask x 255 8 (by decide) (by decide)
  exact ⟨by omega, by omega⟩
theorem own_five {n : Int32} (h0 : ¬ n < 0) (h : ¬ 4 < n) : n = 0 ∨ n = 1 ∨ n = 2 ∨ n = 3 ∨ n = 4 := by
  have o0 : (0 : Int32).toInt = 0 := rfl
  have o1 : (1 : Int32).toInt = 1 := rfl
  have o2 : (2 : Int32).toInt = 2 := rfl
  have o3 : (3 : Int32).toInt = 3 := rfl
  have o4 : (4 : Int32).toInt = 4 := rfl
  rw [own_lti] at h0 h
  simp only [← Int32.toInt_inj]
  omega
theorem own_m3 {nn b0 b1 b2 b3 : Int32} (B0 : oB b0) (B1 : oB b1) (B2 : oB b2) (B3 : oB b3) (hn0 : ¬ nn < 0) (hn : ¬ 4 < nn) {cp1 k1 g1 z1 cp2 k2 g2 z2 cp3 k3 g3 z3 cp4 k4 g4 z4 : Int32} (hcp1 : cp1 = (if 0 < nn then (fld7_codePoint b0 (0 : Int32) (0 : Int32)) else (0 : Int32))) (hk1 : k1 = (if 0 < nn then (fld7_lacking b0 (0 : Int32)) else (0 : Int32))) (hg1 : g1 = (if 0 < nn then (fld7_given b0 (0 : Int32) (0 : Int32)) else (0 : Int32))) (hz1 : z1 = (if 0 < nn then (fld7_malformed b0 (0 : Int32) (0 : Int32) (0 : Int32) (0 : Int32)) else (0 : Int32))) (hcp2 : cp2 = (if (1 : Int32) < nn then (fld7_codePoint b1 cp1 k1) else cp1)) (hk2 : k2 = (if (1 : Int32) < nn then (fld7_lacking b1 k1) else k1)) (hg2 : g2 = (if (1 : Int32) < nn then (fld7_given b1 k1 g1) else g1)) (hz2 : z2 = (if (1 : Int32) < nn then (fld7_malformed b1 cp1 k1 g1 z1) else z1)) (hcp3 : cp3 = (if (2 : Int32) < nn then (fld7_codePoint b2 cp2 k2) else cp2)) (hk3 : k3 = (if (2 : Int32) < nn then (fld7_lacking b2 k2) else k2)) (hg3 : g3 = (if (2 : Int32) < nn then (fld7_given b2 k2 g2) else g2)) (hz3 : z3 = (if (2 : Int32) < nn then (fld7_malformed b2 cp2 k2 g2 z2) else z2)) (hcp4 : cp4 = (if (3 : Int32) < nn then (fld7_codePoint b3 cp3 k3) else cp3)) (hk4 : k4 = (if (3 : Int32) < nn then (fld7_lacking b3 k3) else k3)) (hg4 : g4 = (if (3 : Int32) < nn then (fld7_given b3 k3 g3) else g3)) (hz4 : z4 = (if (3 : Int32) < nn then (fld7_malformed b3 cp3 k3 g3 z3) else z3)) : spec5 k4 z4 = spec3 nn b0 b1 b2 b3 := by
  rcases own_five hn0 hn with rfl | rfl | rfl | rfl | rfl
  · rw [if_neg (by decide)] at hcp1
    rw [if_neg (by decide)] at hk1
    rw [if_neg (by decide)] at hg1
    rw [if_neg (by decide)] at hz1
    rw [if_neg (by decide)] at hcp2
    rw [if_neg (by decide)] at hk2
    rw [if_neg (by decide)] at hg2
    rw [if_neg (by decide)] at hz2
    rw [if_neg (by decide)] at hcp3
    rw [if_neg (by decide)] at hk3
    rw [if_neg (by decide)] at hg3
    rw [if_neg (by decide)] at hz3
    rw [if_neg (by decide)] at hcp4
    rw [if_neg (by decide)] at hk4
    rw [if_neg (by decide)] at hg4
    rw [if_neg (by decide)] at hz4
    subst hz4 hg4 hk4 hcp4 hz3 hg3 hk3 hcp3 hz2 hg2 hk2 hcp2 hz1 hg1 hk1 hcp1
    rw [end_eq]
    have Q := fin_0 B0 B1 B2 B3
    unfold oA at Q
    rw [acc_nil] at Q
    exact Q
  · rw [if_pos (by decide)] at hcp1
    rw [if_pos (by decide)] at hk1
    rw [if_pos (by decide)] at hg1
    rw [if_pos (by decide)] at hz1
    rw [if_neg (by decide)] at hcp2
    rw [if_neg (by decide)] at hk2
    rw [if_neg (by decide)] at hg2
    rw [if_neg (by decide)] at hz2
    rw [if_neg (by decide)] at hcp3
    rw [if_neg (by decide)] at hk3
    rw [if_neg (by decide)] at hg3
    rw [if_neg (by decide)] at hz3
    rw [if_neg (by decide)] at hcp4
    rw [if_neg (by decide)] at hk4
    rw [if_neg (by decide)] at hg4
    rw [if_neg (by decide)] at hz4
    subst hz4 hg4 hk4 hcp4 hz3 hg3 hk3 hcp3 hz2 hg2 hk2 hcp2 hz1 hg1 hk1 hcp1
    rw [end_eq]
    have Q := fin_1 B0 B1 B2 B3
    unfold oA at Q
    rw [acc_cons, acc_nil] at Q
    exact Q
  · rw [if_pos (by decide)] at hcp1
    rw [if_pos (by decide)] at hk1
    rw [if_pos (by decide)] at hg1
    rw [if_pos (by decide)] at hz1
    rw [if_pos (by decide)] at hcp2
    rw [if_pos (by decide)] at hk2
    rw [if_pos (by decide)] at hg2
    rw [if_pos (by decide)] at hz2
    rw [if_neg (by decide)] at hcp3
    rw [if_neg (by decide)] at hk3
    rw [if_neg (by decide)] at hg3
    rw [if_neg (by decide)] at hz3
    rw [if_neg (by decide)] at hcp4
    rw [if_neg (by decide)] at hk4
    rw [if_neg (by decide)] at hg4
    rw [if_neg (by decide)] at hz4
    subst hz4 hg4 hk4 hcp4 hz3 hg3 hk3 hcp3 hz2 hg2 hk2 hcp2 hz1 hg1 hk1 hcp1
    rw [end_eq]
    have Q := fin_2 B0 B1 B2 B3
    unfold oA at Q
    rw [acc_cons, acc_cons, acc_nil] at Q
    exact Q
  · rw [if_pos (by decide)] at hcp1
    rw [if_pos (by decide)] at hk1
    rw [if_pos (by decide)] at hg1
    rw [if_pos (by decide)] at hz1
    rw [if_pos (by decide)] at hcp2
    rw [if_pos (by decide)] at hk2
    rw [if_pos (by decide)] at hg2
    rw [if_pos (by decide)] at hz2
    rw [if_pos (by decide)] at hcp3
    rw [if_pos (by decide)] at hk3
    rw [if_pos (by decide)] at hg3
    rw [if_pos (by decide)] at hz3
    rw [if_neg (by decide)] at hcp4
    rw [if_neg (by decide)] at hk4
    rw [if_neg (by decide)] at hg4
    rw [if_neg (by decide)] at hz4
    subst hz4 hg4 hk4 hcp4 hz3 hg3 hk3 hcp3 hz2 hg2 hk2 hcp2 hz1 hg1 hk1 hcp1
    rw [end_eq]
    have Q := fin_3 B0 B1 B2 B3
    unfold oA at Q
    rw [acc_cons, acc_cons, acc_cons, acc_nil] at Q
    exact Q
  · rw [if_pos (by decide)] at hcp1
    rw [if_pos (by decide)] at hk1
    rw [if_pos (by decide)] at hg1
    rw [if_pos (by decide)] at hz1
    rw [if_pos (by decide)] at hcp2
    rw [if_pos (by decide)] at hk2
    rw [if_pos (by decide)] at hg2
    rw [if_pos (by decide)] at hz2
    rw [if_pos (by decide)] at hcp3
    rw [if_pos (by decide)] at hk3
    rw [if_pos (by decide)] at hg3
    rw [if_pos (by decide)] at hz3
    rw [if_pos (by decide)] at hcp4
    rw [if_pos (by decide)] at hk4
    rw [if_pos (by decide)] at hg4
    rw [if_pos (by decide)] at hz4
    subst hz4 hg4 hk4 hcp4 hz3 hg3 hk3 hcp3 hz2 hg2 hk2 hcp2 hz1 hg1 hk1 hcp1
    rw [end_eq]
    have Q := fin_4 B0 B1 B2 B3
    unfold oA at Q
    rw [acc_cons, acc_cons, acc_cons, acc_cons, acc_nil] at Q
    exact Q
theorem ef_0 (m : MethodId) (x0 : Int32) (x1 : Int32) (x2 : Int32) (x3 : Int32) (x4 : Int32) : entryFrame m #[(.int x0), (.int x1), (.int x2), (.int x3), (.int x4)] maxLocals = mkF m 0 #[.val (.int x0), .val (.int x1), .val (.int x2), .val (.int x3), .val (.int x4), .unset, .unset, .unset, .unset, .unset, .unset, .unset] [] := by first | (simp [entryFrame, mkF, argsToLocals, Value.category, maxLocals]; done) | rfl
theorem pd2 : parseMethodDescriptor "()V" = some ⟨[], none⟩ := by decide +kernel
theorem pd3 : parseMethodDescriptor "(I)I" = some ⟨[.int], (some .int)⟩ := by decide +kernel
theorem pd4 : parseMethodDescriptor "([II)Z" = some ⟨[(.array .int), .int], (some .boolean)⟩ := by decide +kernel
theorem pd5 : parseMethodDescriptor "()Z" = some ⟨[], (some .boolean)⟩ := by decide +kernel
theorem pd6 : parseMethodDescriptor "()I" = some ⟨[], (some .int)⟩ := by decide +kernel

set_option maxRecDepth 65536 in
set_option maxHeartbeats 40000000 in
theorem rm0 (l : Launch) (Z : State) (a0 : Array Value) (hw : ∀ d ∈ tables_1, d.before a0 Z = true) (x0 : Int32) (x1 : Int32) (x2 : Int32) (x3 : Int32) (x4 : Int32) (r_LEAST : Addr) (h0 : Heap) (n0 : Nat) (Z0 : n0 ≤ h0.size) (O0 : Old Z n0 h0) (S_LEAST : Sta Z Z.heap "com/example/harborlog/harborlog/Utf8Decoder" "LEAST" "[I" (.ref r_LEAST)) (A_LEAST : oInts Z Z.heap r_LEAST [(0 : Int32), 128, 2048, 65536]) :
    oCon l Z x code maxLocals ret room_1 #[(.int x0), (.int x1), (.int x2), (.int x3), (.int x4)] h0 (fun v h L => v = some (.int 1) ∧ Fr n0 L) := by
  refine oCon.of (plainFor_of_name pn_9) ?_
  intro p e s m below meth c s₁ hx hby hml hown hnm hret hlk hZ X0 e0
  replace hml : c.maxLocals = 12 := hml
  rw [ef_0 m x0 x1 x2 x3 x4]
  have N0 := Fr.nil n0
  refine o_iconst (pc' := 1) (v := (4 : Int32)) X0 hx (hb hby at_0) rfl rfl ?_
  obtain ⟨T1, h1_, X1, e1, E1, A1, st1⟩ := o_newI (Ls := #[.val (.int x0), .val (.int x1), .val (.int x2), .val (.int x3), .val (.int x4), .unset, .unset, .unset, .unset, .unset, .unset, .unset]) (st := []) (n := (4 : Int32)) X0 hx hZ (hw _ (List.mem_of_getElem? (i := 0) rfl)) e0 (hb hby at_1) (by decide) 4 (by decide) (by decide) (by decide) (by decide) rfl
  obtain ⟨b1, g1⟩ : ∃ z, z = h0.size := ⟨_, rfl⟩
  rw [← g1] at A1 st1
  replace A1 : oInts Z h1_ b1 [(0 : Int32), (0 : Int32), (0 : Int32), (0 : Int32)] := A1
  have ge2 : n0 ≤ b1 := by rw [g1]; exact Z0
  have K3 := (Keep.refl h0 []).ext E1
  have F4 := O0.keep K3 all0
  have Z7 := Nat.le_trans Z0 K3.1
  refine oGo.step (f' := (mkF m 3 #[.val (.int x0), .val (.int x1), .val (.int x2), .val (.int x3), .val (.int x4), .unset, .unset, .unset, .unset, .unset, .unset, .unset] [(.ref b1)])) st1 ?_
  refine o_dup (pc' := 4) X1 hx (hb hby at_3) rfl rfl ?_
  refine o_iconst (pc' := 5) (v := (0 : Int32)) X1 hx (hb hby at_4) rfl rfl ?_
  refine o_iloadN (pc' := 6) X1 hx (hb hby at_5) rfl rfl ?_
  refine o_sipush (pc' := 9) (v := (255 : Int32)) X1 hx (hb hby at_6) rfl rfl ?_
  refine o_iand (pc' := 10) X1 hx (hb hby at_9)  rfl ?_
  obtain ⟨T8, h8_, X8, e8, W8, st8⟩ := o_iastore (x := (x0 &&& (255 : Int32))) (j := (0 : Int32)) (Ls := #[.val (.int x0), .val (.int x1), .val (.int x2), .val (.int x3), .val (.int x4), .unset, .unset, .unset, .unset, .unset, .unset, .unset]) (st := [(.ref b1)]) X1 hx hZ e1 A1 (hb hby at_10) (by decide) (show _ < 4 by decide) rfl
  refine oGo.step (f' := (mkF m 11 #[.val (.int x0), .val (.int x1), .val (.int x2), .val (.int x3), .val (.int x4), .unset, .unset, .unset, .unset, .unset, .unset, .unset] [(.ref b1)])) st8 ?_
  have N8 := Fr.snoc X8 N0 ge2
  have F9 := A1.set W8
  replace F9 : oInts Z h8_ b1 [(x0 &&& (255 : Int32)), (0 : Int32), (0 : Int32), (0 : Int32)] := F9
  have K10 := Keep.of_wr W8
  have F11 := F4.keep K10 (allS ge2 all0)
  have Z14 := Nat.le_trans Z7 K10.1
  refine o_dup (pc' := 12) X8 hx (hb hby at_11) rfl rfl ?_
  refine o_iconst (pc' := 13) (v := (1 : Int32)) X8 hx (hb hby at_12) rfl rfl ?_
  refine o_iloadN (pc' := 14) X8 hx (hb hby at_13) rfl rfl ?_
  refine o_sipush (pc' := 17) (v := (255 : Int32)) X8 hx (hb hby at_14) rfl rfl ?_
  refine o_iand (pc' := 18) X8 hx (hb hby at_17)  rfl ?_
  obtain ⟨T15, h15_, X15, e15, W15, st15⟩ := o_iastore (x := (x1 &&& (255 : Int32))) (j := (1 : Int32)) (Ls := #[.val (.int x0), .val (.int x1), .val (.int x2), .val (.int x3), .val (.int x4), .unset, .unset, .unset, .unset, .unset, .unset, .unset]) (st := [(.ref b1)]) X8 hx hZ e8 F9 (hb hby at_18) (by decide) (show _ < 4 by decide) rfl
  refine oGo.step (f' := (mkF m 19 #[.val (.int x0), .val (.int x1), .val (.int x2), .val (.int x3), .val (.int x4), .unset, .unset, .unset, .unset, .unset, .unset, .unset] [(.ref b1)])) st15 ?_
  have N15 := Fr.snoc X15 N8 ge2
  have F16 := F9.set W15
  replace F16 : oInts Z h15_ b1 [(x0 &&& (255 : Int32)), (x1 &&& (255 : Int32)), (0 : Int32), (0 : Int32)] := F16
  have K17 := Keep.of_wr W15
  have F18 := F11.keep K17 (allS ge2 all0)
  have Z21 := Nat.le_trans Z14 K17.1
  refine o_dup (pc' := 20) X15 hx (hb hby at_19) rfl rfl ?_
  refine o_iconst (pc' := 21) (v := (2 : Int32)) X15 hx (hb hby at_20) rfl rfl ?_
  refine o_iloadN (pc' := 22) X15 hx (hb hby at_21) rfl rfl ?_
  refine o_sipush (pc' := 25) (v := (255 : Int32)) X15 hx (hb hby at_22) rfl rfl ?_
  refine o_iand (pc' := 26) X15 hx (hb hby at_25)  rfl ?_
  obtain ⟨T22, h22_, X22, e22, W22, st22⟩ := o_iastore (x := (x2 &&& (255 : Int32))) (j := (2 : Int32)) (Ls := #[.val (.int x0), .val (.int x1), .val (.int x2), .val (.int x3), .val (.int x4), .unset, .unset, .unset, .unset, .unset, .unset, .unset]) (st := [(.ref b1)]) X15 hx hZ e15 F16 (hb hby at_26) (by decide) (show _ < 4 by decide) rfl
  refine oGo.step (f' := (mkF m 27 #[.val (.int x0), .val (.int x1), .val (.int x2), .val (.int x3), .val (.int x4), .unset, .unset, .unset, .unset, .unset, .unset, .unset] [(.ref b1)])) st22 ?_
  have N22 := Fr.snoc X22 N15 ge2
  have F23 := F16.set W22
  replace F23 : oInts Z h22_ b1 [(x0 &&& (255 : Int32)), (x1 &&& (255 : Int32)), (x2 &&& (255 : Int32)), (0 : Int32)] := F23
  have K24 := Keep.of_wr W22
  have F25 := F18.keep K24 (allS ge2 all0)
  have Z28 := Nat.le_trans Z21 K24.1
  refine o_dup (pc' := 28) X22 hx (hb hby at_27) rfl rfl ?_
  refine o_iconst (pc' := 29) (v := (3 : Int32)) X22 hx (hb hby at_28) rfl rfl ?_
  refine o_iloadN (pc' := 30) X22 hx (hb hby at_29) rfl rfl ?_
  refine o_sipush (pc' := 33) (v := (255 : Int32)) X22 hx (hb hby at_30) rfl rfl ?_
  refine o_iand (pc' := 34) X22 hx (hb hby at_33)  rfl ?_
  obtain ⟨T29, h29_, X29, e29, W29, st29⟩ := o_iastore (x := (x3 &&& (255 : Int32))) (j := (3 : Int32)) (Ls := #[.val (.int x0), .val (.int x1), .val (.int x2), .val (.int x3), .val (.int x4), .unset, .unset, .unset, .unset, .unset, .unset, .unset]) (st := [(.ref b1)]) X22 hx hZ e22 F23 (hb hby at_34) (by decide) (show _ < 4 by decide) rfl
  refine oGo.step (f' := (mkF m 35 #[.val (.int x0), .val (.int x1), .val (.int x2), .val (.int x3), .val (.int x4), .unset, .unset, .unset, .unset, .unset, .unset, .unset] [(.ref b1)])) st29 ?_
  have N29 := Fr.snoc X29 N22 ge2
  have F30 := F23.set W29
  replace F30 : oInts Z h29_ b1 [(x0 &&& (255 : Int32)), (x1 &&& (255 : Int32)), (x2 &&& (255 : Int32)), (x3 &&& (255 : Int32))] := F30
  have K31 := Keep.of_wr W29
  have F32 := F25.keep K31 (allS ge2 all0)
  have Z35 := Nat.le_trans Z28 K31.1
  refine o_astore (pc' := 37) (l' := #[.val (.int x0), .val (.int x1), .val (.int x2), .val (.int x3), .val (.int x4), .val (.ref b1), .unset, .unset, .unset, .unset, .unset, .unset]) X29 hx (hb hby at_35) rfl rfl rfl ?_
  refine o_iload (pc' := 39) X29 hx (hb hby at_37) rfl rfl ?_
  refine o_ldc (pc' := 41) (v := (2147483647 : Int32)) X29 hx hZ hown (hw _ (List.mem_of_getElem? (i := 1) rfl)) (hb hby at_39) rfl ?_
  refine o_iand (pc' := 42) X29 hx (hb hby at_41)  rfl ?_
  refine o_iconst (pc' := 43) (v := (5 : Int32)) X29 hx (hb hby at_42) rfl rfl ?_
  refine o_irem (pc' := 44) X29 hx (hb hby at_43) (by decide) rfl ?_
  refine o_istore (pc' := 46) (l' := #[.val (.int x0), .val (.int x1), .val (.int x2), .val (.int x3), .val (.int x4), .val (.ref b1), .val (.int ((x4 &&& (2147483647 : Int32)) % (5 : Int32))), .unset, .unset, .unset, .unset, .unset]) X29 hx (hb hby at_44) rfl rfl ?_
  obtain ⟨hn0, hn⟩ := own_n5 x4
  generalize hg_n : ((x4 &&& (2147483647 : Int32)) % (5 : Int32)) = nn at hn0 hn ⊢
  obtain ⟨T36, h36_, X36, e36, E36, A36, D36, -, st36⟩ := newO X29 hx hZ hown (hw _ (List.mem_of_getElem? (i := 2) rfl)) (hw _ (List.mem_of_getElem? (i := 3) rfl)) (hw _ (List.mem_of_getElem? (i := 4) rfl)) e29 (g := (mkF m 46 #[.val (.int x0), .val (.int x1), .val (.int x2), .val (.int x3), .val (.int x4), .val (.ref b1), .val (.int nn), .unset, .unset, .unset, .unset, .unset] [])) rfl (hb hby at_46) (by decide) (by decide)
  obtain ⟨b36, g36⟩ : ∃ z, z = h29_.size := ⟨_, rfl⟩
  rw [← g36] at A36 D36 st36
  have ne37 : b1 ≠ b36 := by rw [g36]; exact Nat.ne_of_lt F30.lt
  have ge38 : n0 ≤ b36 := by rw [g36]; exact Z35
  have K39 := (Keep.refl h29_ []).ext E36
  have F40 := F32.keep K39 all0
  have F43 := F30.keep K39 nin0
  have Z44 := Nat.le_trans Z35 K39.1
  have F45 : Fld Z h36_ b36 "com/example/harborlog/harborlog/Utf8Decoder" "malformed" "Z" (.int (0 : Int32)) := D36 (Or.inl (hw _ (List.mem_of_getElem? (i := 24) rfl))) (ty := .boolean) (by decide)
  have F46 : Fld Z h36_ b36 "com/example/harborlog/harborlog/Utf8Decoder" "lacking" "I" (.int (0 : Int32)) := D36 (Or.inl (hw _ (List.mem_of_getElem? (i := 26) rfl))) (ty := .int) (by decide)
  have F47 : Fld Z h36_ b36 "com/example/harborlog/harborlog/Utf8Decoder" "codePoint" "I" (.int (0 : Int32)) := D36 (Or.inl (hw _ (List.mem_of_getElem? (i := 28) rfl))) (ty := .int) (by decide)
  have F48 : Fld Z h36_ b36 "com/example/harborlog/harborlog/Utf8Decoder" "given" "I" (.int (0 : Int32)) := D36 (Or.inl (hw _ (List.mem_of_getElem? (i := 30) rfl))) (ty := .int) (by decide)
  refine oGo.step (f' := (mkF m 49 #[.val (.int x0), .val (.int x1), .val (.int x2), .val (.int x3), .val (.int x4), .val (.ref b1), .val (.int nn), .unset, .unset, .unset, .unset, .unset] [(.ref b36)])) st36 ?_
  refine o_dup (pc' := 50) X36 hx (hb hby at_49) rfl rfl ?_
  obtain ⟨r49, T49, L49, X49, hq49, st49⟩ := o_callN X36 hx hZ hown rfl (hw _ (List.mem_of_getElem? (i := 5) rfl)) (hw _ (List.mem_of_getElem? (i := 6) rfl)) (hw _ (List.mem_of_getElem? (i := 4) rfl)) (hw _ (List.mem_of_getElem? (i := 7) rfl)) (by decide) (rm1 l Z a0 hw b36 h36_ n0 Z44 ) e36 (pc' := 53) (Ls := #[.val (.int x0), .val (.int x1), .val (.int x2), .val (.int x3), .val (.int x4), .val (.ref b1), .val (.int nn), .unset, .unset, .unset, .unset, .unset]) (by rw [hml]; rfl) [] [(.ref b36)] rfl pd2 rfl rfl 1 (Nat.le_of_eq rfl) (hb hby at_50) rfl (by decide) (by decide) (by decide) (by decide)
  obtain ⟨rfl, rfl, Kc49⟩ := hq49
  refine oGo.step (f' := (mkF m 53 #[.val (.int x0), .val (.int x1), .val (.int x2), .val (.int x3), .val (.int x4), .val (.ref b1), .val (.int nn), .unset, .unset, .unset, .unset, .unset] [(.ref b36)])) st49 ?_
  have e49 : T49.heap = h36_ := Kc49
  have X49 := o_same X49 rfl rfl
  refine o_astore (pc' := 55) (l' := #[.val (.int x0), .val (.int x1), .val (.int x2), .val (.int x3), .val (.int x4), .val (.ref b1), .val (.int nn), .val (.ref b36), .unset, .unset, .unset, .unset]) X49 hx (hb hby at_53) rfl rfl rfl ?_
  refine o_iload (pc' := 57) X49 hx (hb hby at_55) rfl rfl ?_
  have J51 : ∀ (T82 : State) (h82_ : Heap) (L82 : List Loc) (X82 : Stand p l e room_1 s m #[(.int x0), (.int x1), (.int x2), (.int x3), (.int x4)] below meth c T82 L82 (0 + 1 + 1) (0 + 4 + 4)) (e82 : T82.heap = h82_) (N82 : Fr n0 L82) (Z82 : n0 ≤ h82_.size) (v75 : Int32) (v77 : Int32) (v79 : Int32) (v81 : Int32), v75 = (if 0 < nn then (fld7_codePoint (x0 &&& (255 : Int32)) (0 : Int32) (0 : Int32)) else (0 : Int32)) → v77 = (if 0 < nn then (fld7_lacking (x0 &&& (255 : Int32)) (0 : Int32)) else (0 : Int32)) → v79 = (if 0 < nn then (fld7_given (x0 &&& (255 : Int32)) (0 : Int32) (0 : Int32)) else (0 : Int32)) → v81 = (if 0 < nn then (fld7_malformed (x0 &&& (255 : Int32)) (0 : Int32) (0 : Int32) (0 : Int32) (0 : Int32)) else (0 : Int32)) → Old Z n0 h82_ → oInts Z h82_ b1 [(x0 &&& (255 : Int32)), (x1 &&& (255 : Int32)), (x2 &&& (255 : Int32)), (x3 &&& (255 : Int32))] → Exa Z h82_ b36 "com/example/harborlog/harborlog/Utf8Decoder" → oInv v77 v79 v81 → Fld Z h82_ b36 "com/example/harborlog/harborlog/Utf8Decoder" "codePoint" "I" (.int v75) → Fld Z h82_ b36 "com/example/harborlog/harborlog/Utf8Decoder" "lacking" "I" (.int v77) → Fld Z h82_ b36 "com/example/harborlog/harborlog/Utf8Decoder" "given" "I" (.int v79) → Fld Z h82_ b36 "com/example/harborlog/harborlog/Utf8Decoder" "malformed" "Z" (.int v81) → oGo p e below (oG s (fun v h L => v = some (.int 1) ∧ Fr n0 L) room_1.cells room_1.slots) T82 (mkF m 70 #[.val (.int x0), .val (.int x1), .val (.int x2), .val (.int x3), .val (.int x4), .val (.ref b1), .val (.int nn), .val (.ref b36), .unset, .unset, .unset, .unset] []) := by
    intro T82 h82_ L82 X82 e82 N82 Z82 v75 v77 v79 v81 hv75 hv77 hv79 hv81 F70 F71 F72 F73 F74 F76 F78 F80
    refine o_iload (pc' := 72) X82 hx (hb hby at_70) rfl rfl ?_
    refine o_iconst (pc' := 73) (v := (1 : Int32)) X82 hx (hb hby at_72) rfl rfl ?_
    have J84 : ∀ (T115 : State) (h115_ : Heap) (L115 : List Loc) (X115 : Stand p l e room_1 s m #[(.int x0), (.int x1), (.int x2), (.int x3), (.int x4)] below meth c T115 L115 (0 + 1 + 1) (0 + 4 + 4)) (e115 : T115.heap = h115_) (N115 : Fr n0 L115) (Z115 : n0 ≤ h115_.size) (v108 : Int32) (v110 : Int32) (v112 : Int32) (v114 : Int32), v108 = (if (1 : Int32) < nn then (fld7_codePoint (x1 &&& (255 : Int32)) v75 v77) else v75) → v110 = (if (1 : Int32) < nn then (fld7_lacking (x1 &&& (255 : Int32)) v77) else v77) → v112 = (if (1 : Int32) < nn then (fld7_given (x1 &&& (255 : Int32)) v77 v79) else v79) → v114 = (if (1 : Int32) < nn then (fld7_malformed (x1 &&& (255 : Int32)) v75 v77 v79 v81) else v81) → Old Z n0 h115_ → oInts Z h115_ b1 [(x0 &&& (255 : Int32)), (x1 &&& (255 : Int32)), (x2 &&& (255 : Int32)), (x3 &&& (255 : Int32))] → Exa Z h115_ b36 "com/example/harborlog/harborlog/Utf8Decoder" → oInv v110 v112 v114 → Fld Z h115_ b36 "com/example/harborlog/harborlog/Utf8Decoder" "codePoint" "I" (.int v108) → Fld Z h115_ b36 "com/example/harborlog/harborlog/Utf8Decoder" "lacking" "I" (.int v110) → Fld Z h115_ b36 "com/example/harborlog/harborlog/Utf8Decoder" "given" "I" (.int v112) → Fld Z h115_ b36 "com/example/harborlog/harborlog/Utf8Decoder" "malformed" "Z" (.int v114) → oGo p e below (oG s (fun v h L => v = some (.int 1) ∧ Fr n0 L) room_1.cells room_1.slots) T115 (mkF m 86 #[.val (.int x0), .val (.int x1), .val (.int x2), .val (.int x3), .val (.int x4), .val (.ref b1), .val (.int nn), .val (.ref b36), .unset, .unset, .unset, .unset] []) := by
      intro T115 h115_ L115 X115 e115 N115 Z115 v108 v110 v112 v114 hv108 hv110 hv112 hv114 F103 F104 F105 F106 F107 F109 F111 F113
      refine o_iload (pc' := 88) X115 hx (hb hby at_86) rfl rfl ?_
      refine o_iconst (pc' := 89) (v := (2 : Int32)) X115 hx (hb hby at_88) rfl rfl ?_
      have J117 : ∀ (T148 : State) (h148_ : Heap) (L148 : List Loc) (X148 : Stand p l e room_1 s m #[(.int x0), (.int x1), (.int x2), (.int x3), (.int x4)] below meth c T148 L148 (0 + 1 + 1) (0 + 4 + 4)) (e148 : T148.heap = h148_) (N148 : Fr n0 L148) (Z148 : n0 ≤ h148_.size) (v141 : Int32) (v143 : Int32) (v145 : Int32) (v147 : Int32), v141 = (if (2 : Int32) < nn then (fld7_codePoint (x2 &&& (255 : Int32)) v108 v110) else v108) → v143 = (if (2 : Int32) < nn then (fld7_lacking (x2 &&& (255 : Int32)) v110) else v110) → v145 = (if (2 : Int32) < nn then (fld7_given (x2 &&& (255 : Int32)) v110 v112) else v112) → v147 = (if (2 : Int32) < nn then (fld7_malformed (x2 &&& (255 : Int32)) v108 v110 v112 v114) else v114) → Old Z n0 h148_ → oInts Z h148_ b1 [(x0 &&& (255 : Int32)), (x1 &&& (255 : Int32)), (x2 &&& (255 : Int32)), (x3 &&& (255 : Int32))] → Exa Z h148_ b36 "com/example/harborlog/harborlog/Utf8Decoder" → oInv v143 v145 v147 → Fld Z h148_ b36 "com/example/harborlog/harborlog/Utf8Decoder" "codePoint" "I" (.int v141) → Fld Z h148_ b36 "com/example/harborlog/harborlog/Utf8Decoder" "lacking" "I" (.int v143) → Fld Z h148_ b36 "com/example/harborlog/harborlog/Utf8Decoder" "given" "I" (.int v145) → Fld Z h148_ b36 "com/example/harborlog/harborlog/Utf8Decoder" "malformed" "Z" (.int v147) → oGo p e below (oG s (fun v h L => v = some (.int 1) ∧ Fr n0 L) room_1.cells room_1.slots) T148 (mkF m 102 #[.val (.int x0), .val (.int x1), .val (.int x2), .val (.int x3), .val (.int x4), .val (.ref b1), .val (.int nn), .val (.ref b36), .unset, .unset, .unset, .unset] []) := by
        intro T148 h148_ L148 X148 e148 N148 Z148 v141 v143 v145 v147 hv141 hv143 hv145 hv147 F136 F137 F138 F139 F140 F142 F144 F146
        refine o_iload (pc' := 104) X148 hx (hb hby at_102) rfl rfl ?_
        refine o_iconst (pc' := 105) (v := (3 : Int32)) X148 hx (hb hby at_104) rfl rfl ?_
        have J150 : ∀ (T181 : State) (h181_ : Heap) (L181 : List Loc) (X181 : Stand p l e room_1 s m #[(.int x0), (.int x1), (.int x2), (.int x3), (.int x4)] below meth c T181 L181 (0 + 1 + 1) (0 + 4 + 4)) (e181 : T181.heap = h181_) (N181 : Fr n0 L181) (Z181 : n0 ≤ h181_.size) (v174 : Int32) (v176 : Int32) (v178 : Int32) (v180 : Int32), v174 = (if (3 : Int32) < nn then (fld7_codePoint (x3 &&& (255 : Int32)) v141 v143) else v141) → v176 = (if (3 : Int32) < nn then (fld7_lacking (x3 &&& (255 : Int32)) v143) else v143) → v178 = (if (3 : Int32) < nn then (fld7_given (x3 &&& (255 : Int32)) v143 v145) else v145) → v180 = (if (3 : Int32) < nn then (fld7_malformed (x3 &&& (255 : Int32)) v141 v143 v145 v147) else v147) → Old Z n0 h181_ → oInts Z h181_ b1 [(x0 &&& (255 : Int32)), (x1 &&& (255 : Int32)), (x2 &&& (255 : Int32)), (x3 &&& (255 : Int32))] → Exa Z h181_ b36 "com/example/harborlog/harborlog/Utf8Decoder" → oInv v176 v178 v180 → Fld Z h181_ b36 "com/example/harborlog/harborlog/Utf8Decoder" "codePoint" "I" (.int v174) → Fld Z h181_ b36 "com/example/harborlog/harborlog/Utf8Decoder" "lacking" "I" (.int v176) → Fld Z h181_ b36 "com/example/harborlog/harborlog/Utf8Decoder" "given" "I" (.int v178) → Fld Z h181_ b36 "com/example/harborlog/harborlog/Utf8Decoder" "malformed" "Z" (.int v180) → oGo p e below (oG s (fun v h L => v = some (.int 1) ∧ Fr n0 L) room_1.cells room_1.slots) T181 (mkF m 118 #[.val (.int x0), .val (.int x1), .val (.int x2), .val (.int x3), .val (.int x4), .val (.ref b1), .val (.int nn), .val (.ref b36), .unset, .unset, .unset, .unset] []) := by
          intro T181 h181_ L181 X181 e181 N181 Z181 v174 v176 v178 v180 hv174 hv176 hv178 hv180 F169 F170 F171 F172 F173 F175 F177 F179
          refine o_aload (pc' := 120) X181 hx (hb hby at_118) rfl rfl rfl ?_
          refine o_iload (pc' := 122) X181 hx (hb hby at_120) rfl rfl ?_
          obtain ⟨r182, T182, L182, X182, hq182, st182⟩ := o_callS X181 hx hZ hown (hw _ (List.mem_of_getElem? (i := 11) rfl)) (hw _ (List.mem_of_getElem? (i := 12) rfl)) (hw _ (List.mem_of_getElem? (i := 13) rfl)) (hw _ (List.mem_of_getElem? (i := 14) rfl)) (by decide) (rm3 l Z a0 hw b1 nn (x0 &&& (255 : Int32)) (x1 &&& (255 : Int32)) (x2 &&& (255 : Int32)) (x3 &&& (255 : Int32)) h181_ n0 Z181 F170 hn) e181 (pc' := 125) (Ls := #[.val (.int x0), .val (.int x1), .val (.int x2), .val (.int x3), .val (.int x4), .val (.ref b1), .val (.int nn), .val (.ref b36), .unset, .unset, .unset, .unset]) (by rw [hml]; rfl) [(.ref b1), (.int nn)] [] rfl pd4 rfl rfl 0 (Nat.le_of_eq rfl) (hb hby at_122) rfl (by decide) (by decide) (by decide) (by decide)
          obtain ⟨rfl, rfl, Kc182⟩ := hq182
          obtain ⟨y183, hy183⟩ : ∃ z, z = (spec3 nn (x0 &&& (255 : Int32)) (x1 &&& (255 : Int32)) (x2 &&& (255 : Int32)) (x3 &&& (255 : Int32))) := ⟨_, rfl⟩
          rw [← hy183] at st182
          refine oGo.step (f' := (mkF m 125 #[.val (.int x0), .val (.int x1), .val (.int x2), .val (.int x3), .val (.int x4), .val (.ref b1), .val (.int nn), .val (.ref b36), .unset, .unset, .unset, .unset] [(.int y183)])) st182 ?_
          have e182 : T182.heap = h181_ := Kc182
          have X182 := o_same X182 rfl rfl
          refine o_istore (pc' := 127) (l' := #[.val (.int x0), .val (.int x1), .val (.int x2), .val (.int x3), .val (.int x4), .val (.ref b1), .val (.int nn), .val (.ref b36), .val (.int y183), .unset, .unset, .unset]) X182 hx (hb hby at_125) rfl rfl ?_
          refine o_aload (pc' := 129) X182 hx (hb hby at_127) rfl rfl rfl ?_
          obtain ⟨r184, T184, L184, X184, hq184, st184⟩ := o_callV X182 hx hZ hown (hw _ (List.mem_of_getElem? (i := 18) rfl)) (hw _ (List.mem_of_getElem? (i := 19) rfl)) (hw _ (List.mem_of_getElem? (i := 21) rfl)) (hw _ (List.mem_of_getElem? (i := 20) rfl)) (hw _ (List.mem_of_getElem? (i := 4) rfl)) (hw _ (List.mem_of_getElem? (i := 22) rfl)) (by decide) F171 (rm5 l Z a0 hw b36 v174 v176 v178 v180 h181_ n0 Z181 F171 F173 F175 F177 F179 ge38) e182 (pc' := 132) (Ls := #[.val (.int x0), .val (.int x1), .val (.int x2), .val (.int x3), .val (.int x4), .val (.ref b1), .val (.int nn), .val (.ref b36), .val (.int y183), .unset, .unset, .unset]) (by rw [hml]; rfl) [] [] rfl pd5 rfl rfl 0 (Nat.le_of_eq rfl) (hb hby at_129) rfl (by decide) (by decide) (by decide) (by decide)
          obtain ⟨rfl, N184, Kc184, E184_, F184_codePoint, F184_lacking, F184_given, F184_malformed⟩ := hq184
          obtain ⟨y185, hy185⟩ : ∃ z, z = (spec5 v176 v180) := ⟨_, rfl⟩
          rw [← hy185] at st184
          refine oGo.step (f' := (mkF m 132 #[.val (.int x0), .val (.int x1), .val (.int x2), .val (.int x3), .val (.int x4), .val (.ref b1), .val (.int nn), .val (.ref b36), .val (.int y183), .unset, .unset, .unset] [(.int y185)])) st184 ?_
          have N184_ := Fr.app N181 N184
          have K186 := Kc184
          have F187 := F169.keep K186 (allS ge38 all0)
          have F190 := F170.keep K186 (ninS ne37 nin0)
          have F191 := F171.keep K186
          have Z197 := Nat.le_trans Z181 K186.1
          have X184 := o_flat X184 rfl rfl
          refine o_istore (pc' := 134) (l' := #[.val (.int x0), .val (.int x1), .val (.int x2), .val (.int x3), .val (.int x4), .val (.ref b1), .val (.int nn), .val (.ref b36), .val (.int y183), .val (.int y185), .unset, .unset]) X184 hx (hb hby at_132) rfl rfl ?_
          have hE : y185 = y183 := by rw [hy185, hy183]; exact own_m3 (own_m255 x0) (own_m255 x1) (own_m255 x2) (own_m255 x3) hn0 hn hv75 hv77 hv79 hv81 hv108 hv110 hv112 hv114 hv141 hv143 hv145 hv147 hv174 hv176 hv178 hv180
          refine o_aload (pc' := 136) X184 hx (hb hby at_134) rfl rfl rfl ?_
          obtain ⟨r198, T198, L198, X198, hq198, st198⟩ := o_callV X184 hx hZ hown (hw _ (List.mem_of_getElem? (i := 31) rfl)) (hw _ (List.mem_of_getElem? (i := 32) rfl)) (hw _ (List.mem_of_getElem? (i := 34) rfl)) (hw _ (List.mem_of_getElem? (i := 33) rfl)) (hw _ (List.mem_of_getElem? (i := 4) rfl)) (hw _ (List.mem_of_getElem? (i := 35) rfl)) (by decide) E184_ (rm6 l Z a0 hw b36 (0 : Int32) T184.heap n0 Z197 E184_ F184_given) (rfl : T184.heap = _) (pc' := 139) (Ls := #[.val (.int x0), .val (.int x1), .val (.int x2), .val (.int x3), .val (.int x4), .val (.ref b1), .val (.int nn), .val (.ref b36), .val (.int y183), .val (.int y185), .unset, .unset]) (by rw [hml]; rfl) [] [] rfl pd6 rfl rfl 0 (Nat.le_of_eq rfl) (hb hby at_136) rfl (by decide) (by decide) (by decide) (by decide)
          obtain ⟨rfl, rfl, Kc198⟩ := hq198
          refine oGo.step (f' := (mkF m 139 #[.val (.int x0), .val (.int x1), .val (.int x2), .val (.int x3), .val (.int x4), .val (.ref b1), .val (.int nn), .val (.ref b36), .val (.int y183), .val (.int y185), .unset, .unset] [(.int (0 : Int32))])) st198 ?_
          have e198 : T198.heap = T184.heap := Kc198
          have X198 := o_same X198 rfl rfl
          refine o_ifF (pc' := 142) X198 hx (hb hby at_139) (XT.i0_ne_f (by decide)) rfl ?_
          refine o_iconst (pc' := 143) (v := (1 : Int32)) X198 hx (hb hby at_142) rfl rfl ?_
          refine o_goto (pc' := 147) X198 hx (hb hby at_143) (by decide) (by decide) ?_
          refine o_istore (pc' := 149) (l' := #[.val (.int x0), .val (.int x1), .val (.int x2), .val (.int x3), .val (.int x4), .val (.ref b1), .val (.int nn), .val (.ref b36), .val (.int y183), .val (.int y185), .val (.int (1 : Int32)), .unset]) X198 hx (hb hby at_147) rfl rfl ?_
          refine o_aload (pc' := 151) X198 hx (hb hby at_149) rfl rfl rfl ?_
          obtain ⟨r199, T199, L199, X199, hq199, st199⟩ := o_callV X198 hx hZ hown (hw _ (List.mem_of_getElem? (i := 18) rfl)) (hw _ (List.mem_of_getElem? (i := 19) rfl)) (hw _ (List.mem_of_getElem? (i := 21) rfl)) (hw _ (List.mem_of_getElem? (i := 20) rfl)) (hw _ (List.mem_of_getElem? (i := 4) rfl)) (hw _ (List.mem_of_getElem? (i := 22) rfl)) (by decide) E184_ (rm5 l Z a0 hw b36 (0 : Int32) (0 : Int32) (0 : Int32) (0 : Int32) T184.heap n0 Z197 E184_ F184_codePoint F184_lacking F184_given F184_malformed ge38) e198 (pc' := 154) (Ls := #[.val (.int x0), .val (.int x1), .val (.int x2), .val (.int x3), .val (.int x4), .val (.ref b1), .val (.int nn), .val (.ref b36), .val (.int y183), .val (.int y185), .val (.int (1 : Int32)), .unset]) (by rw [hml]; rfl) [] [] rfl pd5 rfl rfl 0 (Nat.le_of_eq rfl) (hb hby at_151) rfl (by decide) (by decide) (by decide) (by decide)
          obtain ⟨rfl, N199, Kc199, E199_, F199_codePoint, F199_lacking, F199_given, F199_malformed⟩ := hq199
          obtain ⟨y200, hy200⟩ : ∃ z, z = (spec5 (0 : Int32) (0 : Int32)) := ⟨_, rfl⟩
          rw [← hy200] at st199
          refine oGo.step (f' := (mkF m 154 #[.val (.int x0), .val (.int x1), .val (.int x2), .val (.int x3), .val (.int x4), .val (.ref b1), .val (.int nn), .val (.ref b36), .val (.int y183), .val (.int y185), .val (.int (1 : Int32)), .unset] [(.int y200)])) st199 ?_
          have N199_ := Fr.app N184_ N199
          have K201 := Kc199
          have F202 := F187.keep K201 (allS ge38 all0)
          have F205 := F190.keep K201 (ninS ne37 nin0)
          have F206 := E184_.keep K201
          have Z212 := Nat.le_trans Z197 K201.1
          have X199 := o_flat X199 rfl rfl
          refine o_istore (pc' := 156) (l' := #[.val (.int x0), .val (.int x1), .val (.int x2), .val (.int x3), .val (.int x4), .val (.ref b1), .val (.int nn), .val (.ref b36), .val (.int y183), .val (.int y185), .val (.int (1 : Int32)), .val (.int y200)]) X199 hx (hb hby at_154) rfl rfl ?_
          refine o_iload (pc' := 158) X199 hx (hb hby at_156) rfl rfl ?_
          refine o_iload (pc' := 160) X199 hx (hb hby at_158) rfl rfl ?_
          refine o_icmpF (pc' := 163) X199 hx (hb hby at_160) (XT.ii_ne_f hE) rfl ?_
          refine o_iload (pc' := 165) X199 hx (hb hby at_163) rfl rfl ?_
          refine o_ifF (pc' := 168) X199 hx (hb hby at_165) (XT.i0_eq_f (by decide)) rfl ?_
          refine o_iload (pc' := 170) X199 hx (hb hby at_168) rfl rfl ?_
          refine o_ifF (pc' := 173) X199 hx (hb hby at_170) (XT.i0_eq_f (by rw [hy200]; decide)) rfl ?_
          refine o_iconst (pc' := 174) (v := (1 : Int32)) X199 hx (hb hby at_173) rfl rfl ?_
          refine o_goto (pc' := 178) X199 hx (hb hby at_174) (by decide) (by decide) ?_
          refine o_retZ X199 hx hret hlk (hb hby at_178) (by decide) (by decide) (by decide) ?_
          exact ⟨rfl, N199_⟩
        by_cases c149 : (3 : Int32) < nn
        · refine o_icmpF (pc' := 108) X148 hx (hb hby at_105) (XT.ii_le_f c149) rfl ?_
          refine o_aload (pc' := 110) X148 hx (hb hby at_108) rfl rfl rfl ?_
          refine o_aload (pc' := 112) X148 hx (hb hby at_110) rfl rfl rfl ?_
          refine o_iconst (pc' := 113) (v := (3 : Int32)) X148 hx (hb hby at_112) rfl rfl ?_
          refine o_iaload (pc' := 114) (v := (x3 &&& (255 : Int32))) X148 hx hZ e148 F137 (hb hby at_113) (by decide) rfl rfl ?_
          obtain ⟨r151, T151, L151, X151, hq151, st151⟩ := o_callV X148 hx hZ hown (hw _ (List.mem_of_getElem? (i := 36) rfl)) (hw _ (List.mem_of_getElem? (i := 37) rfl)) (hw _ (List.mem_of_getElem? (i := 39) rfl)) (hw _ (List.mem_of_getElem? (i := 38) rfl)) (hw _ (List.mem_of_getElem? (i := 4) rfl)) (hw _ (List.mem_of_getElem? (i := 40) rfl)) (by decide) F138 (rm7 l Z a0 hw b36 (x3 &&& (255 : Int32)) v141 v143 v145 v147 r_LEAST h148_ n0 Z148 F138 F140 F142 F144 F146 ge38 F139 F136 S_LEAST A_LEAST) e148 (pc' := 117) (Ls := #[.val (.int x0), .val (.int x1), .val (.int x2), .val (.int x3), .val (.int x4), .val (.ref b1), .val (.int nn), .val (.ref b36), .unset, .unset, .unset, .unset]) (by rw [hml]; rfl) [(.int (x3 &&& (255 : Int32)))] [] rfl pd3 rfl rfl 0 (Nat.le_of_eq rfl) (hb hby at_114) rfl (by decide) (by decide) (by decide) (by decide)
          obtain ⟨rfl, N151, Kc151, E151_, F151_codePoint, F151_lacking, F151_given, F151_malformed⟩ := hq151
          obtain ⟨y152, hy152⟩ : ∃ z, z = (spec7 (x3 &&& (255 : Int32)) v141 v143 v145) := ⟨_, rfl⟩
          rw [← hy152] at st151
          refine oGo.step (f' := (mkF m 117 #[.val (.int x0), .val (.int x1), .val (.int x2), .val (.int x3), .val (.int x4), .val (.ref b1), .val (.int nn), .val (.ref b36), .unset, .unset, .unset, .unset] [(.int y152)])) st151 ?_
          have N151_ := Fr.app N148 N151
          have K153 := Kc151
          have F154 := F136.keep K153 (allS ge38 all0)
          have F157 := F137.keep K153 (ninS ne37 nin0)
          have F158 := F138.keep K153
          have Z164 := Nat.le_trans Z148 K153.1
          obtain ⟨y165, hy165⟩ : ∃ z, z = (fld7_codePoint (x3 &&& (255 : Int32)) v141 v143) := ⟨_, rfl⟩
          rw [← hy165] at F151_codePoint
          obtain ⟨y166, hy166⟩ : ∃ z, z = (fld7_lacking (x3 &&& (255 : Int32)) v143) := ⟨_, rfl⟩
          rw [← hy166] at F151_lacking
          obtain ⟨y167, hy167⟩ : ∃ z, z = (fld7_given (x3 &&& (255 : Int32)) v143 v145) := ⟨_, rfl⟩
          rw [← hy167] at F151_given
          obtain ⟨y168, hy168⟩ : ∃ z, z = (fld7_malformed (x3 &&& (255 : Int32)) v141 v143 v145 v147) := ⟨_, rfl⟩
          rw [← hy168] at F151_malformed
          have hI151 : oInv y166 y167 y168 := by rw [hy166, hy167, hy168]; exact own_inv_next v141 (x3 &&& (255 : Int32)) F139
          have X151 := o_flat X151 rfl rfl
          refine o_pop (pc' := 118) X151 hx (hb hby at_117) rfl rfl ?_
          subst hy168 hy167 hy166 hy165 hy152
          exact J150 T151 T151.heap _ X151 (rfl : T151.heap = _) N151_ Z164 _ _ _ _ (if_pos c149).symm (if_pos c149).symm (if_pos c149).symm (if_pos c149).symm F154 F157 E151_ hI151 F151_codePoint F151_lacking F151_given F151_malformed
        · refine o_icmpT (pc' := 118) X148 hx (hb hby at_105) (XT.ii_le_t c149) (by decide) (by decide) ?_
          exact J150 T148 h148_ _ X148 e148 N148 Z148 _ _ _ _ (if_neg c149).symm (if_neg c149).symm (if_neg c149).symm (if_neg c149).symm F136 F137 F138 F139 F140 F142 F144 F146
      by_cases c116 : (2 : Int32) < nn
      · refine o_icmpF (pc' := 92) X115 hx (hb hby at_89) (XT.ii_le_f c116) rfl ?_
        refine o_aload (pc' := 94) X115 hx (hb hby at_92) rfl rfl rfl ?_
        refine o_aload (pc' := 96) X115 hx (hb hby at_94) rfl rfl rfl ?_
        refine o_iconst (pc' := 97) (v := (2 : Int32)) X115 hx (hb hby at_96) rfl rfl ?_
        refine o_iaload (pc' := 98) (v := (x2 &&& (255 : Int32))) X115 hx hZ e115 F104 (hb hby at_97) (by decide) rfl rfl ?_
        obtain ⟨r118, T118, L118, X118, hq118, st118⟩ := o_callV X115 hx hZ hown (hw _ (List.mem_of_getElem? (i := 36) rfl)) (hw _ (List.mem_of_getElem? (i := 37) rfl)) (hw _ (List.mem_of_getElem? (i := 39) rfl)) (hw _ (List.mem_of_getElem? (i := 38) rfl)) (hw _ (List.mem_of_getElem? (i := 4) rfl)) (hw _ (List.mem_of_getElem? (i := 40) rfl)) (by decide) F105 (rm7 l Z a0 hw b36 (x2 &&& (255 : Int32)) v108 v110 v112 v114 r_LEAST h115_ n0 Z115 F105 F107 F109 F111 F113 ge38 F106 F103 S_LEAST A_LEAST) e115 (pc' := 101) (Ls := #[.val (.int x0), .val (.int x1), .val (.int x2), .val (.int x3), .val (.int x4), .val (.ref b1), .val (.int nn), .val (.ref b36), .unset, .unset, .unset, .unset]) (by rw [hml]; rfl) [(.int (x2 &&& (255 : Int32)))] [] rfl pd3 rfl rfl 0 (Nat.le_of_eq rfl) (hb hby at_98) rfl (by decide) (by decide) (by decide) (by decide)
        obtain ⟨rfl, N118, Kc118, E118_, F118_codePoint, F118_lacking, F118_given, F118_malformed⟩ := hq118
        obtain ⟨y119, hy119⟩ : ∃ z, z = (spec7 (x2 &&& (255 : Int32)) v108 v110 v112) := ⟨_, rfl⟩
        rw [← hy119] at st118
        refine oGo.step (f' := (mkF m 101 #[.val (.int x0), .val (.int x1), .val (.int x2), .val (.int x3), .val (.int x4), .val (.ref b1), .val (.int nn), .val (.ref b36), .unset, .unset, .unset, .unset] [(.int y119)])) st118 ?_
        have N118_ := Fr.app N115 N118
        have K120 := Kc118
        have F121 := F103.keep K120 (allS ge38 all0)
        have F124 := F104.keep K120 (ninS ne37 nin0)
        have F125 := F105.keep K120
        have Z131 := Nat.le_trans Z115 K120.1
        obtain ⟨y132, hy132⟩ : ∃ z, z = (fld7_codePoint (x2 &&& (255 : Int32)) v108 v110) := ⟨_, rfl⟩
        rw [← hy132] at F118_codePoint
        obtain ⟨y133, hy133⟩ : ∃ z, z = (fld7_lacking (x2 &&& (255 : Int32)) v110) := ⟨_, rfl⟩
        rw [← hy133] at F118_lacking
        obtain ⟨y134, hy134⟩ : ∃ z, z = (fld7_given (x2 &&& (255 : Int32)) v110 v112) := ⟨_, rfl⟩
        rw [← hy134] at F118_given
        obtain ⟨y135, hy135⟩ : ∃ z, z = (fld7_malformed (x2 &&& (255 : Int32)) v108 v110 v112 v114) := ⟨_, rfl⟩
        rw [← hy135] at F118_malformed
        have hI118 : oInv y133 y134 y135 := by rw [hy133, hy134, hy135]; exact own_inv_next v108 (x2 &&& (255 : Int32)) F106
        have X118 := o_flat X118 rfl rfl
        refine o_pop (pc' := 102) X118 hx (hb hby at_101) rfl rfl ?_
        subst hy135 hy134 hy133 hy132 hy119
        exact J117 T118 T118.heap _ X118 (rfl : T118.heap = _) N118_ Z131 _ _ _ _ (if_pos c116).symm (if_pos c116).symm (if_pos c116).symm (if_pos c116).symm F121 F124 E118_ hI118 F118_codePoint F118_lacking F118_given F118_malformed
      · refine o_icmpT (pc' := 102) X115 hx (hb hby at_89) (XT.ii_le_t c116) (by decide) (by decide) ?_
        exact J117 T115 h115_ _ X115 e115 N115 Z115 _ _ _ _ (if_neg c116).symm (if_neg c116).symm (if_neg c116).symm (if_neg c116).symm F103 F104 F105 F106 F107 F109 F111 F113
    by_cases c83 : (1 : Int32) < nn
    · refine o_icmpF (pc' := 76) X82 hx (hb hby at_73) (XT.ii_le_f c83) rfl ?_
      refine o_aload (pc' := 78) X82 hx (hb hby at_76) rfl rfl rfl ?_
      refine o_aload (pc' := 80) X82 hx (hb hby at_78) rfl rfl rfl ?_
      refine o_iconst (pc' := 81) (v := (1 : Int32)) X82 hx (hb hby at_80) rfl rfl ?_
      refine o_iaload (pc' := 82) (v := (x1 &&& (255 : Int32))) X82 hx hZ e82 F71 (hb hby at_81) (by decide) rfl rfl ?_
      obtain ⟨r85, T85, L85, X85, hq85, st85⟩ := o_callV X82 hx hZ hown (hw _ (List.mem_of_getElem? (i := 36) rfl)) (hw _ (List.mem_of_getElem? (i := 37) rfl)) (hw _ (List.mem_of_getElem? (i := 39) rfl)) (hw _ (List.mem_of_getElem? (i := 38) rfl)) (hw _ (List.mem_of_getElem? (i := 4) rfl)) (hw _ (List.mem_of_getElem? (i := 40) rfl)) (by decide) F72 (rm7 l Z a0 hw b36 (x1 &&& (255 : Int32)) v75 v77 v79 v81 r_LEAST h82_ n0 Z82 F72 F74 F76 F78 F80 ge38 F73 F70 S_LEAST A_LEAST) e82 (pc' := 85) (Ls := #[.val (.int x0), .val (.int x1), .val (.int x2), .val (.int x3), .val (.int x4), .val (.ref b1), .val (.int nn), .val (.ref b36), .unset, .unset, .unset, .unset]) (by rw [hml]; rfl) [(.int (x1 &&& (255 : Int32)))] [] rfl pd3 rfl rfl 0 (Nat.le_of_eq rfl) (hb hby at_82) rfl (by decide) (by decide) (by decide) (by decide)
      obtain ⟨rfl, N85, Kc85, E85_, F85_codePoint, F85_lacking, F85_given, F85_malformed⟩ := hq85
      obtain ⟨y86, hy86⟩ : ∃ z, z = (spec7 (x1 &&& (255 : Int32)) v75 v77 v79) := ⟨_, rfl⟩
      rw [← hy86] at st85
      refine oGo.step (f' := (mkF m 85 #[.val (.int x0), .val (.int x1), .val (.int x2), .val (.int x3), .val (.int x4), .val (.ref b1), .val (.int nn), .val (.ref b36), .unset, .unset, .unset, .unset] [(.int y86)])) st85 ?_
      have N85_ := Fr.app N82 N85
      have K87 := Kc85
      have F88 := F70.keep K87 (allS ge38 all0)
      have F91 := F71.keep K87 (ninS ne37 nin0)
      have F92 := F72.keep K87
      have Z98 := Nat.le_trans Z82 K87.1
      obtain ⟨y99, hy99⟩ : ∃ z, z = (fld7_codePoint (x1 &&& (255 : Int32)) v75 v77) := ⟨_, rfl⟩
      rw [← hy99] at F85_codePoint
      obtain ⟨y100, hy100⟩ : ∃ z, z = (fld7_lacking (x1 &&& (255 : Int32)) v77) := ⟨_, rfl⟩
      rw [← hy100] at F85_lacking
      obtain ⟨y101, hy101⟩ : ∃ z, z = (fld7_given (x1 &&& (255 : Int32)) v77 v79) := ⟨_, rfl⟩
      rw [← hy101] at F85_given
      obtain ⟨y102, hy102⟩ : ∃ z, z = (fld7_malformed (x1 &&& (255 : Int32)) v75 v77 v79 v81) := ⟨_, rfl⟩
      rw [← hy102] at F85_malformed
      have hI85 : oInv y100 y101 y102 := by rw [hy100, hy101, hy102]; exact own_inv_next v75 (x1 &&& (255 : Int32)) F73
      have X85 := o_flat X85 rfl rfl
      refine o_pop (pc' := 86) X85 hx (hb hby at_85) rfl rfl ?_
      subst hy102 hy101 hy100 hy99 hy86
      exact J84 T85 T85.heap _ X85 (rfl : T85.heap = _) N85_ Z98 _ _ _ _ (if_pos c83).symm (if_pos c83).symm (if_pos c83).symm (if_pos c83).symm F88 F91 E85_ hI85 F85_codePoint F85_lacking F85_given F85_malformed
    · refine o_icmpT (pc' := 86) X82 hx (hb hby at_73) (XT.ii_le_t c83) (by decide) (by decide) ?_
      exact J84 T82 h82_ _ X82 e82 N82 Z82 _ _ _ _ (if_neg c83).symm (if_neg c83).symm (if_neg c83).symm (if_neg c83).symm F70 F71 F72 F73 F74 F76 F78 F80
  by_cases c50 : 0 < nn
  · refine o_ifF (pc' := 60) X49 hx (hb hby at_57) (XT.i0_le_f c50) rfl ?_
    refine o_aload (pc' := 62) X49 hx (hb hby at_60) rfl rfl rfl ?_
    refine o_aload (pc' := 64) X49 hx (hb hby at_62) rfl rfl rfl ?_
    refine o_iconst (pc' := 65) (v := (0 : Int32)) X49 hx (hb hby at_64) rfl rfl ?_
    refine o_iaload (pc' := 66) (v := (x0 &&& (255 : Int32))) X49 hx hZ e49 F43 (hb hby at_65) (by decide) rfl rfl ?_
    obtain ⟨r52, T52, L52, X52, hq52, st52⟩ := o_callV X49 hx hZ hown (hw _ (List.mem_of_getElem? (i := 36) rfl)) (hw _ (List.mem_of_getElem? (i := 37) rfl)) (hw _ (List.mem_of_getElem? (i := 39) rfl)) (hw _ (List.mem_of_getElem? (i := 38) rfl)) (hw _ (List.mem_of_getElem? (i := 4) rfl)) (hw _ (List.mem_of_getElem? (i := 40) rfl)) (by decide) A36 (rm7 l Z a0 hw b36 (x0 &&& (255 : Int32)) (0 : Int32) (0 : Int32) (0 : Int32) (0 : Int32) r_LEAST h36_ n0 Z44 A36 F47 F46 F48 F45 ge38 own_inv0 F40 S_LEAST A_LEAST) e49 (pc' := 69) (Ls := #[.val (.int x0), .val (.int x1), .val (.int x2), .val (.int x3), .val (.int x4), .val (.ref b1), .val (.int nn), .val (.ref b36), .unset, .unset, .unset, .unset]) (by rw [hml]; rfl) [(.int (x0 &&& (255 : Int32)))] [] rfl pd3 rfl rfl 0 (Nat.le_of_eq rfl) (hb hby at_66) rfl (by decide) (by decide) (by decide) (by decide)
    obtain ⟨rfl, N52, Kc52, E52_, F52_codePoint, F52_lacking, F52_given, F52_malformed⟩ := hq52
    obtain ⟨y53, hy53⟩ : ∃ z, z = (spec7 (x0 &&& (255 : Int32)) (0 : Int32) (0 : Int32) (0 : Int32)) := ⟨_, rfl⟩
    rw [← hy53] at st52
    refine oGo.step (f' := (mkF m 69 #[.val (.int x0), .val (.int x1), .val (.int x2), .val (.int x3), .val (.int x4), .val (.ref b1), .val (.int nn), .val (.ref b36), .unset, .unset, .unset, .unset] [(.int y53)])) st52 ?_
    have N52_ := Fr.app N29 N52
    have K54 := Kc52
    have F55 := F40.keep K54 (allS ge38 all0)
    have F58 := F43.keep K54 (ninS ne37 nin0)
    have F59 := A36.keep K54
    have Z65 := Nat.le_trans Z44 K54.1
    obtain ⟨y66, hy66⟩ : ∃ z, z = (fld7_codePoint (x0 &&& (255 : Int32)) (0 : Int32) (0 : Int32)) := ⟨_, rfl⟩
    rw [← hy66] at F52_codePoint
    obtain ⟨y67, hy67⟩ : ∃ z, z = (fld7_lacking (x0 &&& (255 : Int32)) (0 : Int32)) := ⟨_, rfl⟩
    rw [← hy67] at F52_lacking
    obtain ⟨y68, hy68⟩ : ∃ z, z = (fld7_given (x0 &&& (255 : Int32)) (0 : Int32) (0 : Int32)) := ⟨_, rfl⟩
    rw [← hy68] at F52_given
    obtain ⟨y69, hy69⟩ : ∃ z, z = (fld7_malformed (x0 &&& (255 : Int32)) (0 : Int32) (0 : Int32) (0 : Int32) (0 : Int32)) := ⟨_, rfl⟩
    rw [← hy69] at F52_malformed
    have hI52 : oInv y67 y68 y69 := by rw [hy67, hy68, hy69]; exact own_inv_next (0 : Int32) (x0 &&& (255 : Int32)) own_inv0
    have X52 := o_flat X52 rfl rfl
    refine o_pop (pc' := 70) X52 hx (hb hby at_69) rfl rfl ?_
    subst hy69 hy68 hy67 hy66 hy53
    exact J51 T52 T52.heap _ X52 (rfl : T52.heap = _) N52_ Z65 _ _ _ _ (if_pos c50).symm (if_pos c50).symm (if_pos c50).symm (if_pos c50).symm F55 F58 E52_ hI52 F52_codePoint F52_lacking F52_given F52_malformed
  · refine o_ifT (pc' := 70) X49 hx (hb hby at_57) (XT.i0_le_t c50) (by decide) (by decide) ?_
    exact J51 T49 h36_ _ X49 e49 N29 Z44 _ _ _ _ (if_neg c50).symm (if_neg c50).symm (if_neg c50).symm (if_neg c50).symm F40 F43 A36 own_inv0 F47 F46 F48 F45
set_option maxRecDepth 65536 in
set_option maxHeartbeats 40000000 in
theorem comes_1 {Post : Tables → Env → Array Value → State → Outcome → State → Prop} (hpost : ∀ tb e args s v u, (limb_1_1.after args s (.returned v) u = true ∧ limb_1_2.after args s (.returned v) u = true ∧ True) → FrameEnd s (.returned v) u (Jvm.fieldLocs frame_1_writes args s ++ Jvm.arrayLocs frame_1_arrays args s ++ Jvm.staticLocs frame_1_statics s) 16 128 → Post tb e args s (.returned v) u) :
    ArmFor flags0 classFile x code maxLocals ret World_1 tables_1 room_1 Calls_1 rest_1 Pre_1 Post := by
  intro l hfl _ _ p e ha hc hk s m args below hf hA hF happ hP
  obtain ⟨hcalls, hrest, hpre⟩ := hP
  obtain ⟨-, -, -, hnamed, -, -, -, hat⟩ := (Spec.applies_iff hf).mp happ
  obtain ⟨hg, hn⟩ := and_e (Cond.before_iff.mp (show (Jvm.Cond.and given_1 narrow_1).before args s = true from hpre))
  obtain ⟨hcount, q0⟩ := and_e hg
  obtain ⟨a0, q1⟩ := and_e q0
  obtain ⟨a1, q2⟩ := and_e q1
  obtain ⟨a2, q3⟩ := and_e q2
  obtain ⟨a3, q4⟩ := and_e q3
  obtain ⟨w0, w1, w2, w3, w4, rfl⟩ : ∃ w0 w1 w2 w3 w4 : Value, args = #[w0, w1, w2, w3, w4] := by
    have hs : args.size = 5 := by simpa [Cond.value, given_1] using hcount
    obtain ⟨L⟩ := args
    match L, hs with
    | [w0, w1, w2, w3, w4], _ => exact ⟨w0, w1, w2, w3, w4, rfl⟩
  have hw := fun d (hd : d ∈ tables_1) => atoms_spec (ws := Jvm.Cond.code x code maxLocals ret :: tables_1) hat d (List.mem_cons_of_mem _ hd)
  have hfit : Fit s := fun {y c} hc i hi => by
    obtain ⟨ha, rfl⟩ := Array.getElem?_eq_some_iff.mp hc
    have q := List.all_eq_true.mp ((Array.all_eq_true_iff_forall_mem.mp hF) _ (Array.getElem_mem ha)) i (List.mem_range.mpr hi)
    simpa [Array.getElem?_eq_getElem hi] using q
  obtain ⟨x0, e0⟩ := is_v a0
  obtain rfl : w0 = (.int x0) := Option.some.inj e0
  obtain ⟨x1, e1⟩ := is_v a1
  obtain rfl : w1 = (.int x1) := Option.some.inj e1
  obtain ⟨x2, e2⟩ := is_v a2
  obtain rfl : w2 = (.int x2) := Option.some.inj e2
  obtain ⟨x3, e3⟩ := is_v a3
  obtain rfl : w3 = (.int x3) := Option.some.inj e3
  obtain ⟨x4, e4⟩ := is_v q4
  obtain rfl : w4 = (.int x4) := Option.some.inj e4
  obtain ⟨n0, m0⟩ := and_e hn
  obtain ⟨n1, m1⟩ := and_e m0
  obtain ⟨n2, m2⟩ := and_e m1
  obtain ⟨n3, m3⟩ := and_e m2
  obtain ⟨n4, m4⟩ := and_e m3
  obtain ⟨r_LEAST, v_L⟩ := arr_v n0
  obtain ⟨cL, AL⟩ := Arr.start v_L n0
  have S_LEAST := Sta.start v_L (Or.inr ⟨(hw _ (List.mem_of_getElem? (i := 4) rfl)), (hw _ (List.mem_of_getElem? (i := 48) rfl))⟩)
  have hlL := eqv_i (Term.int_eval (4)) n1
  have haL := Arr.fin (State.Warmed39.refl s).alike AL
  have szL := own_size v_L haL hlL
  have el0 := (elem_in (eqv_i (Term.int_eval (0)) n4) v_L (Term.int_eval (0)) AL.1).2
  have el1 := (elem_in (eqv_i (Term.int_eval (128)) n2) v_L (Term.int_eval (1)) AL.1).2
  have el2 := (elem_in (eqv_i (Term.int_eval (2048)) n3) v_L (Term.int_eval (2)) AL.1).2
  have el3 := (elem_in (eqv_i (Term.int_eval (65536)) m4) v_L (Term.int_eval (3)) AL.1).2
  have A_LEAST : oInts s s.heap r_LEAST [(0 : Int32), 128, 2048, 65536] := ⟨cL, AL, own_four szL el0 el1 el2 el3, by decide⟩
  obtain ⟨n, o, h1, h2, h3, _, L, rfl, ⟨rfl, N⟩, hq⟩ := rm0 l s _ hw x0 x1 x2 x3 x4 r_LEAST s.heap s.heap.size (Nat.le_refl _) (Old.start s) S_LEAST A_LEAST tables_1 p e ha hc hk s m _ below hf ((Spec.applies_iff_loose hf).mp happ).1 ⟨rfl, State.Warmed39.refl s, rfl⟩ trivial
  refine ⟨n, _, h1, h2, h3, hpost _ _ _ _ _ _ ⟨Cond.after_iff.mpr rfl, Cond.after_iff.mpr (eq_i res_at (Term.int_eval (1)) rfl), trivial⟩ ⟨hq.1, hq.2.1, (hq.2.2.sift fun y hy => Or.inr (N y hy)).mono (by decide) (by decide)⟩⟩
theorem main_1_1 : Claimed_1_1 := comes_1 fun _ _ _ _ _ _ h hF => ⟨h.1, hF⟩
theorem main_1_2 : Claimed_1_2 := comes_1 fun _ _ _ _ _ _ h hF => ⟨h.2.1, hF⟩
end Jvm.Pilot.@@N@@
namespace Jvm.Pilot.@@N@@
open Jvm Jvm.ClassFile Sem Op Lib Jvm.Free Jvm.Stand Jvm.Pilot.@@N@@.Jvm.D
/-! MADE BY PROGRAM (witnessworld.py) out of the Statement's table words and the real class files: 9 classes; the members and pool entries that the words name. The judged class is class 1, her method 1. -/
namespace start1
open Jvm.ClassFile
def u (s : String) : CpInfo := .utf8 (stringToUtf16 s)
/-- a pool by its gaps: so many unusable entries, then the entry; so many at the end -/
def gap : Nat → List CpInfo → List CpInfo
  | 0, r => r
  | n + 1, r => .unusable :: gap n r
def poolList (es : List (Nat × CpInfo)) (last : Nat) : List CpInfo := es.foldr (fun e r => gap e.1 (e.2 :: r)) (gap last [])
def pool (es : List (Nat × CpInfo)) (last : Nat) : Array CpInfo := ⟨poolList es last⟩
def fileOf (pool : Array CpInfo) (this : Nat) (attrs : Array Attribute := #[]) (ms : Array MethodInfo := #[]) (fl : Nat := 33) (sup : Nat := 0) (ifs : Array Nat := #[]) (fds : Array FieldInfo := #[]) : ClassFile where
  minorVersion := 0
  majorVersion := 65
  constantPool := pool
  accessFlags := fl
  thisClass := this
  superClass := sup
  interfaces := ifs
  fields := fds
  methods := ms
  attributes := attrs
def plain (name : String) (sup : Option ClassId) : Class where
  name := name
  kind := .ordinary
  loader := none
  accessFlags := 33
  super := sup
  interfaces := #[]
  cf := none
  fields := #[]
  methods := #[]
  instanceTypes := #[]
  staticTypes := #[]
  resolved := #[]
  callSites := []
  init := .initialized
  statics := none
  mirror := none

def pool0 : Array CpInfo := pool [(5, u "<init>"), (0, u "()V"), (1, .class_ 10), (1, u "java/lang/Object")] 113

def k0c0 : Code := { maxStack := 0, maxLocals := 1, code := object_method_1_code, exceptionTable := #[], attributes := #[] }
def k0m0 : Method := { name := "<init>", desc := "()V", sig := { parameters := [], returnType := none }, accessFlags := 1, code := some k0c0 }
/-- java/lang/Object -/
def k0 : Class := { plain "java/lang/Object" none with
  accessFlags := 33
  interfaces := #[]
  cf := some (fileOf pool0 8 #[] #[{ accessFlags := 1, nameIndex := 5, descriptorIndex := 6, attributes := #[] }] 33 0 #[] #[])
  fields := #[]
  methods := #[k0m0]
  instanceTypes := #[]
  staticTypes := #[]
  resolved := Array.replicate 124 none
  statics := none }

def pool1 : Array CpInfo := pool [(2, .class_ 4), (0, .nameAndType 5 6), (0, u "java/lang/Object"), (0, u "<init>"), (0, u "()V"), (0, .integer 2147483647), (0, .class_ 9), (0, u "com/example/harborlog/harborlog/Utf8Decoder"), (0, .methodref 8 3), (0, .methodref 8 12), (0, .nameAndType 13 14), (0, u "next"), (0, u "(I)I"), (0, .methodref 16 17), (0, .class_ 18), (0, .nameAndType 19 20), (0, u "com/example/harborlog/harborlog/Utf8DecoderEndPinLaw"), (0, u "wellFormed"), (0, u "([II)Z"), (0, .methodref 8 22), (0, .nameAndType 23 24), (0, u "end"), (0, u "()Z"), (0, .methodref 8 26), (0, .nameAndType 27 28), (0, u "unfinished"), (0, u "()I"), (0, .methodref 16 30), (0, .nameAndType 31 32), (0, u "step"), (0, u "([III)I"), (0, .methodref 16 34), (0, .nameAndType 35 32), (0, u "charLen"), (0, .methodref 16 37), (0, .nameAndType 38 39), (0, u "in"), (0, u "([IIIII)Z"), (2, u "law"), (0, u "(IIIII)Z")] 5

def k1m0 : Method := { name := "<init>", desc := "()V", sig := { parameters := [], returnType := none }, accessFlags := 1, code := none }
def k1c1 : Code := { maxStack := 5, maxLocals := 12, code := code, exceptionTable := #[], attributes := #[] }
def k1m1 : Method := { name := "law", desc := "(IIIII)Z", sig := { parameters := [.int, .int, .int, .int, .int], returnType := some .boolean }, accessFlags := 9, code := some k1c1 }
def k1c2 : Code := { maxStack := 3, maxLocals := 3, code := method_3_code, exceptionTable := #[], attributes := #[] }
def k1m2 : Method := { name := "wellFormed", desc := "([II)Z", sig := { parameters := [(.array .int), .int], returnType := some .boolean }, accessFlags := 10, code := some k1c2 }
def k1c3 : Code := { maxStack := 3, maxLocals := 4, code := method_4_code, exceptionTable := #[], attributes := #[] }
def k1m3 : Method := { name := "step", desc := "([III)I", sig := { parameters := [(.array .int), .int, .int], returnType := some .int }, accessFlags := 10, code := some k1c3 }
def k1c4 : Code := { maxStack := 5, maxLocals := 6, code := method_5_code, exceptionTable := #[], attributes := #[] }
def k1m4 : Method := { name := "charLen", desc := "([III)I", sig := { parameters := [(.array .int), .int, .int], returnType := some .int }, accessFlags := 10, code := some k1c4 }
def k1c5 : Code := { maxStack := 2, maxLocals := 5, code := method_6_code, exceptionTable := #[], attributes := #[] }
def k1m5 : Method := { name := "in", desc := "([IIIII)Z", sig := { parameters := [(.array .int), .int, .int, .int, .int], returnType := some .boolean }, accessFlags := 10, code := some k1c5 }
/-- com/example/harborlog/harborlog/Utf8DecoderEndPinLaw -/
def k1 : Class := { plain "com/example/harborlog/harborlog/Utf8DecoderEndPinLaw" (some 0) with
  accessFlags := 49
  interfaces := #[]
  cf := some (fileOf pool1 16 #[] #[{ accessFlags := 1, nameIndex := 5, descriptorIndex := 6, attributes := #[] }, { accessFlags := 9, nameIndex := 42, descriptorIndex := 43, attributes := #[] }, { accessFlags := 10, nameIndex := 19, descriptorIndex := 20, attributes := #[] }, { accessFlags := 10, nameIndex := 31, descriptorIndex := 32, attributes := #[] }, { accessFlags := 10, nameIndex := 35, descriptorIndex := 32, attributes := #[] }, { accessFlags := 10, nameIndex := 38, descriptorIndex := 39, attributes := #[] }] 49 2 #[] #[])
  fields := #[]
  methods := #[k1m0, k1m1, k1m2, k1m3, k1m4, k1m5]
  instanceTypes := #[]
  staticTypes := #[]
  resolved := Array.replicate 49 none
  statics := none }

def pool2 : Array CpInfo := pool [(1, .methodref 2 3), (0, .class_ 4), (0, .nameAndType 5 6), (0, u "java/lang/Object"), (0, u "<init>"), (0, u "()V"), (0, .class_ 8), (0, u "com/example/harborlog/harborlog/Utf8Decoder"), (1, .fieldref 7 11), (0, .nameAndType 12 13), (0, u "malformed"), (0, u "Z"), (0, .fieldref 7 15), (0, .nameAndType 16 17), (0, u "lacking"), (0, u "I"), (2, u "next"), (0, u "(I)I"), (2, u "end"), (0, u "()Z"), (0, .fieldref 7 27), (0, .nameAndType 28 17), (0, u "codePoint"), (0, .fieldref 7 30), (0, .nameAndType 31 17), (0, u "given"), (0, .fieldref 7 33), (0, .nameAndType 34 35), (0, u "LEAST"), (0, u "[I"), (2, .integer 1114111), (0, .integer 55296), (0, .integer 57343), (1, u "NONE"), (7, u "unfinished"), (0, u "()I")] 3

def k2c0 : Code := { maxStack := 1, maxLocals := 1, code := prog_155_method_1_code, exceptionTable := #[], attributes := #[] }
def k2m0 : Method := { name := "<init>", desc := "()V", sig := { parameters := [], returnType := none }, accessFlags := 0, code := some k2c0 }
def k2c1 : Code := { maxStack := 4, maxLocals := 4, code := prog_155_method_3_code, exceptionTable := #[], attributes := #[] }
def k2m1 : Method := { name := "next", desc := "(I)I", sig := { parameters := [.int], returnType := some .int }, accessFlags := 0, code := some k2c1 }
def k2c2 : Code := { maxStack := 1, maxLocals := 1, code := prog_155_method_4_code, exceptionTable := #[], attributes := #[] }
def k2m2 : Method := { name := "unfinished", desc := "()I", sig := { parameters := [], returnType := some .int }, accessFlags := 0, code := some k2c2 }
def k2c3 : Code := { maxStack := 2, maxLocals := 2, code := prog_155_method_5_code, exceptionTable := #[], attributes := #[] }
def k2m3 : Method := { name := "end", desc := "()Z", sig := { parameters := [], returnType := some .boolean }, accessFlags := 0, code := some k2c3 }
/-- com/example/harborlog/harborlog/Utf8Decoder -/
def k2 : Class := { plain "com/example/harborlog/harborlog/Utf8Decoder" (some 0) with
  accessFlags := 48
  interfaces := #[]
  cf := some (fileOf pool2 7 #[] #[{ accessFlags := 0, nameIndex := 5, descriptorIndex := 6, attributes := #[] }, { accessFlags := 0, nameIndex := 20, descriptorIndex := 21, attributes := #[] }, { accessFlags := 0, nameIndex := 50, descriptorIndex := 51, attributes := #[] }, { accessFlags := 0, nameIndex := 24, descriptorIndex := 25, attributes := #[] }] 48 2 #[] #[{ accessFlags := 24, nameIndex := 42, descriptorIndex := 17, attributes := #[] }, { accessFlags := 26, nameIndex := 34, descriptorIndex := 35, attributes := #[] }, { accessFlags := 2, nameIndex := 28, descriptorIndex := 17, attributes := #[] }, { accessFlags := 2, nameIndex := 16, descriptorIndex := 17, attributes := #[] }, { accessFlags := 2, nameIndex := 31, descriptorIndex := 17, attributes := #[] }, { accessFlags := 2, nameIndex := 12, descriptorIndex := 13, attributes := #[] }])
  fields := #[{ name := "NONE", type := .int, accessFlags := 24, slot := 0, constantValue := 0 }, { name := "LEAST", type := (.array .int), accessFlags := 26, slot := 1, constantValue := 0 }, { name := "codePoint", type := .int, accessFlags := 2, slot := 0, constantValue := 0 }, { name := "lacking", type := .int, accessFlags := 2, slot := 1, constantValue := 0 }, { name := "given", type := .int, accessFlags := 2, slot := 2, constantValue := 0 }, { name := "malformed", type := .boolean, accessFlags := 2, slot := 3, constantValue := 0 }]
  methods := #[k2m0, k2m1, k2m2, k2m3]
  instanceTypes := #[.int, .int, .int, .boolean]
  staticTypes := #[.int, (.array .int)]
  resolved := Array.replicate 55 none
  statics := some 0 }

def pool3 : Array CpInfo := pool [(1, u "java/lang/Cloneable"), (0, .class_ 1), (0, u "java/lang/Object"), (0, .class_ 3)] 3

/-- java/lang/Cloneable -/
def k3 : Class := { plain "java/lang/Cloneable" (some 0) with
  accessFlags := 1537
  interfaces := #[]
  cf := some (fileOf pool3 2 #[] #[] 1537 4 #[] #[])
  fields := #[]
  methods := #[]
  instanceTypes := #[]
  staticTypes := #[]
  resolved := Array.replicate 8 none
  statics := none }

def pool4 : Array CpInfo := pool [(1, u "java/io/Serializable"), (0, .class_ 1), (0, u "java/lang/Object"), (0, .class_ 3)] 3

/-- java/io/Serializable -/
def k4 : Class := { plain "java/io/Serializable" (some 0) with
  accessFlags := 1537
  interfaces := #[]
  cf := some (fileOf pool4 2 #[] #[] 1537 4 #[] #[])
  fields := #[]
  methods := #[]
  instanceTypes := #[]
  staticTypes := #[]
  resolved := Array.replicate 8 none
  statics := none }

/-- the primitive byte -/
def k5 : Class := { plain "byte" none with kind := .primitive 'B', accessFlags := 0x411 }
/-- [B -/
def k6 : Class := { plain "[B" (some 0) with kind := .array 5 .byte, interfaces := #[3, 4], accessFlags := 1041 }

/-- the primitive int -/
def k7 : Class := { plain "int" none with kind := .primitive 'I', accessFlags := 0x411 }
/-- [I -/
def k8 : Class := { plain "[I" (some 0) with kind := .array 7 .int, interfaces := #[3, 4], accessFlags := 1041 }

def heap : Heap := #[{ cls := 2, slots := #[.int 0, .ref 1], vm := .statics 2 },
  { cls := 8, slots := #[.int 0, .int 128, .int 2048, .int 65536], vm := .none }]
def classes : Array Class := #[k0, k1, k2, k3, k4, k5, k6, k7, k8]
def interned : List (Array UInt16 × Addr) := []
def slotsUsed : Nat := 6
def theMethod : MethodId := ⟨1, 1⟩
def args0 : Array Value := #[.int 5, .int 5, .int 5, .int 5, .int 5]
def aboutOver (below : List Frame) : State where
  vm := { classes := classes, interned := interned.toArray }
  heap := heap
  slotsUsed := slotsUsed
  threads := #[{ frames := .invoking theMethod args0 :: below }]
def below0 : List Frame := [.native { method := ⟨0, 0⟩, args := #[] }]
def about1 : State := aboutOver below0
def p0 : Program := .bare "" "" ""
def e0 : Env := launch0.env 0 0 0
theorem w_frames : about1.frames = Frame.invoking theMethod args0 :: below0 := rfl
set_option maxRecDepth 65536 in
theorem w_args : argsFit about1.vm theMethod args0 = true := by decide +kernel
set_option maxRecDepth 65536 in
theorem w_heap : heapFits about1 = true := by decide +kernel
set_option maxRecDepth 65536 in
theorem w_runnable : about1.curStatus? = some .runnable := by decide +kernel
set_option maxRecDepth 65536 in
theorem w_alone : about1.alone = true := by decide +kernel
set_option maxRecDepth 65536 in
theorem w_named : about1.methodNamed? x = some theMethod := by decide +kernel
set_option maxRecDepth 65536 in
theorem w_hears : about1.hears theMethod below0 = true := by decide +kernel
set_option maxRecDepth 65536 in
theorem w_ripe : about1.ripe theMethod args0 below0 = true := by decide +kernel
theorem w_running : about1.status = .running := rfl
set_option maxRecDepth 65536 in
theorem w_room : about1.hasRoom e0.platform room_1 = true :=
  launch0.hasRoom_least _ room_1 (by decide +kernel) (by decide +kernel) (by decide +kernel) (by decide +kernel) (by decide +kernel) (by decide +kernel)
theorem allAtoms_all (ts : List Jvm.Cond) (a : Array Jvm.Value) (st : Jvm.State) : (allAtoms ts).before a st = ts.all (fun c => c.before a st) := by
  induction ts with
  | nil => rfl
  | cons c t ih =>
    show (Jvm.Cond.and c (allAtoms t)).before a st = _
    rw [Jvm.Cond.before_and, ih, List.all_cons]
def words1 : List Jvm.Cond := Jvm.Cond.code x code maxLocals ret :: tables_1
/-- a 'code' word, met by the world's own term for the bytes: nothing is compared byte by byte -/
theorem code_word {y : MethodName} {bytes : ByteArray} {mx : Nat} {rt : Option FieldType} {a : Array Value} {s : State} {m : MethodId} {meth : Method} {c : Code} (h1 : s.methodNamed? y = some m) (h2 : s.vm.method? m = some meth) (h3 : meth.code = some c) (h4 : c.code = bytes)
    (h5 : (c.maxLocals == mx && c.exceptionTable.isEmpty && decide (c.maxStack ≤ mostOperands) && decide (meth.sig.returnType = rt) && !meth.locks && decide (parseMethodDescriptor y.desc = some meth.sig)) = true) : (Jvm.Cond.code y bytes mx rt).before a s = true := by
  simp only [Bool.and_eq_true, beq_iff_eq, Bool.not_eq_true', decide_eq_true_eq] at h5
  obtain ⟨⟨⟨⟨⟨g1, g2⟩, g3⟩, g4⟩, g5⟩, g6⟩ := h5
  simp [Cond.before, Cond.holds, Cond.value, h1, h2, h3, h4, g1, g2, g3, g4, g5, g6]
def isCode : Jvm.Cond → Bool
  | .code _ _ _ _ => true
  | _ => false
theorem all_split {L : List Jvm.Cond} {P : Jvm.Cond → Bool} (h1 : L.all (fun c => isCode c || P c) = true) (h2 : ∀ c ∈ L.filter isCode, P c = true) : L.all P = true := by
  refine List.all_eq_true.mpr fun c hc => ?_
  have h := List.all_eq_true.mp h1 c hc
  rcases Bool.eq_false_or_eq_true (isCode c) with hi | hi
  · exact h2 c (List.mem_filter.mpr ⟨hc, hi⟩)
  · simpa [hi] using h
set_option maxRecDepth 65536 in
theorem w_c0 : (Jvm.Cond.code x code maxLocals ret).before args0 about1 = true := code_word (m := ⟨1, 1⟩) (meth := k1m1) (c := k1c1) (by decide +kernel) rfl rfl rfl (by decide +kernel)
set_option maxRecDepth 65536 in
theorem w_c1 : (Jvm.Cond.code ({ cls := "com/example/harborlog/harborlog/Utf8Decoder", name := "<init>", desc := "()V" } : Jvm.MethodName) prog_155_method_1_code (1 : Nat) (Option.none : Option Jvm.ClassFile.FieldType)).before args0 about1 = true := code_word (m := ⟨2, 0⟩) (meth := k2m0) (c := k2c0) (by decide +kernel) rfl rfl rfl (by decide +kernel)
set_option maxRecDepth 65536 in
theorem w_c2 : (Jvm.Cond.code ({ cls := "java/lang/Object", name := "<init>", desc := "()V" } : Jvm.MethodName) object_method_1_code (1 : Nat) (Option.none : Option Jvm.ClassFile.FieldType)).before args0 about1 = true := code_word (m := ⟨0, 0⟩) (meth := k0m0) (c := k0c0) (by decide +kernel) rfl rfl rfl (by decide +kernel)
set_option maxRecDepth 65536 in
theorem w_c3 : (Jvm.Cond.code ({ cls := "com/example/harborlog/harborlog/Utf8DecoderEndPinLaw", name := "wellFormed", desc := "([II)Z" } : Jvm.MethodName) method_3_code (3 : Nat) (Option.some Jvm.ClassFile.FieldType.boolean)).before args0 about1 = true := code_word (m := ⟨1, 2⟩) (meth := k1m2) (c := k1c2) (by decide +kernel) rfl rfl rfl (by decide +kernel)
set_option maxRecDepth 65536 in
theorem w_c4 : (Jvm.Cond.code ({ cls := "com/example/harborlog/harborlog/Utf8DecoderEndPinLaw", name := "step", desc := "([III)I" } : Jvm.MethodName) method_4_code (4 : Nat) (Option.some Jvm.ClassFile.FieldType.int)).before args0 about1 = true := code_word (m := ⟨1, 3⟩) (meth := k1m3) (c := k1c3) (by decide +kernel) rfl rfl rfl (by decide +kernel)
set_option maxRecDepth 65536 in
theorem w_c5 : (Jvm.Cond.code ({ cls := "com/example/harborlog/harborlog/Utf8Decoder", name := "end", desc := "()Z" } : Jvm.MethodName) prog_155_method_5_code (2 : Nat) (Option.some Jvm.ClassFile.FieldType.boolean)).before args0 about1 = true := code_word (m := ⟨2, 3⟩) (meth := k2m3) (c := k2c3) (by decide +kernel) rfl rfl rfl (by decide +kernel)
set_option maxRecDepth 65536 in
theorem w_c6 : (Jvm.Cond.code ({ cls := "com/example/harborlog/harborlog/Utf8Decoder", name := "unfinished", desc := "()I" } : Jvm.MethodName) prog_155_method_4_code (1 : Nat) (Option.some Jvm.ClassFile.FieldType.int)).before args0 about1 = true := code_word (m := ⟨2, 2⟩) (meth := k2m2) (c := k2c2) (by decide +kernel) rfl rfl rfl (by decide +kernel)
set_option maxRecDepth 65536 in
theorem w_c7 : (Jvm.Cond.code ({ cls := "com/example/harborlog/harborlog/Utf8Decoder", name := "next", desc := "(I)I" } : Jvm.MethodName) prog_155_method_3_code (4 : Nat) (Option.some Jvm.ClassFile.FieldType.int)).before args0 about1 = true := code_word (m := ⟨2, 1⟩) (meth := k2m1) (c := k2c1) (by decide +kernel) rfl rfl rfl (by decide +kernel)
set_option maxRecDepth 65536 in
theorem w_c8 : (Jvm.Cond.code ({ cls := "com/example/harborlog/harborlog/Utf8DecoderEndPinLaw", name := "charLen", desc := "([III)I" } : Jvm.MethodName) method_5_code (6 : Nat) (Option.some Jvm.ClassFile.FieldType.int)).before args0 about1 = true := code_word (m := ⟨1, 4⟩) (meth := k1m4) (c := k1c4) (by decide +kernel) rfl rfl rfl (by decide +kernel)
set_option maxRecDepth 65536 in
theorem w_c9 : (Jvm.Cond.code ({ cls := "com/example/harborlog/harborlog/Utf8DecoderEndPinLaw", name := "in", desc := "([IIIII)Z" } : Jvm.MethodName) method_6_code (5 : Nat) (Option.some Jvm.ClassFile.FieldType.boolean)).before args0 about1 = true := code_word (m := ⟨1, 5⟩) (meth := k1m5) (c := k1c5) (by decide +kernel) rfl rfl rfl (by decide +kernel)
def codes1 : List Jvm.Cond := [Jvm.Cond.code x code maxLocals ret, Jvm.Cond.code ({ cls := "com/example/harborlog/harborlog/Utf8Decoder", name := "<init>", desc := "()V" } : Jvm.MethodName) prog_155_method_1_code (1 : Nat) (Option.none : Option Jvm.ClassFile.FieldType), Jvm.Cond.code ({ cls := "java/lang/Object", name := "<init>", desc := "()V" } : Jvm.MethodName) object_method_1_code (1 : Nat) (Option.none : Option Jvm.ClassFile.FieldType), Jvm.Cond.code ({ cls := "com/example/harborlog/harborlog/Utf8DecoderEndPinLaw", name := "wellFormed", desc := "([II)Z" } : Jvm.MethodName) method_3_code (3 : Nat) (Option.some Jvm.ClassFile.FieldType.boolean), Jvm.Cond.code ({ cls := "com/example/harborlog/harborlog/Utf8DecoderEndPinLaw", name := "step", desc := "([III)I" } : Jvm.MethodName) method_4_code (4 : Nat) (Option.some Jvm.ClassFile.FieldType.int), Jvm.Cond.code ({ cls := "com/example/harborlog/harborlog/Utf8Decoder", name := "end", desc := "()Z" } : Jvm.MethodName) prog_155_method_5_code (2 : Nat) (Option.some Jvm.ClassFile.FieldType.boolean), Jvm.Cond.code ({ cls := "com/example/harborlog/harborlog/Utf8Decoder", name := "unfinished", desc := "()I" } : Jvm.MethodName) prog_155_method_4_code (1 : Nat) (Option.some Jvm.ClassFile.FieldType.int), Jvm.Cond.code ({ cls := "com/example/harborlog/harborlog/Utf8Decoder", name := "next", desc := "(I)I" } : Jvm.MethodName) prog_155_method_3_code (4 : Nat) (Option.some Jvm.ClassFile.FieldType.int), Jvm.Cond.code ({ cls := "com/example/harborlog/harborlog/Utf8DecoderEndPinLaw", name := "charLen", desc := "([III)I" } : Jvm.MethodName) method_5_code (6 : Nat) (Option.some Jvm.ClassFile.FieldType.int), Jvm.Cond.code ({ cls := "com/example/harborlog/harborlog/Utf8DecoderEndPinLaw", name := "in", desc := "([IIIII)Z" } : Jvm.MethodName) method_6_code (5 : Nat) (Option.some Jvm.ClassFile.FieldType.boolean)]
set_option maxRecDepth 65536 in
theorem codes_eq : words1.filter isCode = codes1 := rfl
theorem w_codes : ∀ c ∈ words1.filter isCode, c.before args0 about1 = true := by
  rw [codes_eq]
  intro c hc
  simp only [codes1, List.mem_cons, List.not_mem_nil, or_false] at hc
  rcases hc with rfl | rfl | rfl | rfl | rfl | rfl | rfl | rfl | rfl | rfl
  · exact w_c0
  · exact w_c1
  · exact w_c2
  · exact w_c3
  · exact w_c4
  · exact w_c5
  · exact w_c6
  · exact w_c7
  · exact w_c8
  · exact w_c9
set_option maxRecDepth 65536 in
theorem w_t1 : (words1.take 24).all (fun c => isCode c || c.before args0 about1) = true := by decide +kernel
set_option maxRecDepth 65536 in
theorem w_t2 : ((words1.drop 24).take 24).all (fun c => isCode c || c.before args0 about1) = true := by decide +kernel
set_option maxRecDepth 65536 in
theorem w_t3 : ((words1.drop 24).drop 24).all (fun c => isCode c || c.before args0 about1) = true := by decide +kernel
theorem w_tables : (allAtoms (Jvm.Cond.code x code maxLocals ret :: tables_1)).before args0 about1 = true := by
  rw [allAtoms_all]
  show words1.all (fun c => c.before args0 about1) = true
  refine all_split ?_ w_codes
  rw [← List.take_append_drop 24 words1, List.all_append, w_t1, ← List.take_append_drop 24 (words1.drop 24), List.all_append, w_t2, w_t3]
  rfl
set_option maxRecDepth 65536 in
theorem w_case : (Jvm.Cond.and given_1 narrow_1).before args0 about1 = true := by decide +kernel
theorem w_applies : (headSpec (Jvm.Cond.code x code maxLocals ret :: tables_1) room_1).applies x e0.platform about1 = true :=
  (Spec.applies_iff w_frames).mpr ⟨w_running, w_runnable, w_alone, w_named, w_hears, w_ripe, w_room, w_tables⟩
theorem atStart : AtStart classFile x code maxLocals ret World_1 tables_1 room_1 Calls_1 rest_1 Pre_1 launch0 p0 e0 about1 theMethod args0 below0 :=
  ⟨lists_1, trivial, launch0.admits_env _ _ _, launch0.least_env, fairChoices_fair.cas, fairChoices_fair.clock, w_frames, w_args, w_heap, w_applies, trivial, trivial, w_case⟩
end start1
theorem witness_1 : WitnessClaimed_1 := ⟨start1.p0, start1.e0, start1.about1, start1.theMethod, start1.args0, start1.below0, start1.atStart⟩
end Jvm.Pilot.@@N@@
