import JvmDerived
import JvmDerived.Pilot.@@N@@Statement
import JvmDerived.Pilot.@@N@@Code
set_option linter.unusedVariables false
set_option linter.unusedSimpArgs false
namespace Jvm.Pilot.@@N@@
open Jvm Jvm.ClassFile Sem Op Lib Jvm.Free Jvm.Stand Jvm.LawKit Jvm.RoadKit Bundle Jvm.Pilot.@@N@@.Jvm.D
section OwnKit
variable {p : Program} {l : Launch} {e : Env} {R : Room} {s : State} {m : MethodId} {args : Array Value} {below : List Frame} {meth : Method} {c : Code} {T : State} {locs : List Loc} {cells slots : Nat} {Z : State} {a0 : Array Value} {h : Heap} {G : Outcome → State → Prop}
def oGo (p : Program) (e : Env) (below : List Frame) (G : Outcome → State → Prop) (T : State) (f : JFrame) : Prop :=
  ∃ s₂ o, Steps p.tables e below (T.setTop f) s₂ ∧ s₂.status = .running ∧ Ended s₂ below o ∧ G o s₂
theorem oGo.step {T' : State} {f f' : JFrame} (st : ∀ t, Steps p.tables e below (T'.setTop f') t → Steps p.tables e below (T.setTop f) t) (k : oGo p e below G T' f') : oGo p e below G T f := by
  obtain ⟨s₂, o, h1, h2⟩ := k
  exact ⟨s₂, o, st _ h1, h2⟩
def oG (s : State) (Q : Option Value → Heap → List Loc → Prop) (C N : Nat) : Outcome → State → Prop := fun o U' => ∃ v L, o = .returned v ∧ Q v U'.heap L ∧ FrameEnd s o U' L C N
def oCon (l : Launch) (Z : State) (y : MethodName) (bytes : ByteArray) (maxL : Nat) (ret : Option FieldType) (rm : Room) (as' : Array Value) (h : Heap) (Q : Option Value → Heap → List Loc → Prop) : Prop :=
  ∀ ws, MetFree l y (head1 (Jvm.Cond.code y bytes maxL ret :: ws) rm) (fun a U => a = as' ∧ Z.Warmed39 U.vm ∧ U.heap = h) (fun _ _ _ _ _ => True) (fun _ U o U' => ∃ v L, o = .returned v ∧ Q v U'.heap L ∧ FrameEnd U o U' L rm.cells rm.slots)
theorem oCon.of {y : MethodName} {bytes : ByteArray} {maxL : Nat} {ret : Option FieldType} {rm : Room} {as' : Array Value} {Q : Option Value → Heap → List Loc → Prop} (hpn : plainFor y = true)
    (body : ∀ p e s m below meth c s₁, p.tables.exec = Jvm.exec → c.code = bytes → c.maxLocals = maxL → s.vm.findClass y.cls = some m.cls → meth.name = y.name → meth.sig.returnType = ret → meth.locks = false → Z.Warmed39 s.vm → Stand p l e rm s m as' below meth c s₁ [] 0 0 → s₁.heap = h → oGo p e below (oG s Q rm.cells rm.slots) s₁ (entryFrame m as' maxL)) :
    oCon l Z y bytes maxL ret rm as' h Q := by
  intro ws
  refine MetFree.of_bodySF hpn hisR ?_
  intro p e s m args below meth c s₁ Bd hml0 hP hK
  obtain ⟨rfl, hZ, hh⟩ := hP
  exact body p e s m below meth c s₁ Bd.exec Bd.bytes hml0 (findClass_of_methodNamed Bd.named) (name_of_methodNamed Bd.named Bd.method).1 Bd.returns (BodyLoose.notSynchronized Bd) hZ (Stand.of_body Bd) (by rw [← hh, Bd.state]; rfl)
theorem o_iloadN (X : Stand p l e R s m args below meth c T locs cells slots) (hx : p.tables.exec = Jvm.exec) {pc pc' : Nat} {Ls : Array Slot} {st : List Value} {k : Fin 4} {v : Int32} (hd : decode c.code pc = .ok (.iload_n k, 1)) (hl : Ls[k.val]? = some (.val (.int v))) (hp : pc + 1 = pc') (q : oGo p e below G T (mkF m pc' Ls (.int v :: st))) : oGo p e below G T (mkF m pc Ls (st)) := by
  subst hp; exact q.step fun t r => XS.iloadN X.here hx rfl hd hl r
theorem o_iload (X : Stand p l e R s m args below meth c T locs cells slots) (hx : p.tables.exec = Jvm.exec) {pc pc' : Nat} {Ls : Array Slot} {st : List Value} {k : Nat} {v : Int32} (hd : decode c.code pc = .ok (.iload k, 2)) (hl : Ls[k]? = some (.val (.int v))) (hp : pc + 2 = pc') (q : oGo p e below G T (mkF m pc' Ls (.int v :: st))) : oGo p e below G T (mkF m pc Ls (st)) := by
  subst hp; exact q.step fun t r => XS.iload X.here hx rfl hd hl r
theorem o_istoreN (X : Stand p l e R s m args below meth c T locs cells slots) (hx : p.tables.exec = Jvm.exec) {pc pc' : Nat} {Ls : Array Slot} {st : List Value} {k : Fin 4} {v : Int32} {l' : Array Slot} (hd : decode c.code pc = .ok (.istore_n k, 1)) (hl : storeLocals Ls k.val (.int v) = some l') (hp : pc + 1 = pc') (q : oGo p e below G T (mkF m pc' l' (st))) : oGo p e below G T (mkF m pc Ls (.int v :: st)) := by
  subst hp; exact q.step fun t r => XS.istoreN X.here hx rfl hd rfl hl r
theorem o_istore (X : Stand p l e R s m args below meth c T locs cells slots) (hx : p.tables.exec = Jvm.exec) {pc pc' : Nat} {Ls : Array Slot} {st : List Value} {k : Nat} {v : Int32} {l' : Array Slot} (hd : decode c.code pc = .ok (.istore k, 2)) (hl : storeLocals Ls k (.int v) = some l') (hp : pc + 2 = pc') (q : oGo p e below G T (mkF m pc' l' (st))) : oGo p e below G T (mkF m pc Ls (.int v :: st)) := by
  subst hp; exact q.step fun t r => XS.istore X.here hx rfl hd rfl hl r
theorem o_lloadN (X : Stand p l e R s m args below meth c T locs cells slots) (hx : p.tables.exec = Jvm.exec) {pc pc' : Nat} {Ls : Array Slot} {st : List Value} {k : Fin 4} {v : Int64} (hd : decode c.code pc = .ok (.lload_n k, 1)) (hl : Ls[k.val]? = some (.val (.long v))) (hp : pc + 1 = pc') (q : oGo p e below G T (mkF m pc' Ls (.long v :: st))) : oGo p e below G T (mkF m pc Ls (st)) := by
  subst hp; exact q.step fun t r => XT.lloadN X.here hx rfl hd hl r
theorem o_lload (X : Stand p l e R s m args below meth c T locs cells slots) (hx : p.tables.exec = Jvm.exec) {pc pc' : Nat} {Ls : Array Slot} {st : List Value} {k : Nat} {v : Int64} (hd : decode c.code pc = .ok (.lload k, 2)) (hl : Ls[k]? = some (.val (.long v))) (hp : pc + 2 = pc') (q : oGo p e below G T (mkF m pc' Ls (.long v :: st))) : oGo p e below G T (mkF m pc Ls (st)) := by
  subst hp; exact q.step fun t r => XT.lload X.here hx rfl hd hl r
theorem o_lstoreN (X : Stand p l e R s m args below meth c T locs cells slots) (hx : p.tables.exec = Jvm.exec) {pc pc' : Nat} {Ls : Array Slot} {st : List Value} {k : Fin 4} {v : Int64} {l' : Array Slot} (hd : decode c.code pc = .ok (.lstore_n k, 1)) (hl : storeLocals Ls k.val (.long v) = some l') (hp : pc + 1 = pc') (q : oGo p e below G T (mkF m pc' l' (st))) : oGo p e below G T (mkF m pc Ls (.long v :: st)) := by
  subst hp; exact q.step fun t r => XT.lstoreN X.here hx rfl hd rfl hl r
theorem o_lstore (X : Stand p l e R s m args below meth c T locs cells slots) (hx : p.tables.exec = Jvm.exec) {pc pc' : Nat} {Ls : Array Slot} {st : List Value} {k : Nat} {v : Int64} {l' : Array Slot} (hd : decode c.code pc = .ok (.lstore k, 2)) (hl : storeLocals Ls k (.long v) = some l') (hp : pc + 2 = pc') (q : oGo p e below G T (mkF m pc' l' (st))) : oGo p e below G T (mkF m pc Ls (.long v :: st)) := by
  subst hp; exact q.step fun t r => XT.lstore X.here hx rfl hd rfl hl r
theorem o_aloadN (X : Stand p l e R s m args below meth c T locs cells slots) (hx : p.tables.exec = Jvm.exec) {pc pc' : Nat} {Ls : Array Slot} {st : List Value} {k : Fin 4} {v : Value} (hd : decode c.code pc = .ok (.aload_n k, 1)) (hl : Ls[k.val]? = some (.val v)) (hv : v.isRef = true) (hp : pc + 1 = pc') (q : oGo p e below G T (mkF m pc' Ls (v :: st))) : oGo p e below G T (mkF m pc Ls (st)) := by
  subst hp; exact q.step fun t r => XS.aloadN X.here hx rfl hd hl hv r
theorem o_aload (X : Stand p l e R s m args below meth c T locs cells slots) (hx : p.tables.exec = Jvm.exec) {pc pc' : Nat} {Ls : Array Slot} {st : List Value} {k : Nat} {v : Value} (hd : decode c.code pc = .ok (.aload k, 2)) (hl : Ls[k]? = some (.val v)) (hv : v.isRef = true) (hp : pc + 2 = pc') (q : oGo p e below G T (mkF m pc' Ls (v :: st))) : oGo p e below G T (mkF m pc Ls (st)) := by
  subst hp; exact q.step fun t r => XS.aload X.here hx rfl hd hl hv r
theorem o_astoreN (X : Stand p l e R s m args below meth c T locs cells slots) (hx : p.tables.exec = Jvm.exec) {pc pc' : Nat} {Ls : Array Slot} {st : List Value} {k : Fin 4} {v : Value} {l' : Array Slot} (hd : decode c.code pc = .ok (.astore_n k, 1)) (hv : v.isRef = true) (hl : storeLocals Ls k.val v = some l') (hp : pc + 1 = pc') (q : oGo p e below G T (mkF m pc' l' (st))) : oGo p e below G T (mkF m pc Ls (v :: st)) := by
  subst hp; exact q.step fun t r => XS.astoreN X.here hx rfl hd rfl hv hl r
theorem o_astore (X : Stand p l e R s m args below meth c T locs cells slots) (hx : p.tables.exec = Jvm.exec) {pc pc' : Nat} {Ls : Array Slot} {st : List Value} {k : Nat} {v : Value} {l' : Array Slot} (hd : decode c.code pc = .ok (.astore k, 2)) (hv : v.isRef = true) (hl : storeLocals Ls k v = some l') (hp : pc + 2 = pc') (q : oGo p e below G T (mkF m pc' l' (st))) : oGo p e below G T (mkF m pc Ls (v :: st)) := by
  subst hp; exact q.step fun t r => XS.astore X.here hx rfl hd rfl hv hl r
theorem o_iconst (X : Stand p l e R s m args below meth c T locs cells slots) (hx : p.tables.exec = Jvm.exec) {pc pc' : Nat} {Ls : Array Slot} {st : List Value} {i : Int} (v : Int32) (hd : decode c.code pc = .ok (.iconst i, 1)) (hv : Int32.ofInt i = v) (hp : pc + 1 = pc') (q : oGo p e below G T (mkF m pc' Ls (.int v :: st))) : oGo p e below G T (mkF m pc Ls (st)) := by
  subst hp; exact q.step fun t r => XT.iconstV X.here hx rfl v hd hv r
theorem o_bipush (X : Stand p l e R s m args below meth c T locs cells slots) (hx : p.tables.exec = Jvm.exec) {pc pc' : Nat} {Ls : Array Slot} {st : List Value} {i : Int} (v : Int32) (hd : decode c.code pc = .ok (.bipush i, 2)) (hv : (Int8.ofInt i).toInt32 = v) (hp : pc + 2 = pc') (q : oGo p e below G T (mkF m pc' Ls (.int v :: st))) : oGo p e below G T (mkF m pc Ls (st)) := by
  subst hp; exact q.step fun t r => XT.bipushV X.here hx rfl v hd hv r
theorem o_sipush (X : Stand p l e R s m args below meth c T locs cells slots) (hx : p.tables.exec = Jvm.exec) {pc pc' : Nat} {Ls : Array Slot} {st : List Value} {i : Int} (v : Int32) (hd : decode c.code pc = .ok (.sipush i, 3)) (hv : (Int16.ofInt i).toInt32 = v) (hp : pc + 3 = pc') (q : oGo p e below G T (mkF m pc' Ls (.int v :: st))) : oGo p e below G T (mkF m pc Ls (st)) := by
  subst hp; exact q.step fun t r => XT.sipushV X.here hx rfl v hd hv r
theorem o_lconst (X : Stand p l e R s m args below meth c T locs cells slots) (hx : p.tables.exec = Jvm.exec) {pc pc' : Nat} {Ls : Array Slot} {st : List Value} {k : Fin 2} (v : Int64) (hd : decode c.code pc = .ok (.lconst k, 1)) (hv : Int64.ofNat k = v) (hp : pc + 1 = pc') (q : oGo p e below G T (mkF m pc' Ls (.long v :: st))) : oGo p e below G T (mkF m pc Ls (st)) := by
  subst hp; exact q.step fun t r => XT.lconstV X.here hx rfl v hd hv r
theorem o_anull (X : Stand p l e R s m args below meth c T locs cells slots) (hx : p.tables.exec = Jvm.exec) {pc pc' : Nat} {Ls : Array Slot} {st : List Value} (hd : decode c.code pc = .ok (.aconst_null, 1)) (hp : pc + 1 = pc') (q : oGo p e below G T (mkF m pc' Ls (.null :: st))) : oGo p e below G T (mkF m pc Ls (st)) := by
  subst hp; exact q.step fun t r => XS.aconstNull X.here hx rfl hd r
theorem o_ldc (X : Stand p l e R s m args below meth c T locs cells slots) (hx : p.tables.exec = Jvm.exec) {pc pc' : Nat} {Ls : Array Slot} {st : List Value} {own : String} {index : Nat} {v : Int32} (hZ : Z.Warmed39 s.vm) (hown : s.vm.findClass own = some m.cls) (w : (Jvm.Cond.constant own index v).before a0 Z = true) (hd : decode c.code pc = .ok (.ldc index, 2)) (hp : pc + 2 = pc') (q : oGo p e below G T (mkF m pc' Ls (.int v :: st))) : oGo p e below G T (mkF m pc Ls (st)) := by
  subst hp; exact q.step fun t r => X.ldcI hx hown (mvT hZ w) rfl hd r
theorem o_ldcw (X : Stand p l e R s m args below meth c T locs cells slots) (hx : p.tables.exec = Jvm.exec) {pc pc' : Nat} {Ls : Array Slot} {st : List Value} {own : String} {index : Nat} {v : Int32} (hZ : Z.Warmed39 s.vm) (hown : s.vm.findClass own = some m.cls) (w : (Jvm.Cond.constant own index v).before a0 Z = true) (hd : decode c.code pc = .ok (.ldc_w index, 3)) (hp : pc + 3 = pc') (q : oGo p e below G T (mkF m pc' Ls (.int v :: st))) : oGo p e below G T (mkF m pc Ls (st)) := by
  subst hp; exact q.step fun t r => X.ldcWI hx hown (mvT hZ w) rfl hd r
theorem o_ldc2 (X : Stand p l e R s m args below meth c T locs cells slots) (hx : p.tables.exec = Jvm.exec) {pc pc' : Nat} {Ls : Array Slot} {st : List Value} {own : String} {index : Nat} {v : Int64} (hZ : Z.Warmed39 s.vm) (hown : s.vm.findClass own = some m.cls) (w : (Jvm.Cond.constantLong own index v).before a0 Z = true) (hd : decode c.code pc = .ok (.ldc2_w index, 3)) (hp : pc + 3 = pc') (q : oGo p e below G T (mkF m pc' Ls (.long v :: st))) : oGo p e below G T (mkF m pc Ls (st)) := by
  subst hp; exact q.step fun t r => X.ldc2J hx hown (mvT hZ w) rfl hd r
theorem o_iadd (X : Stand p l e R s m args below meth c T locs cells slots) (hx : p.tables.exec = Jvm.exec) {pc pc' : Nat} {Ls : Array Slot} {st : List Value} {x y : Int32} (hd : decode c.code pc = .ok (.iadd, 1)) (hp : pc + 1 = pc') (q : oGo p e below G T (mkF m pc' Ls (.int (x + y) :: st))) : oGo p e below G T (mkF m pc Ls (.int y :: .int x :: st)) := by
  subst hp; exact q.step fun t r => XS.iadd X.here hx rfl hd rfl r
theorem o_isub (X : Stand p l e R s m args below meth c T locs cells slots) (hx : p.tables.exec = Jvm.exec) {pc pc' : Nat} {Ls : Array Slot} {st : List Value} {x y : Int32} (hd : decode c.code pc = .ok (.isub, 1)) (hp : pc + 1 = pc') (q : oGo p e below G T (mkF m pc' Ls (.int (x - y) :: st))) : oGo p e below G T (mkF m pc Ls (.int y :: .int x :: st)) := by
  subst hp; exact q.step fun t r => XS.isub X.here hx rfl hd rfl r
theorem o_imul (X : Stand p l e R s m args below meth c T locs cells slots) (hx : p.tables.exec = Jvm.exec) {pc pc' : Nat} {Ls : Array Slot} {st : List Value} {x y : Int32} (hd : decode c.code pc = .ok (.imul, 1)) (hp : pc + 1 = pc') (q : oGo p e below G T (mkF m pc' Ls (.int (x * y) :: st))) : oGo p e below G T (mkF m pc Ls (.int y :: .int x :: st)) := by
  subst hp; exact q.step fun t r => XS.imul X.here hx rfl hd rfl r
theorem o_iand (X : Stand p l e R s m args below meth c T locs cells slots) (hx : p.tables.exec = Jvm.exec) {pc pc' : Nat} {Ls : Array Slot} {st : List Value} {x y : Int32} (hd : decode c.code pc = .ok (.iand, 1)) (hp : pc + 1 = pc') (q : oGo p e below G T (mkF m pc' Ls (.int (x &&& y) :: st))) : oGo p e below G T (mkF m pc Ls (.int y :: .int x :: st)) := by
  subst hp; exact q.step fun t r => XS.iand X.here hx rfl hd rfl r
theorem o_ior (X : Stand p l e R s m args below meth c T locs cells slots) (hx : p.tables.exec = Jvm.exec) {pc pc' : Nat} {Ls : Array Slot} {st : List Value} {x y : Int32} (hd : decode c.code pc = .ok (.ior, 1)) (hp : pc + 1 = pc') (q : oGo p e below G T (mkF m pc' Ls (.int (x ||| y) :: st))) : oGo p e below G T (mkF m pc Ls (.int y :: .int x :: st)) := by
  subst hp; exact q.step fun t r => XT.ior X.here hx rfl hd rfl r
theorem o_ixor (X : Stand p l e R s m args below meth c T locs cells slots) (hx : p.tables.exec = Jvm.exec) {pc pc' : Nat} {Ls : Array Slot} {st : List Value} {x y : Int32} (hd : decode c.code pc = .ok (.ixor, 1)) (hp : pc + 1 = pc') (q : oGo p e below G T (mkF m pc' Ls (.int (x ^^^ y) :: st))) : oGo p e below G T (mkF m pc Ls (.int y :: .int x :: st)) := by
  subst hp; exact q.step fun t r => XT.ixor X.here hx rfl hd rfl r
theorem o_ishl (X : Stand p l e R s m args below meth c T locs cells slots) (hx : p.tables.exec = Jvm.exec) {pc pc' : Nat} {Ls : Array Slot} {st : List Value} {x y : Int32} (hd : decode c.code pc = .ok (.ishl, 1)) (hp : pc + 1 = pc') (q : oGo p e below G T (mkF m pc' Ls (.int (x <<< (y &&& 31)) :: st))) : oGo p e below G T (mkF m pc Ls (.int y :: .int x :: st)) := by
  subst hp; exact q.step fun t r => XT.ishl X.here hx rfl hd rfl r
theorem o_ishr (X : Stand p l e R s m args below meth c T locs cells slots) (hx : p.tables.exec = Jvm.exec) {pc pc' : Nat} {Ls : Array Slot} {st : List Value} {x y : Int32} (hd : decode c.code pc = .ok (.ishr, 1)) (hp : pc + 1 = pc') (q : oGo p e below G T (mkF m pc' Ls (.int (x >>> (y &&& 31)) :: st))) : oGo p e below G T (mkF m pc Ls (.int y :: .int x :: st)) := by
  subst hp; exact q.step fun t r => XT.ishr X.here hx rfl hd rfl r
theorem o_iushr (X : Stand p l e R s m args below meth c T locs cells slots) (hx : p.tables.exec = Jvm.exec) {pc pc' : Nat} {Ls : Array Slot} {st : List Value} {x y : Int32} (hd : decode c.code pc = .ok (.iushr, 1)) (hp : pc + 1 = pc') (q : oGo p e below G T (mkF m pc' Ls (.int (XT.ushr x y) :: st))) : oGo p e below G T (mkF m pc Ls (.int y :: .int x :: st)) := by
  subst hp; exact q.step fun t r => XT.iushr X.here hx rfl hd rfl r
theorem o_ladd (X : Stand p l e R s m args below meth c T locs cells slots) (hx : p.tables.exec = Jvm.exec) {pc pc' : Nat} {Ls : Array Slot} {st : List Value} {x y : Int64} (hd : decode c.code pc = .ok (.ladd, 1)) (hp : pc + 1 = pc') (q : oGo p e below G T (mkF m pc' Ls (.long (x + y) :: st))) : oGo p e below G T (mkF m pc Ls (.long y :: .long x :: st)) := by
  subst hp; exact q.step fun t r => XT.ladd X.here hx rfl hd rfl r
theorem o_lsub (X : Stand p l e R s m args below meth c T locs cells slots) (hx : p.tables.exec = Jvm.exec) {pc pc' : Nat} {Ls : Array Slot} {st : List Value} {x y : Int64} (hd : decode c.code pc = .ok (.lsub, 1)) (hp : pc + 1 = pc') (q : oGo p e below G T (mkF m pc' Ls (.long (x - y) :: st))) : oGo p e below G T (mkF m pc Ls (.long y :: .long x :: st)) := by
  subst hp; exact q.step fun t r => XT.lsub X.here hx rfl hd rfl r
theorem o_lmul (X : Stand p l e R s m args below meth c T locs cells slots) (hx : p.tables.exec = Jvm.exec) {pc pc' : Nat} {Ls : Array Slot} {st : List Value} {x y : Int64} (hd : decode c.code pc = .ok (.lmul, 1)) (hp : pc + 1 = pc') (q : oGo p e below G T (mkF m pc' Ls (.long (x * y) :: st))) : oGo p e below G T (mkF m pc Ls (.long y :: .long x :: st)) := by
  subst hp; exact q.step fun t r => XT.lmul X.here hx rfl hd rfl r
theorem o_land (X : Stand p l e R s m args below meth c T locs cells slots) (hx : p.tables.exec = Jvm.exec) {pc pc' : Nat} {Ls : Array Slot} {st : List Value} {x y : Int64} (hd : decode c.code pc = .ok (.land, 1)) (hp : pc + 1 = pc') (q : oGo p e below G T (mkF m pc' Ls (.long (x &&& y) :: st))) : oGo p e below G T (mkF m pc Ls (.long y :: .long x :: st)) := by
  subst hp; exact q.step fun t r => XT.land X.here hx rfl hd rfl r
theorem o_lor (X : Stand p l e R s m args below meth c T locs cells slots) (hx : p.tables.exec = Jvm.exec) {pc pc' : Nat} {Ls : Array Slot} {st : List Value} {x y : Int64} (hd : decode c.code pc = .ok (.lor, 1)) (hp : pc + 1 = pc') (q : oGo p e below G T (mkF m pc' Ls (.long (x ||| y) :: st))) : oGo p e below G T (mkF m pc Ls (.long y :: .long x :: st)) := by
  subst hp; exact q.step fun t r => XT.lor X.here hx rfl hd rfl r
theorem o_lxor (X : Stand p l e R s m args below meth c T locs cells slots) (hx : p.tables.exec = Jvm.exec) {pc pc' : Nat} {Ls : Array Slot} {st : List Value} {x y : Int64} (hd : decode c.code pc = .ok (.lxor, 1)) (hp : pc + 1 = pc') (q : oGo p e below G T (mkF m pc' Ls (.long (x ^^^ y) :: st))) : oGo p e below G T (mkF m pc Ls (.long y :: .long x :: st)) := by
  subst hp; exact q.step fun t r => XT.lxor X.here hx rfl hd rfl r
theorem o_lshl (X : Stand p l e R s m args below meth c T locs cells slots) (hx : p.tables.exec = Jvm.exec) {pc pc' : Nat} {Ls : Array Slot} {st : List Value} {x : Int64} {y : Int32} (hd : decode c.code pc = .ok (.lshl, 1)) (hp : pc + 1 = pc') (q : oGo p e below G T (mkF m pc' Ls (.long (x <<< (y.toInt64 &&& 63)) :: st))) : oGo p e below G T (mkF m pc Ls (.int y :: .long x :: st)) := by
  subst hp; exact q.step fun t r => XT.lshl X.here hx rfl hd rfl r
theorem o_lshr (X : Stand p l e R s m args below meth c T locs cells slots) (hx : p.tables.exec = Jvm.exec) {pc pc' : Nat} {Ls : Array Slot} {st : List Value} {x : Int64} {y : Int32} (hd : decode c.code pc = .ok (.lshr, 1)) (hp : pc + 1 = pc') (q : oGo p e below G T (mkF m pc' Ls (.long (x >>> (y.toInt64 &&& 63)) :: st))) : oGo p e below G T (mkF m pc Ls (.int y :: .long x :: st)) := by
  subst hp; exact q.step fun t r => XT.lshr X.here hx rfl hd rfl r
theorem o_lushr (X : Stand p l e R s m args below meth c T locs cells slots) (hx : p.tables.exec = Jvm.exec) {pc pc' : Nat} {Ls : Array Slot} {st : List Value} {x : Int64} {y : Int32} (hd : decode c.code pc = .ok (.lushr, 1)) (hp : pc + 1 = pc') (q : oGo p e below G T (mkF m pc' Ls (.long (XT.ushrL x y) :: st))) : oGo p e below G T (mkF m pc Ls (.int y :: .long x :: st)) := by
  subst hp; exact q.step fun t r => XT.lushr X.here hx rfl hd rfl r
theorem o_lcmp (X : Stand p l e R s m args below meth c T locs cells slots) (hx : p.tables.exec = Jvm.exec) {pc pc' : Nat} {Ls : Array Slot} {st : List Value} {x y : Int64} (hd : decode c.code pc = .ok (.lcmp, 1)) (hp : pc + 1 = pc') (q : oGo p e below G T (mkF m pc' Ls (.int (XT.cmpL x y) :: st))) : oGo p e below G T (mkF m pc Ls (.long y :: .long x :: st)) := by
  subst hp; exact q.step fun t r => XT.lcmp X.here hx rfl hd rfl r
theorem o_irem (X : Stand p l e R s m args below meth c T locs cells slots) (hx : p.tables.exec = Jvm.exec) {pc pc' : Nat} {Ls : Array Slot} {st : List Value} {x y : Int32} (hd : decode c.code pc = .ok (.irem, 1)) (hy : y ≠ 0) (hp : pc + 1 = pc') (q : oGo p e below G T (mkF m pc' Ls (.int (x % y) :: st))) : oGo p e below G T (mkF m pc Ls (.int y :: .int x :: st)) := by
  subst hp; exact q.step fun t r => iremM X hx rfl hd rfl hy r
theorem o_lrem (X : Stand p l e R s m args below meth c T locs cells slots) (hx : p.tables.exec = Jvm.exec) {pc pc' : Nat} {Ls : Array Slot} {st : List Value} {x y : Int64} (hd : decode c.code pc = .ok (.lrem, 1)) (hy : y ≠ 0) (hp : pc + 1 = pc') (q : oGo p e below G T (mkF m pc' Ls (.long (x % y) :: st))) : oGo p e below G T (mkF m pc Ls (.long y :: .long x :: st)) := by
  subst hp; exact q.step fun t r => XT.lrem X.here hx rfl hd rfl hy (by rw [lrem_mod]; exact r)
theorem o_i2l (X : Stand p l e R s m args below meth c T locs cells slots) (hx : p.tables.exec = Jvm.exec) {pc pc' : Nat} {Ls : Array Slot} {st : List Value} {x : Int32} (hd : decode c.code pc = .ok (.i2l, 1)) (hp : pc + 1 = pc') (q : oGo p e below G T (mkF m pc' Ls (.long (x.toInt64) :: st))) : oGo p e below G T (mkF m pc Ls (.int x :: st)) := by
  subst hp; exact q.step fun t r => XT.i2l X.here hx rfl hd rfl r
theorem o_l2i (X : Stand p l e R s m args below meth c T locs cells slots) (hx : p.tables.exec = Jvm.exec) {pc pc' : Nat} {Ls : Array Slot} {st : List Value} {x : Int64} (hd : decode c.code pc = .ok (.l2i, 1)) (hp : pc + 1 = pc') (q : oGo p e below G T (mkF m pc' Ls (.int (x.toInt32) :: st))) : oGo p e below G T (mkF m pc Ls (.long x :: st)) := by
  subst hp; exact q.step fun t r => XT.l2i X.here hx rfl hd rfl r
theorem o_i2c (X : Stand p l e R s m args below meth c T locs cells slots) (hx : p.tables.exec = Jvm.exec) {pc pc' : Nat} {Ls : Array Slot} {st : List Value} {x : Int32} (hd : decode c.code pc = .ok (.i2c, 1)) (hp : pc + 1 = pc') (q : oGo p e below G T (mkF m pc' Ls (.int (x.toUInt32.toUInt16.toUInt32.toInt32) :: st))) : oGo p e below G T (mkF m pc Ls (.int x :: st)) := by
  subst hp; exact q.step fun t r => XT.i2c X.here hx rfl hd rfl r
theorem o_i2b (X : Stand p l e R s m args below meth c T locs cells slots) (hx : p.tables.exec = Jvm.exec) {pc pc' : Nat} {Ls : Array Slot} {st : List Value} {x : Int32} (hd : decode c.code pc = .ok (.i2b, 1)) (hp : pc + 1 = pc') (q : oGo p e below G T (mkF m pc' Ls (.int (x.toInt8.toInt32) :: st))) : oGo p e below G T (mkF m pc Ls (.int x :: st)) := by
  subst hp; exact q.step fun t r => XT.i2b X.here hx rfl hd rfl r
theorem o_iinc (X : Stand p l e R s m args below meth c T locs cells slots) (hx : p.tables.exec = Jvm.exec) {pc pc' : Nat} {Ls : Array Slot} {st : List Value} {k : Nat} {cst : Int} {x : Int32} {l' : Array Slot} (v : Int32) (hd : decode c.code pc = .ok (.iinc k cst, 3)) (hv : Int32.ofInt cst = v) (hl : Ls[k]? = some (.val (.int x))) (hl' : storeLocals Ls k (.int (x + v)) = some l') (hp : pc + 3 = pc') (q : oGo p e below G T (mkF m pc' l' (st))) : oGo p e below G T (mkF m pc Ls (st)) := by
  subst hp; exact q.step fun t r => XT.iincV X.here hx rfl v hd hv hl hl' r
theorem o_dup (X : Stand p l e R s m args below meth c T locs cells slots) (hx : p.tables.exec = Jvm.exec) {pc pc' : Nat} {Ls : Array Slot} {st : List Value} {v : Value} (hd : decode c.code pc = .ok (.dup, 1)) (hc : v.category = 1) (hp : pc + 1 = pc') (q : oGo p e below G T (mkF m pc' Ls (v :: v :: st))) : oGo p e below G T (mkF m pc Ls (v :: st)) := by
  subst hp; exact q.step fun t r => XS.dup X.here hx rfl hd rfl hc r
theorem o_pop (X : Stand p l e R s m args below meth c T locs cells slots) (hx : p.tables.exec = Jvm.exec) {pc pc' : Nat} {Ls : Array Slot} {st : List Value} {v : Value} (hd : decode c.code pc = .ok (.pop, 1)) (hc : v.category = 1) (hp : pc + 1 = pc') (q : oGo p e below G T (mkF m pc' Ls (st))) : oGo p e below G T (mkF m pc Ls (v :: st)) := by
  subst hp; exact q.step fun t r => XT.pop X.here hx rfl hd rfl hc r
theorem o_goto (X : Stand p l e R s m args below meth c T locs cells slots) (hx : p.tables.exec = Jvm.exec) {pc pc' : Nat} {Ls : Array Slot} {st : List Value} {o : Int} (hd : decode c.code pc = .ok (.goto o, 3)) (ho : 0 ≤ (pc : Int) + o) (hp : ((pc : Int) + o).toNat = pc') (q : oGo p e below G T (mkF m pc' Ls (st))) : oGo p e below G T (mkF m pc Ls (st)) :=
  q.step fun t r => XS.goto X.here hx rfl rfl hd ho hp r
theorem o_icmpT (X : Stand p l e R s m args below meth c T locs cells slots) (hx : p.tables.exec = Jvm.exec) {pc pc' : Nat} {Ls : Array Slot} {st : List Value} {o : Int} {cd : ClassFile.Cond} {x y : Int32} (hd : decode c.code pc = .ok (.if_icmp cd o, 3)) (hc : if_icmp.holds cd x y = true) (ho : 0 ≤ (pc : Int) + o) (hp : ((pc : Int) + o).toNat = pc') (q : oGo p e below G T (mkF m pc' Ls (st))) : oGo p e below G T (mkF m pc Ls (.int y :: .int x :: st)) :=
  q.step fun t r => XS.icmpYes X.here hx rfl rfl hd rfl hc ho hp r
theorem o_icmpF (X : Stand p l e R s m args below meth c T locs cells slots) (hx : p.tables.exec = Jvm.exec) {pc pc' : Nat} {Ls : Array Slot} {st : List Value} {o : Int} {cd : ClassFile.Cond} {x y : Int32} (hd : decode c.code pc = .ok (.if_icmp cd o, 3)) (hc : if_icmp.holds cd x y = false) (hp : pc + 3 = pc') (q : oGo p e below G T (mkF m pc' Ls (st))) : oGo p e below G T (mkF m pc Ls (.int y :: .int x :: st)) := by
  subst hp; exact q.step fun t r => XS.icmpNo X.here hx rfl hd rfl hc r
theorem o_ifT (X : Stand p l e R s m args below meth c T locs cells slots) (hx : p.tables.exec = Jvm.exec) {pc pc' : Nat} {Ls : Array Slot} {st : List Value} {o : Int} {cd : ClassFile.Cond} {x : Int32} (hd : decode c.code pc = .ok (.ifCond cd o, 3)) (hc : ifCond.holds cd x = true) (ho : 0 ≤ (pc : Int) + o) (hp : ((pc : Int) + o).toNat = pc') (q : oGo p e below G T (mkF m pc' Ls (st))) : oGo p e below G T (mkF m pc Ls (.int x :: st)) :=
  q.step fun t r => XS.ifYes X.here hx rfl rfl hd rfl hc ho hp r
theorem o_ifF (X : Stand p l e R s m args below meth c T locs cells slots) (hx : p.tables.exec = Jvm.exec) {pc pc' : Nat} {Ls : Array Slot} {st : List Value} {o : Int} {cd : ClassFile.Cond} {x : Int32} (hd : decode c.code pc = .ok (.ifCond cd o, 3)) (hc : ifCond.holds cd x = false) (hp : pc + 3 = pc') (q : oGo p e below G T (mkF m pc' Ls (st))) : oGo p e below G T (mkF m pc Ls (.int x :: st)) := by
  subst hp; exact q.step fun t r => XS.ifNo X.here hx rfl hd rfl hc r
theorem o_acmpT (X : Stand p l e R s m args below meth c T locs cells slots) (hx : p.tables.exec = Jvm.exec) {pc pc' : Nat} {Ls : Array Slot} {st : List Value} {o : Int} {cd : ClassFile.ACond} {x y : Value} (hd : decode c.code pc = .ok (.if_acmp cd o, 3)) (h1 : x.isRef = true) (h2 : y.isRef = true) (hc : XT.acmp cd x y = true) (ho : 0 ≤ (pc : Int) + o) (hp : ((pc : Int) + o).toNat = pc') (q : oGo p e below G T (mkF m pc' Ls (st))) : oGo p e below G T (mkF m pc Ls (y :: x :: st)) :=
  q.step fun t r => XT.acmpYes X.here hx rfl rfl hd rfl h1 h2 hc ho hp r
theorem o_acmpF (X : Stand p l e R s m args below meth c T locs cells slots) (hx : p.tables.exec = Jvm.exec) {pc pc' : Nat} {Ls : Array Slot} {st : List Value} {o : Int} {cd : ClassFile.ACond} {x y : Value} (hd : decode c.code pc = .ok (.if_acmp cd o, 3)) (h1 : x.isRef = true) (h2 : y.isRef = true) (hc : XT.acmp cd x y = false) (hp : pc + 3 = pc') (q : oGo p e below G T (mkF m pc' Ls (st))) : oGo p e below G T (mkF m pc Ls (y :: x :: st)) := by
  subst hp; exact q.step fun t r => XT.acmpNo X.here hx rfl hd rfl h1 h2 hc r
theorem o_retI (X : Stand p l e R s m args below meth c T locs cells slots) (hx : p.tables.exec = Jvm.exec) (hret : meth.sig.returnType = some .int) (hlk : meth.locks = false) {pc : Nat} {Ls : Array Slot} {st : List Value} {z : Int32} (hd : decode c.code pc = .ok (.ireturn, 1)) {Q : Option Value → Heap → List Loc → Prop} {C N : Nat} (hc : cells ≤ C) (hn : slots ≤ N) (hQ : Q (some (.int z)) T.heap locs) : oGo p e below (oG s Q C N) T (mkF m pc Ls (.int z :: st)) := by
  obtain ⟨fs, hr, hrun, hended, hW, hsame⟩ := X.leave (v := some (.int z)) (fun h => by rw [hret] at h; cases h) hlk
  exact ⟨_, _, retOut X hx hret rfl (Or.inl ⟨rfl, Or.inl rfl, _, rfl⟩) hd hr, hrun, hended, _, _, rfl, hQ, ⟨_, rfl⟩, hW, hsame.mono hc hn⟩
theorem o_retJ (X : Stand p l e R s m args below meth c T locs cells slots) (hx : p.tables.exec = Jvm.exec) (hret : meth.sig.returnType = some .long) (hlk : meth.locks = false) {pc : Nat} {Ls : Array Slot} {st : List Value} {z : Int64} (hd : decode c.code pc = .ok (.lreturn, 1)) {Q : Option Value → Heap → List Loc → Prop} {C N : Nat} (hc : cells ≤ C) (hn : slots ≤ N) (hQ : Q (some (.long z)) T.heap locs) : oGo p e below (oG s Q C N) T (mkF m pc Ls (.long z :: st)) := by
  obtain ⟨fs, hr, hrun, hended, hW, hsame⟩ := X.leave (v := some (.long z)) (fun h => by rw [hret] at h; cases h) hlk
  exact ⟨_, _, retOut X hx hret rfl (Or.inr (Or.inl ⟨rfl, rfl, _, rfl⟩)) hd hr, hrun, hended, _, _, rfl, hQ, ⟨_, rfl⟩, hW, hsame.mono hc hn⟩
theorem o_retD (X : Stand p l e R s m args below meth c T locs cells slots) (hx : p.tables.exec = Jvm.exec) (hret : meth.sig.returnType = some .double) (hlk : meth.locks = false) {pc : Nat} {Ls : Array Slot} {st : List Value} {z : UInt64} (hd : decode c.code pc = .ok (.dreturn, 1)) {Q : Option Value → Heap → List Loc → Prop} {C N : Nat} (hc : cells ≤ C) (hn : slots ≤ N) (hQ : Q (some (.double z)) T.heap locs) : oGo p e below (oG s Q C N) T (mkF m pc Ls (.double z :: st)) := by
  obtain ⟨fs, hr, hrun, hended, hW, hsame⟩ := X.leave (v := some (.double z)) (fun h => by rw [hret] at h; cases h) hlk
  exact ⟨_, _, retOut X hx hret rfl (Or.inr (Or.inr (Or.inl ⟨rfl, rfl, _, rfl⟩))) hd hr, hrun, hended, _, _, rfl, hQ, ⟨_, rfl⟩, hW, hsame.mono hc hn⟩
theorem o_retZ (X : Stand p l e R s m args below meth c T locs cells slots) (hx : p.tables.exec = Jvm.exec) (hret : meth.sig.returnType = some .boolean) (hlk : meth.locks = false) {pc : Nat} {Ls : Array Slot} {st : List Value} {z : Int32} (hd : decode c.code pc = .ok (.ireturn, 1)) (hz : z &&& 1 = z) {Q : Option Value → Heap → List Loc → Prop} {C N : Nat} (hc : cells ≤ C) (hn : slots ≤ N) (hQ : Q (some (.int z)) T.heap locs) : oGo p e below (oG s Q C N) T (mkF m pc Ls (.int z :: st)) := by
  obtain ⟨fs, hr, hrun, hended, hW, hsame⟩ := X.leave (v := some (.int z)) (fun h => by rw [hret] at h; cases h) hlk
  have hz' : nar .boolean z = z := hz
  exact ⟨_, _, retN X hx (t := .boolean) hret (Or.inl rfl) hd (by rw [hz']; exact hr), hrun, hended, _, _, rfl, hQ, ⟨_, rfl⟩, hW, hsame.mono hc hn⟩
theorem o_retA (X : Stand p l e R s m args below meth c T locs cells slots) (hx : p.tables.exec = Jvm.exec) {C1 : FieldType} (hret : meth.sig.returnType = some C1) (ht : C1.isReference = true) (hlk : meth.locks = false) {pc : Nat} {Ls : Array Slot} {st : List Value} {z : Value} (hz : z.isRef = true) (hna : narrow C1 z = z) (hd : decode c.code pc = .ok (.areturn, 1)) {Q : Option Value → Heap → List Loc → Prop} {C N : Nat} (hc : cells ≤ C) (hn : slots ≤ N) (hQ : Q (some z) T.heap locs) : oGo p e below (oG s Q C N) T (mkF m pc Ls (z :: st)) := by
  obtain ⟨fs, hr, hrun, hended, hW, hsame⟩ := X.leave (v := some z) (fun h => by rw [hret] at h; cases h) hlk
  exact ⟨_, _, retOut X hx hret hna (Or.inr (Or.inr (Or.inr (Or.inr ⟨rfl, ht, hz⟩)))) hd hr, hrun, hended, _, _, rfl, hQ, ⟨_, rfl⟩, hW, hsame.mono hc hn⟩
theorem o_retV (X : Stand p l e R s m args below meth c T locs cells slots) (hx : p.tables.exec = Jvm.exec) (hret : meth.sig.returnType = none) (hlk : meth.locks = false) {pc : Nat} {Ls : Array Slot} (hd : decode c.code pc = .ok (.return_, 1)) {Q : Option Value → Heap → List Loc → Prop} {C N : Nat} (hc : cells ≤ C) (hn : slots ≤ N) (hQ : Q none T.heap locs) : oGo p e below (oG s Q C N) T (mkF m pc Ls []) := by
  obtain ⟨fs, hr, hrun, hended, hW, hsame⟩ := X.leave (v := none) (fun _ => rfl) hlk
  exact ⟨_, _, X.returnOut hx hret hd hr, hrun, hended, _, _, rfl, hQ, ⟨_, rfl⟩, hW, hsame.mono hc hn⟩
theorem o_callS (X : Stand p l e R s m args below meth c T locs cells slots) (hx : p.tables.exec = Jvm.exec) (hZ : Z.Warmed39 s.vm) {own : String} {index : Nat} {y : MethodName} {bytes : ByteArray} {maxL : Nat} {ret : Option FieldType} (hown : s.vm.findClass own = some m.cls) (w1 : (Jvm.Cond.methodLink own index y).before a0 Z = true) (w2 : (Jvm.Cond.static y).before a0 Z = true) (w3 : (Jvm.Cond.initialized y.cls).before a0 Z = true) (w4 : (Jvm.Cond.code y bytes maxL ret).before a0 Z = true) (hy : y.cls ≠ "java/lang/invoke/MethodHandle" ∧ y.cls ≠ "java/lang/invoke/VarHandle") {rm : Room} {as' : Array Value} {Q : Option Value → Heap → List Loc → Prop} (hM : oCon l Z y bytes maxL ret rm as' h Q) (eT : T.heap = h) {pc pc' : Nat} {Ls : Array Slot} {st : List Value} (hsz : Ls.size = c.maxLocals) (argsL rest : List Value) (has : argsL.toArray = as') {ps : List FieldType} {rr : Option FieldType} (hpd : parseMethodDescriptor y.desc = some ⟨ps, rr⟩) (hlen : argsL.length = ps.length) (hst : st = argsL.reverse ++ rest) (W : Nat) (hW : (rest.map fun v => v.category).sum ≤ W) (hd : decode c.code pc = .ok (.invokestatic index, 3)) (hp : pc + 3 = pc') (hf : rm.frames + 1 ≤ R.frames) (hl : W + (maxL + 11) + rm.locals ≤ R.locals) (hc : cells + rm.cells ≤ R.cells) (hn : slots + rm.slots ≤ R.slots) :
    ∃ v T' L, Stand p l e R s m args below meth c T' (locs ++ L) (cells + rm.cells) (slots + rm.slots) ∧ Q v T'.heap L ∧ ∀ t, Steps p.tables e below (T'.setTop (mkF m pc' Ls (v.toList ++ rest))) t → Steps p.tables e below (T.setTop (mkF m pc Ls st)) t := by
  subst hp has
  obtain ⟨v, vm₁, ⟨T', L', k', n'⟩, -, X', ⟨Lc, hQ, l1, y1, z1⟩, st'⟩ := Jvm.LawKit.callS X hx hown (mvT hZ w1) (mvT hZ w2) (mvT hZ w3) (mvT hZ w4) hy (backOf (W := W) (hM []) hZ w4 w3 hf hl) (g := mkF m pc Ls st) rfl hsz (argsL := argsL) (rest := rest) (lenOf hpd hlen) hst (by show 2 * 0 + _ ≤ _; omega) hd (fun _ _ => ⟨rfl, eT, hc, hn⟩)
  dsimp only [Pt.U, Pt.locs, Pt.cells, Pt.slots] at X' l1 y1 z1 st' hQ
  subst l1 y1 z1
  exact ⟨v, T', Lc, X', hQ, st'⟩
theorem o_callN (X : Stand p l e R s m args below meth c T locs cells slots) (hx : p.tables.exec = Jvm.exec) (hZ : Z.Warmed39 s.vm) {own : String} {index : Nat} {y : MethodName} {bytes : ByteArray} {maxL : Nat} (hown : s.vm.findClass own = some m.cls) (hi : y.name = "<init>") (w1 : (Jvm.Cond.methodLink own index y).before a0 Z = true) (w2 : (Jvm.Cond.instanceMethod y).before a0 Z = true) (w3 : (Jvm.Cond.initialized y.cls).before a0 Z = true) (w4 : (Jvm.Cond.code y bytes maxL none).before a0 Z = true) (hy : y.cls ≠ "java/lang/invoke/MethodHandle" ∧ y.cls ≠ "java/lang/invoke/VarHandle") {rm : Room} {as' : Array Value} {Q : Option Value → Heap → List Loc → Prop} (hM : oCon l Z y bytes maxL none rm as' h Q) (eT : T.heap = h) {pc pc' : Nat} {Ls : Array Slot} {st : List Value} (hsz : Ls.size = c.maxLocals) {a : Addr} (argsL rest : List Value) (has : (Value.ref a :: argsL).toArray = as') {ps : List FieldType} {rr : Option FieldType} (hpd : parseMethodDescriptor y.desc = some ⟨ps, rr⟩) (hlen : argsL.length = ps.length) (hst : st = argsL.reverse ++ .ref a :: rest) (W : Nat) (hW : (rest.map fun v => v.category).sum ≤ W) (hd : decode c.code pc = .ok (.invokespecial index, 3)) (hp : pc + 3 = pc') (hf : rm.frames + 1 ≤ R.frames) (hl : W + (maxL + 11) + rm.locals ≤ R.locals) (hc : cells + rm.cells ≤ R.cells) (hn : slots + rm.slots ≤ R.slots) :
    ∃ v T' L, Stand p l e R s m args below meth c T' (locs ++ L) (cells + rm.cells) (slots + rm.slots) ∧ Q v T'.heap L ∧ ∀ t, Steps p.tables e below (T'.setTop (mkF m pc' Ls (v.toList ++ rest))) t → Steps p.tables e below (T.setTop (mkF m pc Ls st)) t := by
  subst hp has
  obtain ⟨v, vm₁, ⟨T', L', k', n'⟩, -, X', ⟨Lc, hQ, l1, y1, z1⟩, st'⟩ := X.specialBack hx hi hown (mvT hZ w1) (mvT hZ w2) (mvT hZ w4) hy (backOf (W := W) (hM []) hZ w4 w3 hf hl) (g := mkF m pc Ls st) rfl hsz (Steps.refl _) (a := a) (argsL := argsL) (rest := rest) (lenOf hpd hlen) hst (by show 2 * 0 + _ ≤ _; omega) hd (fun _ _ => ⟨rfl, eT, hc, hn⟩)
  dsimp only [Pt.U, Pt.locs, Pt.cells, Pt.slots] at X' l1 y1 z1 st' hQ
  subst l1 y1 z1
  exact ⟨v, T', Lc, X', hQ, fun t r => st'.trans r⟩
theorem o_callV (X : Stand p l e R s m args below meth c T locs cells slots) (hx : p.tables.exec = Jvm.exec) (hZ : Z.Warmed39 s.vm) {own : String} {index : Nat} {y : MethodName} {bytes : ByteArray} {maxL : Nat} {ret : Option FieldType} (hown : s.vm.findClass own = some m.cls) {C : String} (w1 : (Jvm.Cond.methodLink own index y).before a0 Z = true) (w2 : (Jvm.Cond.declares y).before a0 Z = true) (w5 : (Jvm.Cond.selects C y y).before a0 Z = true) (w6 : (Jvm.Cond.instanceMethod y).before a0 Z = true) (w3 : (Jvm.Cond.initialized y.cls).before a0 Z = true) (w4 : (Jvm.Cond.code y bytes maxL ret).before a0 Z = true) (hy : y.cls ≠ "java/lang/invoke/MethodHandle" ∧ y.cls ≠ "java/lang/invoke/VarHandle") {aa : Addr} (E : Exa Z h aa C) {rm : Room} {as' : Array Value} {Q : Option Value → Heap → List Loc → Prop} (hM : oCon l Z y bytes maxL ret rm as' h Q) (eT : T.heap = h) {pc pc' : Nat} {Ls : Array Slot} {st : List Value} (hsz : Ls.size = c.maxLocals) (argsL rest : List Value) (has : (Value.ref aa :: argsL).toArray = as') {ps : List FieldType} {rr : Option FieldType} (hpd : parseMethodDescriptor y.desc = some ⟨ps, rr⟩) (hlen : argsL.length = ps.length) (hst : st = argsL.reverse ++ .ref aa :: rest) (W : Nat) (hW : (rest.map fun v => v.category).sum ≤ W) (hd : decode c.code pc = .ok (.invokevirtual index, 3)) (hp : pc + 3 = pc') (hf : rm.frames + 1 ≤ R.frames) (hl : W + (maxL + 11) + rm.locals ≤ R.locals) (hc : cells + rm.cells ≤ R.cells) (hn : slots + rm.slots ≤ R.slots) :
    ∃ v T' L, Stand p l e R s m args below meth c T' (locs ++ L) (cells + rm.cells) (slots + rm.slots) ∧ Q v T'.heap L ∧ ∀ t, Steps p.tables e below (T'.setTop (mkF m pc' Ls (v.toList ++ rest))) t → Steps p.tables e below (T.setTop (mkF m pc Ls st)) t := by
  subst hp has
  obtain ⟨v, vm₁, ⟨T', L', k', n'⟩, -, X', ⟨Lc, hQ, l1, y1, z1⟩, st'⟩ := X.virtualBack hx hown (mvT hZ w1) (mvT hZ w2) (notFace_of_selects (args := #[]) (mvT hZ w5)) (mvT hZ w5) (mvT hZ w6) hy (backOf (W := W) (hM []) hZ w4 w3 hf hl) (isOf hZ eT E).choose_spec.choose_spec.1 (isOf hZ eT E).choose_spec.choose_spec.2.2 (g := mkF m pc Ls st) rfl hsz (Steps.refl _) (argsL := argsL) (rest := rest) (lenOf hpd hlen) hst (by show 2 * 0 + _ ≤ _; omega) hd (fun _ _ => ⟨rfl, eT, hc, hn⟩)
  dsimp only [Pt.U, Pt.locs, Pt.cells, Pt.slots] at X' l1 y1 z1 st' hQ
  subst l1 y1 z1
  exact ⟨v, T', Lc, X', hQ, fun t r => st'.trans r⟩
theorem o_bz (b : Prop) [Decidable b] : (if b then (1 : Int32) else 0) &&& 1 = if b then 1 else 0 := by by_cases q : b <;> simp [q]
theorem o_same {k n : Nat} (X : Stand p l e R s m args below meth c T (locs ++ []) (cells + k) (slots + n)) (hk : k = 0) (hn : n = 0) : Stand p l e R s m args below meth c T locs cells slots := by subst hk hn; simpa using X
theorem o_flat {k n : Nat} (X : Stand p l e R s m args below meth c T locs (cells + k) (slots + n)) (hk : k = 0) (hn : n = 0) : Stand p l e R s m args below meth c T locs cells slots := by subst hk hn; exact X
theorem o_fldI {a : Addr} {C n d : String} {x y : Int32} (q : y = x) (F : Fld Z h a C n d (.int x)) : Fld Z h a C n d (.int y) := q ▸ F
theorem o_fldJ {a : Addr} {C n d : String} {x y : Int64} (q : y = x) (F : Fld Z h a C n d (.long x)) : Fld Z h a C n d (.long y) := q ▸ F
theorem o_nb {z : Int32} (q : z = 0 ∨ z = 1) : narrow .boolean (.int z) = .int z := by rcases q with rfl | rfl <;> rfl
theorem o_fb {z : Int32} (q : z = 0 ∨ z = 1) : fits .boolean (.int z) = true := by rcases q with rfl | rfl <;> rfl
theorem o_zb {z : Int32} (q : z = 0 ∨ z = 1) : z &&& 1 = z := by rcases q with rfl | rfl <;> rfl
theorem o_or1 {z : Int32} (q : z = 0 ∨ z = 1) : (z ||| 1) = 0 ∨ (z ||| 1) = 1 := by rcases q with rfl | rfl <;> simp
theorem o_or0 {z : Int32} (q : z = 0 ∨ z = 1) : (z ||| 0) = 0 ∨ (z ||| 0) = 1 := by rcases q with rfl | rfl <;> simp
def oInts (Z : State) (h : Heap) (a : Addr) (xs : List Int32) : Prop := ∃ c : Cell, Arr Z h a c .int ∧ c.slots = (xs.map Value.int).toArray ∧ xs.length < 2 ^ 31
theorem oInts.lt {a : Addr} {xs : List Int32} (F : oInts Z h a xs) : a < h.size := by obtain ⟨c, A, -⟩ := F; exact A.lt
theorem oInts.ext {h' : Heap} {a : Addr} {xs : List Int32} (F : oInts Z h a xs) (E : Ext h h') : oInts Z h' a xs := by obtain ⟨c, A, r⟩ := F; exact ⟨c, A.ext E, r⟩
theorem oInts.keep {h' : Heap} {a : Addr} {xs : List Int32} {ws : List Addr} (F : oInts Z h a xs) (K : Keep h h' ws) (q : a ∉ ws) : oInts Z h' a xs := by obtain ⟨c, A, r⟩ := F; exact ⟨c, ⟨K.2.1 a c A.1 q, A.2⟩, r⟩
theorem oInts.set {h' : Heap} {a : Addr} {xs : List Int32} {i : Nat} {v : Int32} (F : oInts Z h a xs) (W : Wr h h' a i (.int v)) : oInts Z h' a (xs.set i v) := by
  obtain ⟨c, A, S, L⟩ := F
  refine ⟨_, A.same W, ?_, by simpa using L⟩
  simp [Cell.setSlot, S, List.map_set]
theorem oInts.new {a : Addr} {k : ClassId} {n : Int32} (A : Arr Z h a (newA k .int n) .int) (q : ¬ n < 0) : oInts Z h a (List.replicate n.toNatClampNeg 0) := by
  refine ⟨_, A, ?_, ?_⟩
  · simp [newA, defaultValue]
  · have := n.toInt_lt; simp only [List.length_replicate]; have h2 : n.toInt = (n.toNatClampNeg : Int) := nat_of q; omega
theorem oInts.at {a : Addr} {xs : List Int32} {j v : Int32} (F : oInts Z h a xs) (q : ¬ j < 0) (hj : xs[j.toNatClampNeg]? = some v) : ∃ c : Cell, Arr Z h a c .int ∧ ¬ (j < 0 ∨ c.slots.size ≤ j.toNatClampNeg) ∧ c.slots[j.toNatClampNeg]? = some (.int v) := by
  obtain ⟨c, A, S, L⟩ := F
  have hl : j.toNatClampNeg < xs.length := by
    rcases Nat.lt_or_ge j.toNatClampNeg xs.length with r | r
    · exact r
    · rw [List.getElem?_eq_none r] at hj; cases hj
  refine ⟨c, A, ?_, ?_⟩
  · rw [S]; simp only [List.size_toArray, List.length_map]; rintro (r | r)
    · exact q r
    · omega
  · rw [S]; simp [hj]
theorem o_iaload (X : Stand p l e R s m args below meth c T locs cells slots) (hx : p.tables.exec = Jvm.exec) (hZ : Z.Warmed39 s.vm) (eT : T.heap = h) {a : Addr} {xs : List Int32} (F : oInts Z h a xs) {pc pc' : Nat} {Ls : Array Slot} {st : List Value} {j v : Int32} (hd : decode c.code pc = .ok (.iaload, 1)) (q0 : ¬ j < 0) (hj : xs[j.toNatClampNeg]? = some v) (hp : pc + 1 = pc') (q : oGo p e below G T (mkF m pc' Ls (.int v :: st))) : oGo p e below G T (mkF m pc Ls (.int j :: .ref a :: st)) := by
  subst hp
  obtain ⟨cl, A, h1, h2⟩ := F.at q0 hj
  exact q.step fun t r => X.iaload (g := mkF m pc Ls (.int j :: .ref a :: st)) (rest := st) hx (by rw [eT]; exact A.1) (State.isArrayOf_alike hZ.alike A.2.1) A.2.2 h1 h2 rfl rfl hd t r
theorem o_alen (X : Stand p l e R s m args below meth c T locs cells slots) (hx : p.tables.exec = Jvm.exec) (hZ : Z.Warmed39 s.vm) (eT : T.heap = h) {a : Addr} {xs : List Int32} (F : oInts Z h a xs) {pc pc' : Nat} {Ls : Array Slot} {st : List Value} (hd : decode c.code pc = .ok (.arraylength, 1)) (hp : pc + 1 = pc') (q : oGo p e below G T (mkF m pc' Ls (.int xs.length.toInt32 :: st))) : oGo p e below G T (mkF m pc Ls (.ref a :: st)) := by
  subst hp
  obtain ⟨cl, A, S, L⟩ := F
  refine q.step fun t r => X.arraylength (g := mkF m pc Ls (.ref a :: st)) (rest := st) hx (by rw [eT]; exact A.1) (State.isArrayOf_alike hZ.alike A.2.1) rfl rfl hd t ?_
  have : cl.slots.size = xs.length := by rw [S]; simp
  rw [this]; exact r
theorem o_iastore (X : Stand p l e R s m args below meth c T locs cells slots) (hx : p.tables.exec = Jvm.exec) (hZ : Z.Warmed39 s.vm) (eT : T.heap = h) {a : Addr} {xs : List Int32} (F : oInts Z h a xs) {pc pc' : Nat} {Ls : Array Slot} {st : List Value} {j x : Int32} (hd : decode c.code pc = .ok (.iastore, 1)) (q0 : ¬ j < 0) (hj : j.toNatClampNeg < xs.length) (hp : pc + 1 = pc') :
    ∃ T' h', Stand p l e R s m args below meth c T' (locs ++ [⟨a, j.toNatClampNeg⟩]) cells slots ∧ T'.heap = h' ∧ Wr h h' a j.toNatClampNeg (.int x) ∧ ∀ t, Steps p.tables e below (T'.setTop (mkF m pc' Ls st)) t → Steps p.tables e below (T.setTop (mkF m pc Ls (.int x :: .int j :: .ref a :: st))) t := by
  subst hp
  obtain ⟨v, hv⟩ : ∃ v, xs[j.toNatClampNeg]? = some v := ⟨_, List.getElem?_eq_getElem hj⟩
  obtain ⟨cl, A, h1, h2⟩ := F.at q0 hv
  obtain ⟨T', h', X', e', W', st'⟩ := stI X hx hZ eT A (x := x) h1 (g := mkF m pc Ls (.int x :: .int j :: .ref a :: st)) (rest := st) rfl rfl hd
  exact ⟨T', h', X', e', W', st'⟩
theorem o_newI (X : Stand p l e R s m args below meth c T locs cells slots) (hx : p.tables.exec = Jvm.exec) (hZ : Z.Warmed39 s.vm) (w : (Jvm.Cond.arrayClass .int).before a0 Z = true) (eT : T.heap = h) {pc pc' : Nat} {Ls : Array Slot} {st : List Value} {n : Int32} (hd : decode c.code pc = .ok (.newarray .int, 2)) (hn : ¬ n < 0) (cap : Nat) (hcap : n.toNatClampNeg ≤ cap) (hb : cap * 8 ≤ 536870912) (hc : cells + 1 ≤ R.cells) (hl : slots + cap ≤ R.slots) (hp : pc + 2 = pc') :
    ∃ T' h', Stand p l e R s m args below meth c T' locs (cells + 1) (slots + cap) ∧ T'.heap = h' ∧ Ext h h' ∧ oInts Z h' h.size (List.replicate n.toNatClampNeg 0) ∧ ∀ t, Steps p.tables e below (T'.setTop (mkF m pc' Ls (.ref h.size :: st))) t → Steps p.tables e below (T.setTop (mkF m pc Ls (.int n :: st))) t := by
  subst hp
  obtain ⟨T', h', cA, X', e', E, A, st'⟩ := newP X hx hZ (aty := .int) w eT (g := mkF m pc Ls (.int n :: st)) rfl hd (n := n) (rest := st) rfl hn hcap hb hc hl
  have A' := oInts.new A hn
  exact ⟨T', h', X', e', E, A', st'⟩
end OwnKit
section OwnDbl
variable {p : Program} {l : Launch} {e : Env} {R : Room} {s : State} {m : MethodId} {args : Array Value} {below : List Frame} {meth : Method} {c : Code} {T : State} {locs : List Loc} {cells slots : Nat} {Z : State} {a0 : Array Value} {h : Heap} {G : Outcome → State → Prop}
theorem o_dloadN (X : Stand p l e R s m args below meth c T locs cells slots) (hx : p.tables.exec = Jvm.exec) {pc pc' : Nat} {Ls : Array Slot} {st : List Value} {k : Fin 4} {v : UInt64} (hd : decode c.code pc = .ok (.dload_n k, 1)) (hl : Ls[k.val]? = some (.val (.double v))) (hp : pc + 1 = pc') (q : oGo p e below G T (mkF m pc' Ls (.double v :: st))) : oGo p e below G T (mkF m pc Ls (st)) := by
  subst hp; exact q.step fun t r => XS.dloadN X.here hx rfl hd hl r
theorem o_dload (X : Stand p l e R s m args below meth c T locs cells slots) (hx : p.tables.exec = Jvm.exec) {pc pc' : Nat} {Ls : Array Slot} {st : List Value} {k : Nat} {v : UInt64} (hd : decode c.code pc = .ok (.dload k, 2)) (hl : Ls[k]? = some (.val (.double v))) (hp : pc + 2 = pc') (q : oGo p e below G T (mkF m pc' Ls (.double v :: st))) : oGo p e below G T (mkF m pc Ls (st)) := by
  subst hp; exact q.step fun t r => XS.dload X.here hx rfl hd hl r
theorem o_dstoreN (X : Stand p l e R s m args below meth c T locs cells slots) (hx : p.tables.exec = Jvm.exec) {pc pc' : Nat} {Ls : Array Slot} {st : List Value} {k : Fin 4} {v : UInt64} {l' : Array Slot} (hd : decode c.code pc = .ok (.dstore_n k, 1)) (hl : storeLocals Ls k.val (.double v) = some l') (hp : pc + 1 = pc') (q : oGo p e below G T (mkF m pc' l' (st))) : oGo p e below G T (mkF m pc Ls (.double v :: st)) := by
  subst hp; exact q.step fun t r => XS.dstoreN X.here hx rfl hd rfl hl r
theorem o_dstore (X : Stand p l e R s m args below meth c T locs cells slots) (hx : p.tables.exec = Jvm.exec) {pc pc' : Nat} {Ls : Array Slot} {st : List Value} {k : Nat} {v : UInt64} {l' : Array Slot} (hd : decode c.code pc = .ok (.dstore k, 2)) (hl : storeLocals Ls k (.double v) = some l') (hp : pc + 2 = pc') (q : oGo p e below G T (mkF m pc' l' (st))) : oGo p e below G T (mkF m pc Ls (.double v :: st)) := by
  subst hp; exact q.step fun t r => XS.dstore X.here hx rfl hd rfl hl r
theorem o_i2d (X : Stand p l e R s m args below meth c T locs cells slots) (hx : p.tables.exec = Jvm.exec) {pc pc' : Nat} {Ls : Array Slot} {st : List Value} {x : Int32} (v : UInt64) (hd : decode c.code pc = .ok (.i2d, 1)) (hv : FP.i2d x = v) (hp : pc + 1 = pc') (q : oGo p e below G T (mkF m pc' Ls (.double v :: st))) : oGo p e below G T (mkF m pc Ls (.int x :: st)) := by
  subst hp; exact q.step fun t r => XS.i2dS X.here hx rfl hd rfl hv r
theorem o_l2d (X : Stand p l e R s m args below meth c T locs cells slots) (hx : p.tables.exec = Jvm.exec) {pc pc' : Nat} {Ls : Array Slot} {st : List Value} {x : Int64} (v : UInt64) (hd : decode c.code pc = .ok (.l2d, 1)) (hv : FP.l2d x = v) (hp : pc + 1 = pc') (q : oGo p e below G T (mkF m pc' Ls (.double v :: st))) : oGo p e below G T (mkF m pc Ls (.long x :: st)) := by
  subst hp; exact q.step fun t r => XS.l2dS X.here hx rfl hd rfl hv r
theorem o_dadd (X : Stand p l e R s m args below meth c T locs cells slots) (hx : p.tables.exec = Jvm.exec) {pc pc' : Nat} {Ls : Array Slot} {st : List Value} {x y : UInt64} (v : UInt64) (hd : decode c.code pc = .ok (.dadd, 1)) (hn : Jvm.Free.Fl.NoNaN64 (FP.dadd x y)) (hv : FP.dadd x y = v) (hp : pc + 1 = pc') (q : oGo p e below G T (mkF m pc' Ls (.double v :: st))) : oGo p e below G T (mkF m pc Ls (.double y :: .double x :: st)) := by
  subst hp; exact q.step fun t r => XS.daddS X.here hx rfl hd rfl hn hv r
theorem o_dmul (X : Stand p l e R s m args below meth c T locs cells slots) (hx : p.tables.exec = Jvm.exec) {pc pc' : Nat} {Ls : Array Slot} {st : List Value} {x y : UInt64} (v : UInt64) (hd : decode c.code pc = .ok (.dmul, 1)) (hn : Jvm.Free.Fl.NoNaN64 (FP.dmul x y)) (hv : FP.dmul x y = v) (hp : pc + 1 = pc') (q : oGo p e below G T (mkF m pc' Ls (.double v :: st))) : oGo p e below G T (mkF m pc Ls (.double y :: .double x :: st)) := by
  subst hp; exact q.step fun t r => XS.dmulS X.here hx rfl hd rfl hn hv r
theorem o_ddiv (X : Stand p l e R s m args below meth c T locs cells slots) (hx : p.tables.exec = Jvm.exec) {pc pc' : Nat} {Ls : Array Slot} {st : List Value} {x y : UInt64} (v : UInt64) (hd : decode c.code pc = .ok (.ddiv, 1)) (hn : Jvm.Free.Fl.NoNaN64 (FP.ddiv x y)) (hv : FP.ddiv x y = v) (hp : pc + 1 = pc') (q : oGo p e below G T (mkF m pc' Ls (.double v :: st))) : oGo p e below G T (mkF m pc Ls (.double y :: .double x :: st)) := by
  subst hp; exact q.step fun t r => XS.ddivS X.here hx rfl hd rfl hn hv r
theorem o_dsub (X : Stand p l e R s m args below meth c T locs cells slots) (hx : p.tables.exec = Jvm.exec) {pc pc' : Nat} {Ls : Array Slot} {st : List Value} {x y : UInt64} (v : UInt64) (hd : decode c.code pc = .ok (.dsub, 1)) (hn : Jvm.Free.Fl.NoNaN64 (FP.dsub x y)) (hv : FP.dsub x y = v) (hp : pc + 1 = pc') (q : oGo p e below G T (mkF m pc' Ls (.double v :: st))) : oGo p e below G T (mkF m pc Ls (.double y :: .double x :: st)) := by
  subst hp; exact q.step fun t r => XS.dsubS X.here hx rfl hd rfl hn hv r
theorem o_dcmp (X : Stand p l e R s m args below meth c T locs cells slots) (hx : p.tables.exec = Jvm.exec) {pc pc' : Nat} {Ls : Array Slot} {st : List Value} {x y : UInt64} {o : CmpOp} (hd : decode c.code pc = .ok (.dcmp o, 1)) (hp : pc + 1 = pc') (q : oGo p e below G T (mkF m pc' Ls (.int (cmpValue (FP.dcmp x y) o) :: st))) : oGo p e below G T (mkF m pc Ls (.double y :: .double x :: st)) := by
  subst hp; exact q.step fun t r => XS.dcmpS X.here hx rfl hd rfl rfl r
theorem o_ldc2d (X : Stand p l e R s m args below meth c T locs cells slots) (hx : p.tables.exec = Jvm.exec) {pc pc' : Nat} {Ls : Array Slot} {st : List Value} {own : String} {index : Nat} {b : UInt64} (hZ : Z.Warmed39 s.vm) (hown : s.vm.findClass own = some m.cls) (w : (Jvm.Cond.constantDouble own index b).before a0 Z = true) (hd : decode c.code pc = .ok (.ldc2_w index, 3)) (hp : pc + 3 = pc') (q : oGo p e below G T (mkF m pc' Ls (.double b :: st))) : oGo p e below G T (mkF m pc Ls (st)) := by
  subst hp; exact q.step fun t r => X.ldc2DoubleC (g := mkF m pc Ls st) hx hown (mvT hZ w) rfl hd t r
theorem o_dconst0 (X : Stand p l e R s m args below meth c T locs cells slots) (hx : p.tables.exec = Jvm.exec) {pc pc' : Nat} {Ls : Array Slot} {st : List Value} (v : UInt64) (hd : decode c.code pc = .ok (.dconst 0, 1)) (hv : FP.dconst0 = v) (hp : pc + 1 = pc') (q : oGo p e below G T (mkF m pc' Ls (.double v :: st))) : oGo p e below G T (mkF m pc Ls (st)) := by
  subst hp; exact q.step fun t r => XS.dconst0 X.here hx rfl hd hv r
theorem o_dconst1 (X : Stand p l e R s m args below meth c T locs cells slots) (hx : p.tables.exec = Jvm.exec) {pc pc' : Nat} {Ls : Array Slot} {st : List Value} (v : UInt64) (hd : decode c.code pc = .ok (.dconst 1, 1)) (hv : FP.dconst1 = v) (hp : pc + 1 = pc') (q : oGo p e below G T (mkF m pc' Ls (.double v :: st))) : oGo p e below G T (mkF m pc Ls (st)) := by
  subst hp; exact q.step fun t r => XS.dconst1 X.here hx rfl hd hv r
def oDbls (Z : State) (h : Heap) (a : Addr) (xs : List UInt64) : Prop := ∃ c : Cell, Arr Z h a c .double ∧ c.slots = (xs.map Value.double).toArray ∧ xs.length < 2 ^ 31
theorem oDbls.lt {a : Addr} {xs : List UInt64} (F : oDbls Z h a xs) : a < h.size := by obtain ⟨c, A, -⟩ := F; exact A.lt
theorem oDbls.keep {h' : Heap} {a : Addr} {xs : List UInt64} {ws : List Addr} (F : oDbls Z h a xs) (K : Keep h h' ws) (q : a ∉ ws) : oDbls Z h' a xs := by obtain ⟨c, A, r⟩ := F; exact ⟨c, ⟨K.2.1 a c A.1 q, A.2⟩, r⟩
theorem oDbls.set {h' : Heap} {a : Addr} {xs : List UInt64} {i : Nat} {v : UInt64} (F : oDbls Z h a xs) (W : Wr h h' a i (.double v)) : oDbls Z h' a (xs.set i v) := by
  obtain ⟨c, A, S, L⟩ := F
  refine ⟨_, A.same W, ?_, by simpa using L⟩
  simp [Cell.setSlot, S, List.map_set]
theorem oDbls.new {a : Addr} {k : ClassId} {n : Int32} (A : Arr Z h a (newA k .double n) .double) (q : ¬ n < 0) : oDbls Z h a (List.replicate n.toNatClampNeg 0) := by
  refine ⟨_, A, ?_, ?_⟩
  · simp [newA, defaultValue]
  · have := n.toInt_lt; simp only [List.length_replicate]; have h2 : n.toInt = (n.toNatClampNeg : Int) := nat_of q; omega
theorem oDbls.at {a : Addr} {xs : List UInt64} {j : Int32} {v : UInt64} (F : oDbls Z h a xs) (q : ¬ j < 0) (hj : xs[j.toNatClampNeg]? = some v) : ∃ c : Cell, Arr Z h a c .double ∧ ¬ (j < 0 ∨ c.slots.size ≤ j.toNatClampNeg) ∧ c.slots[j.toNatClampNeg]? = some (.double v) := by
  obtain ⟨c, A, S, L⟩ := F
  have hl : j.toNatClampNeg < xs.length := by
    rcases Nat.lt_or_ge j.toNatClampNeg xs.length with r | r
    · exact r
    · rw [List.getElem?_eq_none r] at hj; cases hj
  refine ⟨c, A, ?_, ?_⟩
  · rw [S]; simp only [List.size_toArray, List.length_map]; rintro (r | r)
    · exact q r
    · omega
  · rw [S]; simp [hj]
theorem o_daload (X : Stand p l e R s m args below meth c T locs cells slots) (hx : p.tables.exec = Jvm.exec) (hZ : Z.Warmed39 s.vm) (eT : T.heap = h) {a : Addr} {xs : List UInt64} (F : oDbls Z h a xs) {pc pc' : Nat} {Ls : Array Slot} {st : List Value} {j : Int32} {v : UInt64} (hd : decode c.code pc = .ok (.daload, 1)) (q0 : ¬ j < 0) (hj : xs[j.toNatClampNeg]? = some v) (hp : pc + 1 = pc') (q : oGo p e below G T (mkF m pc' Ls (.double v :: st))) : oGo p e below G T (mkF m pc Ls (.int j :: .ref a :: st)) := by
  subst hp
  obtain ⟨cl, A, h1, h2⟩ := F.at q0 hj
  exact q.step fun t r => X.daload (g := mkF m pc Ls (.int j :: .ref a :: st)) (rest := st) hx (by rw [eT]; exact A.1) (State.isArrayOf_alike hZ.alike A.2.1) A.2.2 h1 h2 rfl rfl hd t r
theorem o_dalen (X : Stand p l e R s m args below meth c T locs cells slots) (hx : p.tables.exec = Jvm.exec) (hZ : Z.Warmed39 s.vm) (eT : T.heap = h) {a : Addr} {xs : List UInt64} (F : oDbls Z h a xs) {pc pc' : Nat} {Ls : Array Slot} {st : List Value} (hd : decode c.code pc = .ok (.arraylength, 1)) (hp : pc + 1 = pc') (q : oGo p e below G T (mkF m pc' Ls (.int xs.length.toInt32 :: st))) : oGo p e below G T (mkF m pc Ls (.ref a :: st)) := by
  subst hp
  obtain ⟨cl, A, S, L⟩ := F
  refine q.step fun t r => X.arraylength (g := mkF m pc Ls (.ref a :: st)) (rest := st) hx (by rw [eT]; exact A.1) (State.isArrayOf_alike hZ.alike A.2.1) rfl rfl hd t ?_
  have : cl.slots.size = xs.length := by rw [S]; simp
  rw [this]; exact r
theorem o_dastore (X : Stand p l e R s m args below meth c T locs cells slots) (hx : p.tables.exec = Jvm.exec) (hZ : Z.Warmed39 s.vm) (eT : T.heap = h) {a : Addr} {xs : List UInt64} (F : oDbls Z h a xs) {pc pc' : Nat} {Ls : Array Slot} {st : List Value} {j : Int32} {x : UInt64} (hd : decode c.code pc = .ok (.dastore, 1)) (q0 : ¬ j < 0) (hj : j.toNatClampNeg < xs.length) (hp : pc + 1 = pc') :
    ∃ T' h', Stand p l e R s m args below meth c T' (locs ++ [⟨a, j.toNatClampNeg⟩]) cells slots ∧ T'.heap = h' ∧ Wr h h' a j.toNatClampNeg (.double x) ∧ ∀ t, Steps p.tables e below (T'.setTop (mkF m pc' Ls st)) t → Steps p.tables e below (T.setTop (mkF m pc Ls (.double x :: .int j :: .ref a :: st))) t := by
  subst hp
  obtain ⟨v, hv⟩ : ∃ v, xs[j.toNatClampNeg]? = some v := ⟨_, List.getElem?_eq_getElem hj⟩
  obtain ⟨cl, A, h1, h2⟩ := F.at q0 hv
  obtain ⟨T', h', X', e', W', st'⟩ := stD X hx hZ eT A (x := x) h1 (g := mkF m pc Ls (.double x :: .int j :: .ref a :: st)) (rest := st) rfl rfl hd
  exact ⟨T', h', X', e', W', st'⟩
theorem o_newD (X : Stand p l e R s m args below meth c T locs cells slots) (hx : p.tables.exec = Jvm.exec) (hZ : Z.Warmed39 s.vm) (w : (Jvm.Cond.arrayClass .double).before a0 Z = true) (eT : T.heap = h) {pc pc' : Nat} {Ls : Array Slot} {st : List Value} {n : Int32} (hd : decode c.code pc = .ok (.newarray .double, 2)) (hn : ¬ n < 0) (cap : Nat) (hcap : n.toNatClampNeg ≤ cap) (hb : cap * 8 ≤ 536870912) (hc : cells + 1 ≤ R.cells) (hl : slots + cap ≤ R.slots) (hp : pc + 2 = pc') :
    ∃ T' h', Stand p l e R s m args below meth c T' locs (cells + 1) (slots + cap) ∧ T'.heap = h' ∧ Ext h h' ∧ oDbls Z h' h.size (List.replicate n.toNatClampNeg 0) ∧ ∀ t, Steps p.tables e below (T'.setTop (mkF m pc' Ls (.ref h.size :: st))) t → Steps p.tables e below (T.setTop (mkF m pc Ls (.int n :: st))) t := by
  subst hp
  obtain ⟨T', h', cA, X', e', E, A, st'⟩ := newP X hx hZ (aty := .double) w eT (g := mkF m pc Ls (.int n :: st)) rfl hd (n := n) (rest := st) rfl hn hcap hb hc hl
  have A' := oDbls.new A hn
  exact ⟨T', h', X', e', E, A', st'⟩
end OwnDbl
/-! whole numbers over powers of two, as doubles -/
def dy (n e : Nat) : UInt64 := FP.Core.of64 (FP.Core.round FP.Core.b64 (.fin false n (-(e : Int))))
theorem dy_val {n e : Nat} (hn : n < 2 ^ 53) (he : e ≤ 1000) : ∃ k : Nat, FP.Core.val64 (dy n e) = .fin false (n * 2 ^ k) (-(e : Int) - (k : Int)) := by
  have hq : FP.Core.b64.qmin = -1074 := by decide
  have hQ : FP.Core.b64.qmax = 971 := by decide
  have hp : FP.Core.b64.p = 53 := rfl
  have ht : FP.Core.b64.tails = 2 ^ 52 := by decide
  rcases Nat.eq_zero_or_pos n with h0 | h0
  · subst h0
    refine ⟨1074 - e, ?_⟩
    unfold dy
    have r : FP.Core.round FP.Core.b64 (.fin false 0 (-(e : Int))) = .fin false 0 FP.Core.b64.qmin := by
      show FP.Core.roundRatio FP.Core.b64 false 0 1 (-(e : Int)) = _
      unfold FP.Core.roundRatio; rw [if_pos rfl]
    rw [r, FP.Core.val64_of64 (FP.Core.zero_fits FP.Core.good_b64 false), hq, Nat.zero_mul]
    congr 1; omega
  · have l1 : 2 ^ n.log2 ≤ n := Nat.log2_self_le (by omega)
    have l2 : n < 2 ^ (n.log2 + 1) := Nat.lt_log2_self
    have l3 : n.log2 ≤ 52 := by
      rcases Nat.lt_or_ge 52 n.log2 with q | q
      · have := Nat.pow_le_pow_right (n := 2) (by decide) q
        omega
      · exact q
    refine ⟨52 - n.log2, ?_⟩
    have a1 : 2 ^ 52 ≤ n * 2 ^ (52 - n.log2) := by
      have := Nat.mul_le_mul_right (2 ^ (52 - n.log2)) l1
      rw [← Nat.pow_add, show n.log2 + (52 - n.log2) = 52 by omega] at this; exact this
    have a2 : n * 2 ^ (52 - n.log2) < 2 ^ 53 := by
      have := Nat.mul_lt_mul_of_pos_right l2 (Nat.two_pow_pos (52 - n.log2))
      rw [← Nat.pow_add, show n.log2 + 1 + (52 - n.log2) = 53 by omega] at this; exact this
    have f : FP.Core.fits FP.Core.b64 (.fin false (n * 2 ^ (52 - n.log2)) (-(e : Int) - ((52 - n.log2 : Nat) : Int))) := by
      refine ⟨by rw [hp]; exact a2, by rw [hq]; omega, by rw [hQ]; omega, Or.inr (by rw [ht]; exact a1)⟩
    unfold dy
    have r : FP.Core.round FP.Core.b64 (.fin false n (-(e : Int))) = .fin false (n * 2 ^ (52 - n.log2)) (-(e : Int) - ((52 - n.log2 : Nat) : Int)) := by
      show FP.Core.roundRatio FP.Core.b64 false n 1 (-(e : Int)) = _
      refine FP.Core.roundRatio_exact FP.Core.good_b64 (by decide) f ?_
      rw [show (-(e : Int) - (-(e : Int) - ((52 - n.log2 : Nat) : Int))).toNat = 52 - n.log2 by omega, show (-(e : Int) - ((52 - n.log2 : Nat) : Int) - -(e : Int)).toNat = 0 by omega]
      simp
    rw [r, FP.Core.val64_of64 f]
theorem dy_nn {n e : Nat} (hn : n < 2 ^ 53) (he : e ≤ 1000) : Jvm.Free.Fl.NoNaN64 (dy n e) := by
  obtain ⟨k, h⟩ := dy_val hn he
  exact (Jvm.Free.Fl.fin64_core.mpr ⟨_, _, _, h⟩).noNaN
theorem dy_mul {a b e f : Nat} (ha : a < 2 ^ 53) (hb : b < 2 ^ 53) (he : e ≤ 1000) (hf : f ≤ 1000) : FP.dmul (dy a e) (dy b f) = dy (a * b) (e + f) := by
  obtain ⟨k, h1⟩ := dy_val ha he
  obtain ⟨j, h2⟩ := dy_val hb hf
  show FP.Core.of64 (FP.Core.round FP.Core.b64 (FP.Core.exactProduct (FP.Core.val64 (dy a e)) (FP.Core.val64 (dy b f)))) = _
  rw [h1, h2]
  unfold dy
  congr 1
  show FP.Core.roundRatio FP.Core.b64 _ (a * 2 ^ k * (b * 2 ^ j)) 1 (-(e : Int) - (k : Int) + (-(f : Int) - (j : Int))) = FP.Core.roundRatio FP.Core.b64 false (a * b) 1 (-((e + f : Nat) : Int))
  refine FP.Core.roundRatio_congr (by decide) (by decide) ?_
  rw [show (-(e : Int) - (k : Int) + (-(f : Int) - (j : Int)) - -((e + f : Nat) : Int)).toNat = 0 by omega, show (-((e + f : Nat) : Int) - (-(e : Int) - (k : Int) + (-(f : Int) - (j : Int)))).toNat = k + j by omega, Nat.pow_add]
  simp only [Nat.mul_one, Nat.pow_zero]
  rw [Nat.mul_mul_mul_comm]
theorem dy_div {a m : Nat} (ha : a < 2 ^ 53) (hm : m ≤ 50) : FP.ddiv (dy a 0) (dy (2 ^ m) 0) = dy a m := by
  have hb : 2 ^ m < 2 ^ 53 := Nat.pow_lt_pow_right (by decide) (by omega)
  obtain ⟨k, h1⟩ := dy_val ha (Nat.zero_le 1000)
  obtain ⟨j, h2⟩ := dy_val hb (Nat.zero_le 1000)
  show FP.Core.of64 (FP.Core.quotient FP.Core.b64 (FP.Core.val64 (dy a 0)) (FP.Core.val64 (dy (2 ^ m) 0))) = _
  rw [h1, h2]
  unfold dy
  congr 1
  have hp : 0 < 2 ^ m * 2 ^ j := Nat.mul_pos (Nat.two_pow_pos _) (Nat.two_pow_pos _)
  show (if 2 ^ m * 2 ^ j = 0 then _ else FP.Core.roundRatio FP.Core.b64 _ (a * 2 ^ k) (2 ^ m * 2 ^ j) (-((0 : Nat) : Int) - (k : Int) - (-((0 : Nat) : Int) - (j : Int)))) = FP.Core.roundRatio FP.Core.b64 false a 1 (-(m : Int))
  rw [if_neg (by omega)]
  refine FP.Core.roundRatio_congr hp (by decide) ?_
  rw [Nat.mul_one]
  rcases Nat.le_total k (j + m) with q | q
  · rw [show (-((0 : Nat) : Int) - (k : Int) - (-((0 : Nat) : Int) - (j : Int)) - -(m : Int)).toNat = j + m - k by omega, show (-(m : Int) - (-((0 : Nat) : Int) - (k : Int) - (-((0 : Nat) : Int) - (j : Int)))).toNat = 0 by omega]
    rw [Nat.pow_zero, Nat.mul_one, Nat.mul_assoc, ← Nat.pow_add, ← Nat.pow_add, show k + (j + m - k) = m + j by omega]
  · rw [show (-((0 : Nat) : Int) - (k : Int) - (-((0 : Nat) : Int) - (j : Int)) - -(m : Int)).toNat = 0 by omega, show (-(m : Int) - (-((0 : Nat) : Int) - (k : Int) - (-((0 : Nat) : Int) - (j : Int)))).toNat = k - (j + m) by omega]
    rw [Nat.pow_zero, Nat.mul_one, Nat.mul_assoc, ← Nat.pow_add, ← Nat.pow_add, show m + j + (k - (j + m)) = k by omega]
theorem dy_one (n e : Nat) : dy (n * 2 ^ e) e = dy n 0 := by
  unfold dy
  congr 1
  show FP.Core.roundRatio FP.Core.b64 false (n * 2 ^ e) 1 (-(e : Int)) = FP.Core.roundRatio FP.Core.b64 false n 1 (-((0 : Nat) : Int))
  refine FP.Core.roundRatio_congr (by decide) (by decide) ?_
  rw [show (-(e : Int) - -((0 : Nat) : Int)).toNat = 0 by omega, show (-((0 : Nat) : Int) - -(e : Int)).toNat = e by omega]
  simp
theorem dy_l2d {v : Int64} {n : Nat} (h : v.toInt = n) : FP.l2d v = dy n 0 := by
  show FP.Core.of64 (FP.Core.round FP.Core.b64 (FP.Core.ofInt v.toInt)) = _
  unfold dy FP.Core.ofInt
  rw [h]
  have : decide ((n : Int) < 0) = false := by simp
  rw [this]; simp
theorem dy_add {a b : Nat} (ha : a < 2 ^ 50) (hb : b < 2 ^ 50) : FP.dadd (dy a 0) (dy b 0) = dy (a + b) 0 := by
  have e1 : (Int64.ofInt (a : Int)).toInt = a := Int64.toInt_ofInt_of_le (by omega) (by omega)
  have e2 : (Int64.ofInt (b : Int)).toInt = b := Int64.toInt_ofInt_of_le (by omega) (by omega)
  rw [← dy_l2d e1, ← dy_l2d e2, dadd_w ⟨by omega, by omega⟩ ⟨by omega, by omega⟩]
  have s := c_ladd (Int64.ofInt (a : Int)) (Int64.ofInt (b : Int))
  have r := rng64 (Int64.ofInt (a : Int) + Int64.ofInt (b : Int))
  exact dy_l2d (by omega)

theorem dy_c1 : FP.dconst1 = dy 1 0 := by decide +kernel
theorem pw (M : Nat) (h : M ≤ 15) : 2 ^ M ≤ 32768 := Nat.pow_le_pow_right (n := 2) (by decide) h
theorem le3 {A M : Nat} (hA : A ≤ 2 ^ M) (h : M ≤ 15) : A ≤ 32768 := Nat.le_trans hA (pw M h)
theorem own_lm {n a : Nat} {j : Nat} (h : n ≤ 32768 ^ j) (ha : a ≤ 32768) : n * a ≤ 32768 ^ (j + 1) := by rw [Nat.pow_succ]; exact Nat.mul_le_mul h ha
theorem own_l1 : 1 ≤ 32768 ^ 0 := by decide
theorem own_lim {n j : Nat} (h : n ≤ 32768 ^ j) (hj : j ≤ 3) : n < 2 ^ 53 := by
  have := Nat.pow_le_pow_right (n := 32768) (by decide) hj
  have e : 32768 ^ 3 < 2 ^ 53 := by decide
  omega
theorem d1_0 : decode prog_16_method_9_code 0 = .ok (.aload_n 2, 1) := by decide +kernel
theorem d1_1 : decode prog_16_method_9_code 1 = .ok (.arraylength, 1) := by decide +kernel
theorem d1_2 : decode prog_16_method_9_code 2 = .ok (.iconst 1, 1) := by decide +kernel
theorem d1_3 : decode prog_16_method_9_code 3 = .ok (.isub, 1) := by decide +kernel
theorem d1_4 : decode prog_16_method_9_code 4 = .ok (.istore_n 3, 1) := by decide +kernel
theorem d1_5 : decode prog_16_method_9_code 5 = .ok (.dconst 1, 1) := by decide +kernel
theorem d1_6 : decode prog_16_method_9_code 6 = .ok (.dstore 4, 2) := by decide +kernel
theorem d1_8 : decode prog_16_method_9_code 8 = .ok (.iconst 0, 1) := by decide +kernel
theorem d1_9 : decode prog_16_method_9_code 9 = .ok (.istore 6, 2) := by decide +kernel
theorem d1_11 : decode prog_16_method_9_code 11 = .ok (.iload 6, 2) := by decide +kernel
theorem d1_13 : decode prog_16_method_9_code 13 = .ok (.iload_n 3, 1) := by decide +kernel
theorem d1_14 : decode prog_16_method_9_code 14 = .ok (.if_icmp .ge 46, 3) := by decide +kernel
theorem d1_17 : decode prog_16_method_9_code 17 = .ok (.aload_n 0, 1) := by decide +kernel
theorem d1_18 : decode prog_16_method_9_code 18 = .ok (.iload 6, 2) := by decide +kernel
theorem d1_20 : decode prog_16_method_9_code 20 = .ok (.daload, 1) := by decide +kernel
theorem d1_21 : decode prog_16_method_9_code 21 = .ok (.aload_n 1, 1) := by decide +kernel
theorem d1_22 : decode prog_16_method_9_code 22 = .ok (.iload 6, 2) := by decide +kernel
theorem d1_24 : decode prog_16_method_9_code 24 = .ok (.daload, 1) := by decide +kernel
theorem d1_25 : decode prog_16_method_9_code 25 = .ok (.dadd, 1) := by decide +kernel
theorem d1_26 : decode prog_16_method_9_code 26 = .ok (.dstore 7, 2) := by decide +kernel
theorem d1_28 : decode prog_16_method_9_code 28 = .ok (.aload_n 2, 1) := by decide +kernel
theorem d1_29 : decode prog_16_method_9_code 29 = .ok (.iload 6, 2) := by decide +kernel
theorem d1_31 : decode prog_16_method_9_code 31 = .ok (.dload 4, 2) := by decide +kernel
theorem d1_33 : decode prog_16_method_9_code 33 = .ok (.aload_n 0, 1) := by decide +kernel
theorem d1_34 : decode prog_16_method_9_code 34 = .ok (.iload 6, 2) := by decide +kernel
theorem d1_36 : decode prog_16_method_9_code 36 = .ok (.daload, 1) := by decide +kernel
theorem d1_37 : decode prog_16_method_9_code 37 = .ok (.dload 7, 2) := by decide +kernel
theorem d1_39 : decode prog_16_method_9_code 39 = .ok (.ddiv, 1) := by decide +kernel
theorem d1_40 : decode prog_16_method_9_code 40 = .ok (.dmul, 1) := by decide +kernel
theorem d1_41 : decode prog_16_method_9_code 41 = .ok (.dastore, 1) := by decide +kernel
theorem d1_42 : decode prog_16_method_9_code 42 = .ok (.dload 4, 2) := by decide +kernel
theorem d1_44 : decode prog_16_method_9_code 44 = .ok (.aload_n 1, 1) := by decide +kernel
theorem d1_45 : decode prog_16_method_9_code 45 = .ok (.iload 6, 2) := by decide +kernel
theorem d1_47 : decode prog_16_method_9_code 47 = .ok (.daload, 1) := by decide +kernel
theorem d1_48 : decode prog_16_method_9_code 48 = .ok (.dload 7, 2) := by decide +kernel
theorem d1_50 : decode prog_16_method_9_code 50 = .ok (.ddiv, 1) := by decide +kernel
theorem d1_51 : decode prog_16_method_9_code 51 = .ok (.dmul, 1) := by decide +kernel
theorem d1_52 : decode prog_16_method_9_code 52 = .ok (.dstore 4, 2) := by decide +kernel
theorem d1_54 : decode prog_16_method_9_code 54 = .ok (.iinc 6 1, 3) := by decide +kernel
theorem d1_57 : decode prog_16_method_9_code 57 = .ok (.goto (-46), 3) := by decide +kernel
theorem d1_60 : decode prog_16_method_9_code 60 = .ok (.aload_n 2, 1) := by decide +kernel
theorem d1_61 : decode prog_16_method_9_code 61 = .ok (.iload_n 3, 1) := by decide +kernel
theorem d1_62 : decode prog_16_method_9_code 62 = .ok (.dload 4, 2) := by decide +kernel
theorem d1_64 : decode prog_16_method_9_code 64 = .ok (.dastore, 1) := by decide +kernel
theorem d1_65 : decode prog_16_method_9_code 65 = .ok (.return_, 1) := by decide +kernel
theorem pn_1 : plainName "com/example/stickbreak/stickbreak/HdpSampler" = true := by first | (simp [plainName, overriddenIn]; done) | decide +kernel
theorem ef1_1 (m : MethodId) (ka pa wa : Addr) : entryFrame m #[(.ref ka), (.ref pa), (.ref wa)] 9 = mkF m 0 #[.val (.ref ka), .val (.ref pa), .val (.ref wa), .unset, .unset, .unset, .unset, .unset, .unset] [] := by first | (simp [entryFrame, mkF, argsToLocals, Value.category]; done) | rfl
def room1_1 : Room := { frames := 0, cells := 0, slots := 0, locals := 0 }
set_option maxRecDepth 65536 in
set_option maxHeartbeats 40000000 in
theorem rm1_1 (l : Launch) (Z : State) (a0 : Array Value) (hw : ∀ d ∈ tables_1, d.before a0 Z = true) (ka pa wa : Addr) (A0 B0 M0 : Nat) (w0 w1 : UInt64) (h0 : Heap) (n0 : Nat) (Z0 : n0 ≤ h0.size) (KA : oDbls Z h0 ka [(dy A0 0)]) (PA : oDbls Z h0 pa [(dy B0 0)]) (WA : oDbls Z h0 wa [w0, w1]) (ge_w : n0 ≤ wa) (ne_k : ka ≠ wa) (ne_p : pa ≠ wa) (s0 : A0 + B0 = 2 ^ M0) (hM0 : M0 ≤ 15) (hA0 : A0 ≤ 32768) (hB0 : B0 ≤ 32768) :
    oCon l Z (⟨"com/example/stickbreak/stickbreak/HdpSampler", "breakSticks", "([D[D[D)V"⟩ : MethodName) prog_16_method_9_code 9 none room1_1 #[(.ref ka), (.ref pa), (.ref wa)] h0 (fun v h L => v = none ∧ Fr n0 L ∧ Keep h0 h [wa] ∧ oDbls Z h wa [(dy (1 * A0) (0 + M0)), (dy (1 * B0) (0 + M0))]) := by
  refine oCon.of (plainFor_of_name pn_1) ?_
  intro p e s m below meth c s₁ hx hby hml hown hnm hret hlk hZ X0 e0
  rw [ef1_1 m ka pa wa]
  have N0 := Fr.nil n0
  have K0 := Keep.refl h0 [wa]
  have pw0 := pw M0 hM0
  refine o_aloadN (pc' := 1) X0 hx (hb hby d1_0) rfl rfl rfl ?_
  refine o_dalen (pc' := 2) X0 hx hZ e0 WA (hb hby d1_1) rfl ?_
  show oGo p e below (oG s (fun v h L => v = none ∧ Fr n0 L ∧ Keep h0 h [wa] ∧ oDbls Z h wa [(dy (1 * A0) (0 + M0)), (dy (1 * B0) (0 + M0))]) room1_1.cells room1_1.slots) s₁ (mkF m 2 #[.val (.ref ka), .val (.ref pa), .val (.ref wa), .unset, .unset, .unset, .unset, .unset, .unset] [(.int (2 : Int32))])
  refine o_iconst (pc' := 3) (v := (1 : Int32)) X0 hx (hb hby d1_2) rfl rfl ?_
  refine o_isub (pc' := 4) X0 hx (hb hby d1_3)  rfl ?_
  rw [show ((2 : Int32) - (1 : Int32)) = (1 : Int32) from by decide]
  refine o_istoreN (pc' := 5) (l' := #[.val (.ref ka), .val (.ref pa), .val (.ref wa), .val (.int (1 : Int32)), .unset, .unset, .unset, .unset, .unset]) X0 hx (hb hby d1_4) rfl rfl ?_
  refine o_dconst1 (pc' := 6) (v := (dy 1 0)) X0 hx (hb hby d1_5) dy_c1 rfl ?_
  refine o_dstore (pc' := 8) (l' := #[.val (.ref ka), .val (.ref pa), .val (.ref wa), .val (.int (1 : Int32)), .val (.double (dy 1 0)), .second, .unset, .unset, .unset]) X0 hx (hb hby d1_6) rfl rfl ?_
  refine o_iconst (pc' := 9) (v := (0 : Int32)) X0 hx (hb hby d1_8) rfl rfl ?_
  refine o_istore (pc' := 11) (l' := #[.val (.ref ka), .val (.ref pa), .val (.ref wa), .val (.int (1 : Int32)), .val (.double (dy 1 0)), .second, .val (.int (0 : Int32)), .unset, .unset]) X0 hx (hb hby d1_9) rfl rfl ?_
  refine o_iload (pc' := 13) X0 hx (hb hby d1_11) rfl rfl ?_
  refine o_iloadN (pc' := 14) X0 hx (hb hby d1_13) rfl rfl ?_
  refine o_icmpF (pc' := 17) X0 hx (hb hby d1_14) (XT.ii_ge_f (by decide)) rfl ?_
  refine o_aloadN (pc' := 18) X0 hx (hb hby d1_17) rfl rfl rfl ?_
  refine o_iload (pc' := 20) X0 hx (hb hby d1_18) rfl rfl ?_
  refine o_daload (pc' := 21) (v := (dy A0 0)) X0 hx hZ e0 KA (hb hby d1_20) (by decide) rfl rfl ?_
  refine o_aloadN (pc' := 22) X0 hx (hb hby d1_21) rfl rfl rfl ?_
  refine o_iload (pc' := 24) X0 hx (hb hby d1_22) rfl rfl ?_
  refine o_daload (pc' := 25) (v := (dy B0 0)) X0 hx hZ e0 PA (hb hby d1_24) (by decide) rfl rfl ?_
  refine o_dadd (pc' := 26) (v := (dy (2 ^ M0) 0)) X0 hx (hb hby d1_25) (by rw [dy_add (by omega) (by omega), s0]; exact dy_nn (by omega) (by decide)) (by rw [dy_add (by omega) (by omega), s0]) rfl ?_
  refine o_dstore (pc' := 28) (l' := #[.val (.ref ka), .val (.ref pa), .val (.ref wa), .val (.int (1 : Int32)), .val (.double (dy 1 0)), .second, .val (.int (0 : Int32)), .val (.double (dy (2 ^ M0) 0)), .second]) X0 hx (hb hby d1_26) rfl rfl ?_
  refine o_aloadN (pc' := 29) X0 hx (hb hby d1_28) rfl rfl rfl ?_
  refine o_iload (pc' := 31) X0 hx (hb hby d1_29) rfl rfl ?_
  refine o_dload (pc' := 33) X0 hx (hb hby d1_31) rfl rfl ?_
  refine o_aloadN (pc' := 34) X0 hx (hb hby d1_33) rfl rfl rfl ?_
  refine o_iload (pc' := 36) X0 hx (hb hby d1_34) rfl rfl ?_
  refine o_daload (pc' := 37) (v := (dy A0 0)) X0 hx hZ e0 KA (hb hby d1_36) (by decide) rfl rfl ?_
  refine o_dload (pc' := 39) X0 hx (hb hby d1_37) rfl rfl ?_
  refine o_ddiv (pc' := 40) (v := (dy A0 M0)) X0 hx (hb hby d1_39) (by rw [dy_div (by omega) (by omega)]; exact dy_nn (by omega) (by omega)) (dy_div (by omega) (by omega)) rfl ?_
  refine o_dmul (pc' := 41) (v := (dy (1 * A0) (0 + M0))) X0 hx (hb hby d1_40) (by rw [dy_mul (own_lim (own_l1) (by omega)) (by omega) (by omega) (by omega)]; exact dy_nn (own_lim (own_lm (own_l1) hA0) (by omega)) (by omega)) (dy_mul (own_lim (own_l1) (by omega)) (by omega) (by omega) (by omega)) rfl ?_
  obtain ⟨T1, h1_, X1, e1, W1, st1⟩ := o_dastore (x := (dy (1 * A0) (0 + M0))) (j := (0 : Int32)) (Ls := #[.val (.ref ka), .val (.ref pa), .val (.ref wa), .val (.int (1 : Int32)), .val (.double (dy 1 0)), .second, .val (.int (0 : Int32)), .val (.double (dy (2 ^ M0) 0)), .second]) (st := []) X0 hx hZ e0 WA (hb hby d1_41) (by decide) (show _ < 2 by decide) rfl
  refine oGo.step (f' := (mkF m 42 #[.val (.ref ka), .val (.ref pa), .val (.ref wa), .val (.int (1 : Int32)), .val (.double (dy 1 0)), .second, .val (.int (0 : Int32)), .val (.double (dy (2 ^ M0) 0)), .second] [])) st1 ?_
  have N1 := Fr.snoc X1 N0 ge_w
  have F2 := WA.set W1
  replace F2 : oDbls Z h1_ wa [(dy (1 * A0) (0 + M0)), w1] := F2
  have K3 := Keep.of_wr W1
  have F4 := KA.keep K3 (ninS ne_k nin0)
  have F5 := PA.keep K3 (ninS ne_p nin0)
  have Z6 := Nat.le_trans Z0 K3.1
  have K7 := K0.trans K3 (allS (Or.inl (List.mem_of_getElem? (i := 0) rfl)) all0)
  refine o_dload (pc' := 44) X1 hx (hb hby d1_42) rfl rfl ?_
  refine o_aloadN (pc' := 45) X1 hx (hb hby d1_44) rfl rfl rfl ?_
  refine o_iload (pc' := 47) X1 hx (hb hby d1_45) rfl rfl ?_
  refine o_daload (pc' := 48) (v := (dy B0 0)) X1 hx hZ e1 F5 (hb hby d1_47) (by decide) rfl rfl ?_
  refine o_dload (pc' := 50) X1 hx (hb hby d1_48) rfl rfl ?_
  refine o_ddiv (pc' := 51) (v := (dy B0 M0)) X1 hx (hb hby d1_50) (by rw [dy_div (by omega) (by omega)]; exact dy_nn (by omega) (by omega)) (dy_div (by omega) (by omega)) rfl ?_
  refine o_dmul (pc' := 52) (v := (dy (1 * B0) (0 + M0))) X1 hx (hb hby d1_51) (by rw [dy_mul (own_lim (own_l1) (by omega)) (by omega) (by omega) (by omega)]; exact dy_nn (own_lim (own_lm (own_l1) hB0) (by omega)) (by omega)) (dy_mul (own_lim (own_l1) (by omega)) (by omega) (by omega) (by omega)) rfl ?_
  refine o_dstore (pc' := 54) (l' := #[.val (.ref ka), .val (.ref pa), .val (.ref wa), .val (.int (1 : Int32)), .val (.double (dy (1 * B0) (0 + M0))), .second, .val (.int (0 : Int32)), .val (.double (dy (2 ^ M0) 0)), .second]) X1 hx (hb hby d1_52) rfl rfl ?_
  refine o_iinc (pc' := 57) (v := (1 : Int32)) (l' := #[.val (.ref ka), .val (.ref pa), .val (.ref wa), .val (.int (1 : Int32)), .val (.double (dy (1 * B0) (0 + M0))), .second, .val (.int (1 : Int32)), .val (.double (dy (2 ^ M0) 0)), .second]) X1 hx (hb hby d1_54) rfl rfl rfl rfl ?_
  refine o_goto (pc' := 11) X1 hx (hb hby d1_57) (by decide) (by decide) ?_
  refine o_iload (pc' := 13) X1 hx (hb hby d1_11) rfl rfl ?_
  refine o_iloadN (pc' := 14) X1 hx (hb hby d1_13) rfl rfl ?_
  refine o_icmpT (pc' := 60) X1 hx (hb hby d1_14) (XT.ii_ge_t (by decide)) (by decide) (by decide) ?_
  refine o_aloadN (pc' := 61) X1 hx (hb hby d1_60) rfl rfl rfl ?_
  refine o_iloadN (pc' := 62) X1 hx (hb hby d1_61) rfl rfl ?_
  refine o_dload (pc' := 64) X1 hx (hb hby d1_62) rfl rfl ?_
  obtain ⟨T8, h8_, X8, e8, W8, st8⟩ := o_dastore (x := (dy (1 * B0) (0 + M0))) (j := (1 : Int32)) (Ls := #[.val (.ref ka), .val (.ref pa), .val (.ref wa), .val (.int (1 : Int32)), .val (.double (dy (1 * B0) (0 + M0))), .second, .val (.int (1 : Int32)), .val (.double (dy (2 ^ M0) 0)), .second]) (st := []) X1 hx hZ e1 F2 (hb hby d1_64) (by decide) (show _ < 2 by decide) rfl
  refine oGo.step (f' := (mkF m 65 #[.val (.ref ka), .val (.ref pa), .val (.ref wa), .val (.int (1 : Int32)), .val (.double (dy (1 * B0) (0 + M0))), .second, .val (.int (1 : Int32)), .val (.double (dy (2 ^ M0) 0)), .second] [])) st8 ?_
  have N8 := Fr.snoc X8 N1 ge_w
  have F9 := F2.set W8
  replace F9 : oDbls Z h8_ wa [(dy (1 * A0) (0 + M0)), (dy (1 * B0) (0 + M0))] := F9
  have K10 := Keep.of_wr W8
  have F11 := F4.keep K10 (ninS ne_k nin0)
  have F12 := F5.keep K10 (ninS ne_p nin0)
  have Z13 := Nat.le_trans Z6 K10.1
  have K14 := K7.trans K10 (allS (Or.inl (List.mem_of_getElem? (i := 0) rfl)) all0)
  refine o_retV X8 hx hret hlk (hb hby d1_65) (by decide) (by decide) ?_
  rw [e8]
  exact ⟨rfl, N8, K14, F9⟩
theorem ef1_2 (m : MethodId) (ka pa wa : Addr) : entryFrame m #[(.ref ka), (.ref pa), (.ref wa)] 9 = mkF m 0 #[.val (.ref ka), .val (.ref pa), .val (.ref wa), .unset, .unset, .unset, .unset, .unset, .unset] [] := by first | (simp [entryFrame, mkF, argsToLocals, Value.category]; done) | rfl
def room1_2 : Room := { frames := 0, cells := 0, slots := 0, locals := 0 }
set_option maxRecDepth 65536 in
set_option maxHeartbeats 40000000 in
theorem rm1_2 (l : Launch) (Z : State) (a0 : Array Value) (hw : ∀ d ∈ tables_1, d.before a0 Z = true) (ka pa wa : Addr) (A0 A1 B0 B1 M0 M1 : Nat) (w0 w1 w2 : UInt64) (h0 : Heap) (n0 : Nat) (Z0 : n0 ≤ h0.size) (KA : oDbls Z h0 ka [(dy A0 0), (dy A1 0)]) (PA : oDbls Z h0 pa [(dy B0 0), (dy B1 0)]) (WA : oDbls Z h0 wa [w0, w1, w2]) (ge_w : n0 ≤ wa) (ne_k : ka ≠ wa) (ne_p : pa ≠ wa) (s0 : A0 + B0 = 2 ^ M0) (hM0 : M0 ≤ 15) (hA0 : A0 ≤ 32768) (hB0 : B0 ≤ 32768) (s1 : A1 + B1 = 2 ^ M1) (hM1 : M1 ≤ 15) (hA1 : A1 ≤ 32768) (hB1 : B1 ≤ 32768) :
    oCon l Z (⟨"com/example/stickbreak/stickbreak/HdpSampler", "breakSticks", "([D[D[D)V"⟩ : MethodName) prog_16_method_9_code 9 none room1_2 #[(.ref ka), (.ref pa), (.ref wa)] h0 (fun v h L => v = none ∧ Fr n0 L ∧ Keep h0 h [wa] ∧ oDbls Z h wa [(dy (1 * A0) (0 + M0)), (dy ((1 * B0) * A1) ((0 + M0) + M1)), (dy ((1 * B0) * B1) ((0 + M0) + M1))]) := by
  refine oCon.of (plainFor_of_name pn_1) ?_
  intro p e s m below meth c s₁ hx hby hml hown hnm hret hlk hZ X0 e0
  rw [ef1_2 m ka pa wa]
  have N0 := Fr.nil n0
  have K0 := Keep.refl h0 [wa]
  have pw0 := pw M0 hM0
  have pw1 := pw M1 hM1
  refine o_aloadN (pc' := 1) X0 hx (hb hby d1_0) rfl rfl rfl ?_
  refine o_dalen (pc' := 2) X0 hx hZ e0 WA (hb hby d1_1) rfl ?_
  show oGo p e below (oG s (fun v h L => v = none ∧ Fr n0 L ∧ Keep h0 h [wa] ∧ oDbls Z h wa [(dy (1 * A0) (0 + M0)), (dy ((1 * B0) * A1) ((0 + M0) + M1)), (dy ((1 * B0) * B1) ((0 + M0) + M1))]) room1_2.cells room1_2.slots) s₁ (mkF m 2 #[.val (.ref ka), .val (.ref pa), .val (.ref wa), .unset, .unset, .unset, .unset, .unset, .unset] [(.int (3 : Int32))])
  refine o_iconst (pc' := 3) (v := (1 : Int32)) X0 hx (hb hby d1_2) rfl rfl ?_
  refine o_isub (pc' := 4) X0 hx (hb hby d1_3)  rfl ?_
  rw [show ((3 : Int32) - (1 : Int32)) = (2 : Int32) from by decide]
  refine o_istoreN (pc' := 5) (l' := #[.val (.ref ka), .val (.ref pa), .val (.ref wa), .val (.int (2 : Int32)), .unset, .unset, .unset, .unset, .unset]) X0 hx (hb hby d1_4) rfl rfl ?_
  refine o_dconst1 (pc' := 6) (v := (dy 1 0)) X0 hx (hb hby d1_5) dy_c1 rfl ?_
  refine o_dstore (pc' := 8) (l' := #[.val (.ref ka), .val (.ref pa), .val (.ref wa), .val (.int (2 : Int32)), .val (.double (dy 1 0)), .second, .unset, .unset, .unset]) X0 hx (hb hby d1_6) rfl rfl ?_
  refine o_iconst (pc' := 9) (v := (0 : Int32)) X0 hx (hb hby d1_8) rfl rfl ?_
  refine o_istore (pc' := 11) (l' := #[.val (.ref ka), .val (.ref pa), .val (.ref wa), .val (.int (2 : Int32)), .val (.double (dy 1 0)), .second, .val (.int (0 : Int32)), .unset, .unset]) X0 hx (hb hby d1_9) rfl rfl ?_
  refine o_iload (pc' := 13) X0 hx (hb hby d1_11) rfl rfl ?_
  refine o_iloadN (pc' := 14) X0 hx (hb hby d1_13) rfl rfl ?_
  refine o_icmpF (pc' := 17) X0 hx (hb hby d1_14) (XT.ii_ge_f (by decide)) rfl ?_
  refine o_aloadN (pc' := 18) X0 hx (hb hby d1_17) rfl rfl rfl ?_
  refine o_iload (pc' := 20) X0 hx (hb hby d1_18) rfl rfl ?_
  refine o_daload (pc' := 21) (v := (dy A0 0)) X0 hx hZ e0 KA (hb hby d1_20) (by decide) rfl rfl ?_
  refine o_aloadN (pc' := 22) X0 hx (hb hby d1_21) rfl rfl rfl ?_
  refine o_iload (pc' := 24) X0 hx (hb hby d1_22) rfl rfl ?_
  refine o_daload (pc' := 25) (v := (dy B0 0)) X0 hx hZ e0 PA (hb hby d1_24) (by decide) rfl rfl ?_
  refine o_dadd (pc' := 26) (v := (dy (2 ^ M0) 0)) X0 hx (hb hby d1_25) (by rw [dy_add (by omega) (by omega), s0]; exact dy_nn (by omega) (by decide)) (by rw [dy_add (by omega) (by omega), s0]) rfl ?_
  refine o_dstore (pc' := 28) (l' := #[.val (.ref ka), .val (.ref pa), .val (.ref wa), .val (.int (2 : Int32)), .val (.double (dy 1 0)), .second, .val (.int (0 : Int32)), .val (.double (dy (2 ^ M0) 0)), .second]) X0 hx (hb hby d1_26) rfl rfl ?_
  refine o_aloadN (pc' := 29) X0 hx (hb hby d1_28) rfl rfl rfl ?_
  refine o_iload (pc' := 31) X0 hx (hb hby d1_29) rfl rfl ?_
  refine o_dload (pc' := 33) X0 hx (hb hby d1_31) rfl rfl ?_
  refine o_aloadN (pc' := 34) X0 hx (hb hby d1_33) rfl rfl rfl ?_
  refine o_iload (pc' := 36) X0 hx (hb hby d1_34) rfl rfl ?_
  refine o_daload (pc' := 37) (v := (dy A0 0)) X0 hx hZ e0 KA (hb hby d1_36) (by decide) rfl rfl ?_
  refine o_dload (pc' := 39) X0 hx (hb hby d1_37) rfl rfl ?_
  refine o_ddiv (pc' := 40) (v := (dy A0 M0)) X0 hx (hb hby d1_39) (by rw [dy_div (by omega) (by omega)]; exact dy_nn (by omega) (by omega)) (dy_div (by omega) (by omega)) rfl ?_
  refine o_dmul (pc' := 41) (v := (dy (1 * A0) (0 + M0))) X0 hx (hb hby d1_40) (by rw [dy_mul (own_lim (own_l1) (by omega)) (by omega) (by omega) (by omega)]; exact dy_nn (own_lim (own_lm (own_l1) hA0) (by omega)) (by omega)) (dy_mul (own_lim (own_l1) (by omega)) (by omega) (by omega) (by omega)) rfl ?_
  obtain ⟨T1, h1_, X1, e1, W1, st1⟩ := o_dastore (x := (dy (1 * A0) (0 + M0))) (j := (0 : Int32)) (Ls := #[.val (.ref ka), .val (.ref pa), .val (.ref wa), .val (.int (2 : Int32)), .val (.double (dy 1 0)), .second, .val (.int (0 : Int32)), .val (.double (dy (2 ^ M0) 0)), .second]) (st := []) X0 hx hZ e0 WA (hb hby d1_41) (by decide) (show _ < 3 by decide) rfl
  refine oGo.step (f' := (mkF m 42 #[.val (.ref ka), .val (.ref pa), .val (.ref wa), .val (.int (2 : Int32)), .val (.double (dy 1 0)), .second, .val (.int (0 : Int32)), .val (.double (dy (2 ^ M0) 0)), .second] [])) st1 ?_
  have N1 := Fr.snoc X1 N0 ge_w
  have F2 := WA.set W1
  replace F2 : oDbls Z h1_ wa [(dy (1 * A0) (0 + M0)), w1, w2] := F2
  have K3 := Keep.of_wr W1
  have F4 := KA.keep K3 (ninS ne_k nin0)
  have F5 := PA.keep K3 (ninS ne_p nin0)
  have Z6 := Nat.le_trans Z0 K3.1
  have K7 := K0.trans K3 (allS (Or.inl (List.mem_of_getElem? (i := 0) rfl)) all0)
  refine o_dload (pc' := 44) X1 hx (hb hby d1_42) rfl rfl ?_
  refine o_aloadN (pc' := 45) X1 hx (hb hby d1_44) rfl rfl rfl ?_
  refine o_iload (pc' := 47) X1 hx (hb hby d1_45) rfl rfl ?_
  refine o_daload (pc' := 48) (v := (dy B0 0)) X1 hx hZ e1 F5 (hb hby d1_47) (by decide) rfl rfl ?_
  refine o_dload (pc' := 50) X1 hx (hb hby d1_48) rfl rfl ?_
  refine o_ddiv (pc' := 51) (v := (dy B0 M0)) X1 hx (hb hby d1_50) (by rw [dy_div (by omega) (by omega)]; exact dy_nn (by omega) (by omega)) (dy_div (by omega) (by omega)) rfl ?_
  refine o_dmul (pc' := 52) (v := (dy (1 * B0) (0 + M0))) X1 hx (hb hby d1_51) (by rw [dy_mul (own_lim (own_l1) (by omega)) (by omega) (by omega) (by omega)]; exact dy_nn (own_lim (own_lm (own_l1) hB0) (by omega)) (by omega)) (dy_mul (own_lim (own_l1) (by omega)) (by omega) (by omega) (by omega)) rfl ?_
  refine o_dstore (pc' := 54) (l' := #[.val (.ref ka), .val (.ref pa), .val (.ref wa), .val (.int (2 : Int32)), .val (.double (dy (1 * B0) (0 + M0))), .second, .val (.int (0 : Int32)), .val (.double (dy (2 ^ M0) 0)), .second]) X1 hx (hb hby d1_52) rfl rfl ?_
  refine o_iinc (pc' := 57) (v := (1 : Int32)) (l' := #[.val (.ref ka), .val (.ref pa), .val (.ref wa), .val (.int (2 : Int32)), .val (.double (dy (1 * B0) (0 + M0))), .second, .val (.int (1 : Int32)), .val (.double (dy (2 ^ M0) 0)), .second]) X1 hx (hb hby d1_54) rfl rfl rfl rfl ?_
  refine o_goto (pc' := 11) X1 hx (hb hby d1_57) (by decide) (by decide) ?_
  refine o_iload (pc' := 13) X1 hx (hb hby d1_11) rfl rfl ?_
  refine o_iloadN (pc' := 14) X1 hx (hb hby d1_13) rfl rfl ?_
  refine o_icmpF (pc' := 17) X1 hx (hb hby d1_14) (XT.ii_ge_f (by decide)) rfl ?_
  refine o_aloadN (pc' := 18) X1 hx (hb hby d1_17) rfl rfl rfl ?_
  refine o_iload (pc' := 20) X1 hx (hb hby d1_18) rfl rfl ?_
  refine o_daload (pc' := 21) (v := (dy A1 0)) X1 hx hZ e1 F4 (hb hby d1_20) (by decide) rfl rfl ?_
  refine o_aloadN (pc' := 22) X1 hx (hb hby d1_21) rfl rfl rfl ?_
  refine o_iload (pc' := 24) X1 hx (hb hby d1_22) rfl rfl ?_
  refine o_daload (pc' := 25) (v := (dy B1 0)) X1 hx hZ e1 F5 (hb hby d1_24) (by decide) rfl rfl ?_
  refine o_dadd (pc' := 26) (v := (dy (2 ^ M1) 0)) X1 hx (hb hby d1_25) (by rw [dy_add (by omega) (by omega), s1]; exact dy_nn (by omega) (by decide)) (by rw [dy_add (by omega) (by omega), s1]) rfl ?_
  refine o_dstore (pc' := 28) (l' := #[.val (.ref ka), .val (.ref pa), .val (.ref wa), .val (.int (2 : Int32)), .val (.double (dy (1 * B0) (0 + M0))), .second, .val (.int (1 : Int32)), .val (.double (dy (2 ^ M1) 0)), .second]) X1 hx (hb hby d1_26) rfl rfl ?_
  refine o_aloadN (pc' := 29) X1 hx (hb hby d1_28) rfl rfl rfl ?_
  refine o_iload (pc' := 31) X1 hx (hb hby d1_29) rfl rfl ?_
  refine o_dload (pc' := 33) X1 hx (hb hby d1_31) rfl rfl ?_
  refine o_aloadN (pc' := 34) X1 hx (hb hby d1_33) rfl rfl rfl ?_
  refine o_iload (pc' := 36) X1 hx (hb hby d1_34) rfl rfl ?_
  refine o_daload (pc' := 37) (v := (dy A1 0)) X1 hx hZ e1 F4 (hb hby d1_36) (by decide) rfl rfl ?_
  refine o_dload (pc' := 39) X1 hx (hb hby d1_37) rfl rfl ?_
  refine o_ddiv (pc' := 40) (v := (dy A1 M1)) X1 hx (hb hby d1_39) (by rw [dy_div (by omega) (by omega)]; exact dy_nn (by omega) (by omega)) (dy_div (by omega) (by omega)) rfl ?_
  refine o_dmul (pc' := 41) (v := (dy ((1 * B0) * A1) ((0 + M0) + M1))) X1 hx (hb hby d1_40) (by rw [dy_mul (own_lim (own_lm (own_l1) hB0) (by omega)) (by omega) (by omega) (by omega)]; exact dy_nn (own_lim (own_lm (own_lm (own_l1) hB0) hA1) (by omega)) (by omega)) (dy_mul (own_lim (own_lm (own_l1) hB0) (by omega)) (by omega) (by omega) (by omega)) rfl ?_
  obtain ⟨T8, h8_, X8, e8, W8, st8⟩ := o_dastore (x := (dy ((1 * B0) * A1) ((0 + M0) + M1))) (j := (1 : Int32)) (Ls := #[.val (.ref ka), .val (.ref pa), .val (.ref wa), .val (.int (2 : Int32)), .val (.double (dy (1 * B0) (0 + M0))), .second, .val (.int (1 : Int32)), .val (.double (dy (2 ^ M1) 0)), .second]) (st := []) X1 hx hZ e1 F2 (hb hby d1_41) (by decide) (show _ < 3 by decide) rfl
  refine oGo.step (f' := (mkF m 42 #[.val (.ref ka), .val (.ref pa), .val (.ref wa), .val (.int (2 : Int32)), .val (.double (dy (1 * B0) (0 + M0))), .second, .val (.int (1 : Int32)), .val (.double (dy (2 ^ M1) 0)), .second] [])) st8 ?_
  have N8 := Fr.snoc X8 N1 ge_w
  have F9 := F2.set W8
  replace F9 : oDbls Z h8_ wa [(dy (1 * A0) (0 + M0)), (dy ((1 * B0) * A1) ((0 + M0) + M1)), w2] := F9
  have K10 := Keep.of_wr W8
  have F11 := F4.keep K10 (ninS ne_k nin0)
  have F12 := F5.keep K10 (ninS ne_p nin0)
  have Z13 := Nat.le_trans Z6 K10.1
  have K14 := K7.trans K10 (allS (Or.inl (List.mem_of_getElem? (i := 0) rfl)) all0)
  refine o_dload (pc' := 44) X8 hx (hb hby d1_42) rfl rfl ?_
  refine o_aloadN (pc' := 45) X8 hx (hb hby d1_44) rfl rfl rfl ?_
  refine o_iload (pc' := 47) X8 hx (hb hby d1_45) rfl rfl ?_
  refine o_daload (pc' := 48) (v := (dy B1 0)) X8 hx hZ e8 F12 (hb hby d1_47) (by decide) rfl rfl ?_
  refine o_dload (pc' := 50) X8 hx (hb hby d1_48) rfl rfl ?_
  refine o_ddiv (pc' := 51) (v := (dy B1 M1)) X8 hx (hb hby d1_50) (by rw [dy_div (by omega) (by omega)]; exact dy_nn (by omega) (by omega)) (dy_div (by omega) (by omega)) rfl ?_
  refine o_dmul (pc' := 52) (v := (dy ((1 * B0) * B1) ((0 + M0) + M1))) X8 hx (hb hby d1_51) (by rw [dy_mul (own_lim (own_lm (own_l1) hB0) (by omega)) (by omega) (by omega) (by omega)]; exact dy_nn (own_lim (own_lm (own_lm (own_l1) hB0) hB1) (by omega)) (by omega)) (dy_mul (own_lim (own_lm (own_l1) hB0) (by omega)) (by omega) (by omega) (by omega)) rfl ?_
  refine o_dstore (pc' := 54) (l' := #[.val (.ref ka), .val (.ref pa), .val (.ref wa), .val (.int (2 : Int32)), .val (.double (dy ((1 * B0) * B1) ((0 + M0) + M1))), .second, .val (.int (1 : Int32)), .val (.double (dy (2 ^ M1) 0)), .second]) X8 hx (hb hby d1_52) rfl rfl ?_
  refine o_iinc (pc' := 57) (v := (1 : Int32)) (l' := #[.val (.ref ka), .val (.ref pa), .val (.ref wa), .val (.int (2 : Int32)), .val (.double (dy ((1 * B0) * B1) ((0 + M0) + M1))), .second, .val (.int (2 : Int32)), .val (.double (dy (2 ^ M1) 0)), .second]) X8 hx (hb hby d1_54) rfl rfl rfl rfl ?_
  refine o_goto (pc' := 11) X8 hx (hb hby d1_57) (by decide) (by decide) ?_
  refine o_iload (pc' := 13) X8 hx (hb hby d1_11) rfl rfl ?_
  refine o_iloadN (pc' := 14) X8 hx (hb hby d1_13) rfl rfl ?_
  refine o_icmpT (pc' := 60) X8 hx (hb hby d1_14) (XT.ii_ge_t (by decide)) (by decide) (by decide) ?_
  refine o_aloadN (pc' := 61) X8 hx (hb hby d1_60) rfl rfl rfl ?_
  refine o_iloadN (pc' := 62) X8 hx (hb hby d1_61) rfl rfl ?_
  refine o_dload (pc' := 64) X8 hx (hb hby d1_62) rfl rfl ?_
  obtain ⟨T15, h15_, X15, e15, W15, st15⟩ := o_dastore (x := (dy ((1 * B0) * B1) ((0 + M0) + M1))) (j := (2 : Int32)) (Ls := #[.val (.ref ka), .val (.ref pa), .val (.ref wa), .val (.int (2 : Int32)), .val (.double (dy ((1 * B0) * B1) ((0 + M0) + M1))), .second, .val (.int (2 : Int32)), .val (.double (dy (2 ^ M1) 0)), .second]) (st := []) X8 hx hZ e8 F9 (hb hby d1_64) (by decide) (show _ < 3 by decide) rfl
  refine oGo.step (f' := (mkF m 65 #[.val (.ref ka), .val (.ref pa), .val (.ref wa), .val (.int (2 : Int32)), .val (.double (dy ((1 * B0) * B1) ((0 + M0) + M1))), .second, .val (.int (2 : Int32)), .val (.double (dy (2 ^ M1) 0)), .second] [])) st15 ?_
  have N15 := Fr.snoc X15 N8 ge_w
  have F16 := F9.set W15
  replace F16 : oDbls Z h15_ wa [(dy (1 * A0) (0 + M0)), (dy ((1 * B0) * A1) ((0 + M0) + M1)), (dy ((1 * B0) * B1) ((0 + M0) + M1))] := F16
  have K17 := Keep.of_wr W15
  have F18 := F11.keep K17 (ninS ne_k nin0)
  have F19 := F12.keep K17 (ninS ne_p nin0)
  have Z20 := Nat.le_trans Z13 K17.1
  have K21 := K14.trans K17 (allS (Or.inl (List.mem_of_getElem? (i := 0) rfl)) all0)
  refine o_retV X15 hx hret hlk (hb hby d1_65) (by decide) (by decide) ?_
  rw [e15]
  exact ⟨rfl, N15, K21, F16⟩
theorem ef1_3 (m : MethodId) (ka pa wa : Addr) : entryFrame m #[(.ref ka), (.ref pa), (.ref wa)] 9 = mkF m 0 #[.val (.ref ka), .val (.ref pa), .val (.ref wa), .unset, .unset, .unset, .unset, .unset, .unset] [] := by first | (simp [entryFrame, mkF, argsToLocals, Value.category]; done) | rfl
def room1_3 : Room := { frames := 0, cells := 0, slots := 0, locals := 0 }
set_option maxRecDepth 65536 in
set_option maxHeartbeats 40000000 in
theorem rm1_3 (l : Launch) (Z : State) (a0 : Array Value) (hw : ∀ d ∈ tables_1, d.before a0 Z = true) (ka pa wa : Addr) (A0 A1 A2 B0 B1 B2 M0 M1 M2 : Nat) (w0 w1 w2 w3 : UInt64) (h0 : Heap) (n0 : Nat) (Z0 : n0 ≤ h0.size) (KA : oDbls Z h0 ka [(dy A0 0), (dy A1 0), (dy A2 0)]) (PA : oDbls Z h0 pa [(dy B0 0), (dy B1 0), (dy B2 0)]) (WA : oDbls Z h0 wa [w0, w1, w2, w3]) (ge_w : n0 ≤ wa) (ne_k : ka ≠ wa) (ne_p : pa ≠ wa) (s0 : A0 + B0 = 2 ^ M0) (hM0 : M0 ≤ 15) (hA0 : A0 ≤ 32768) (hB0 : B0 ≤ 32768) (s1 : A1 + B1 = 2 ^ M1) (hM1 : M1 ≤ 15) (hA1 : A1 ≤ 32768) (hB1 : B1 ≤ 32768) (s2 : A2 + B2 = 2 ^ M2) (hM2 : M2 ≤ 15) (hA2 : A2 ≤ 32768) (hB2 : B2 ≤ 32768) :
    oCon l Z (⟨"com/example/stickbreak/stickbreak/HdpSampler", "breakSticks", "([D[D[D)V"⟩ : MethodName) prog_16_method_9_code 9 none room1_3 #[(.ref ka), (.ref pa), (.ref wa)] h0 (fun v h L => v = none ∧ Fr n0 L ∧ Keep h0 h [wa] ∧ oDbls Z h wa [(dy (1 * A0) (0 + M0)), (dy ((1 * B0) * A1) ((0 + M0) + M1)), (dy (((1 * B0) * B1) * A2) (((0 + M0) + M1) + M2)), (dy (((1 * B0) * B1) * B2) (((0 + M0) + M1) + M2))]) := by
  refine oCon.of (plainFor_of_name pn_1) ?_
  intro p e s m below meth c s₁ hx hby hml hown hnm hret hlk hZ X0 e0
  rw [ef1_3 m ka pa wa]
  have N0 := Fr.nil n0
  have K0 := Keep.refl h0 [wa]
  have pw0 := pw M0 hM0
  have pw1 := pw M1 hM1
  have pw2 := pw M2 hM2
  refine o_aloadN (pc' := 1) X0 hx (hb hby d1_0) rfl rfl rfl ?_
  refine o_dalen (pc' := 2) X0 hx hZ e0 WA (hb hby d1_1) rfl ?_
  show oGo p e below (oG s (fun v h L => v = none ∧ Fr n0 L ∧ Keep h0 h [wa] ∧ oDbls Z h wa [(dy (1 * A0) (0 + M0)), (dy ((1 * B0) * A1) ((0 + M0) + M1)), (dy (((1 * B0) * B1) * A2) (((0 + M0) + M1) + M2)), (dy (((1 * B0) * B1) * B2) (((0 + M0) + M1) + M2))]) room1_3.cells room1_3.slots) s₁ (mkF m 2 #[.val (.ref ka), .val (.ref pa), .val (.ref wa), .unset, .unset, .unset, .unset, .unset, .unset] [(.int (4 : Int32))])
  refine o_iconst (pc' := 3) (v := (1 : Int32)) X0 hx (hb hby d1_2) rfl rfl ?_
  refine o_isub (pc' := 4) X0 hx (hb hby d1_3)  rfl ?_
  rw [show ((4 : Int32) - (1 : Int32)) = (3 : Int32) from by decide]
  refine o_istoreN (pc' := 5) (l' := #[.val (.ref ka), .val (.ref pa), .val (.ref wa), .val (.int (3 : Int32)), .unset, .unset, .unset, .unset, .unset]) X0 hx (hb hby d1_4) rfl rfl ?_
  refine o_dconst1 (pc' := 6) (v := (dy 1 0)) X0 hx (hb hby d1_5) dy_c1 rfl ?_
  refine o_dstore (pc' := 8) (l' := #[.val (.ref ka), .val (.ref pa), .val (.ref wa), .val (.int (3 : Int32)), .val (.double (dy 1 0)), .second, .unset, .unset, .unset]) X0 hx (hb hby d1_6) rfl rfl ?_
  refine o_iconst (pc' := 9) (v := (0 : Int32)) X0 hx (hb hby d1_8) rfl rfl ?_
  refine o_istore (pc' := 11) (l' := #[.val (.ref ka), .val (.ref pa), .val (.ref wa), .val (.int (3 : Int32)), .val (.double (dy 1 0)), .second, .val (.int (0 : Int32)), .unset, .unset]) X0 hx (hb hby d1_9) rfl rfl ?_
  refine o_iload (pc' := 13) X0 hx (hb hby d1_11) rfl rfl ?_
  refine o_iloadN (pc' := 14) X0 hx (hb hby d1_13) rfl rfl ?_
  refine o_icmpF (pc' := 17) X0 hx (hb hby d1_14) (XT.ii_ge_f (by decide)) rfl ?_
  refine o_aloadN (pc' := 18) X0 hx (hb hby d1_17) rfl rfl rfl ?_
  refine o_iload (pc' := 20) X0 hx (hb hby d1_18) rfl rfl ?_
  refine o_daload (pc' := 21) (v := (dy A0 0)) X0 hx hZ e0 KA (hb hby d1_20) (by decide) rfl rfl ?_
  refine o_aloadN (pc' := 22) X0 hx (hb hby d1_21) rfl rfl rfl ?_
  refine o_iload (pc' := 24) X0 hx (hb hby d1_22) rfl rfl ?_
  refine o_daload (pc' := 25) (v := (dy B0 0)) X0 hx hZ e0 PA (hb hby d1_24) (by decide) rfl rfl ?_
  refine o_dadd (pc' := 26) (v := (dy (2 ^ M0) 0)) X0 hx (hb hby d1_25) (by rw [dy_add (by omega) (by omega), s0]; exact dy_nn (by omega) (by decide)) (by rw [dy_add (by omega) (by omega), s0]) rfl ?_
  refine o_dstore (pc' := 28) (l' := #[.val (.ref ka), .val (.ref pa), .val (.ref wa), .val (.int (3 : Int32)), .val (.double (dy 1 0)), .second, .val (.int (0 : Int32)), .val (.double (dy (2 ^ M0) 0)), .second]) X0 hx (hb hby d1_26) rfl rfl ?_
  refine o_aloadN (pc' := 29) X0 hx (hb hby d1_28) rfl rfl rfl ?_
  refine o_iload (pc' := 31) X0 hx (hb hby d1_29) rfl rfl ?_
  refine o_dload (pc' := 33) X0 hx (hb hby d1_31) rfl rfl ?_
  refine o_aloadN (pc' := 34) X0 hx (hb hby d1_33) rfl rfl rfl ?_
  refine o_iload (pc' := 36) X0 hx (hb hby d1_34) rfl rfl ?_
  refine o_daload (pc' := 37) (v := (dy A0 0)) X0 hx hZ e0 KA (hb hby d1_36) (by decide) rfl rfl ?_
  refine o_dload (pc' := 39) X0 hx (hb hby d1_37) rfl rfl ?_
  refine o_ddiv (pc' := 40) (v := (dy A0 M0)) X0 hx (hb hby d1_39) (by rw [dy_div (by omega) (by omega)]; exact dy_nn (by omega) (by omega)) (dy_div (by omega) (by omega)) rfl ?_
  refine o_dmul (pc' := 41) (v := (dy (1 * A0) (0 + M0))) X0 hx (hb hby d1_40) (by rw [dy_mul (own_lim (own_l1) (by omega)) (by omega) (by omega) (by omega)]; exact dy_nn (own_lim (own_lm (own_l1) hA0) (by omega)) (by omega)) (dy_mul (own_lim (own_l1) (by omega)) (by omega) (by omega) (by omega)) rfl ?_
  obtain ⟨T1, h1_, X1, e1, W1, st1⟩ := o_dastore (x := (dy (1 * A0) (0 + M0))) (j := (0 : Int32)) (Ls := #[.val (.ref ka), .val (.ref pa), .val (.ref wa), .val (.int (3 : Int32)), .val (.double (dy 1 0)), .second, .val (.int (0 : Int32)), .val (.double (dy (2 ^ M0) 0)), .second]) (st := []) X0 hx hZ e0 WA (hb hby d1_41) (by decide) (show _ < 4 by decide) rfl
  refine oGo.step (f' := (mkF m 42 #[.val (.ref ka), .val (.ref pa), .val (.ref wa), .val (.int (3 : Int32)), .val (.double (dy 1 0)), .second, .val (.int (0 : Int32)), .val (.double (dy (2 ^ M0) 0)), .second] [])) st1 ?_
  have N1 := Fr.snoc X1 N0 ge_w
  have F2 := WA.set W1
  replace F2 : oDbls Z h1_ wa [(dy (1 * A0) (0 + M0)), w1, w2, w3] := F2
  have K3 := Keep.of_wr W1
  have F4 := KA.keep K3 (ninS ne_k nin0)
  have F5 := PA.keep K3 (ninS ne_p nin0)
  have Z6 := Nat.le_trans Z0 K3.1
  have K7 := K0.trans K3 (allS (Or.inl (List.mem_of_getElem? (i := 0) rfl)) all0)
  refine o_dload (pc' := 44) X1 hx (hb hby d1_42) rfl rfl ?_
  refine o_aloadN (pc' := 45) X1 hx (hb hby d1_44) rfl rfl rfl ?_
  refine o_iload (pc' := 47) X1 hx (hb hby d1_45) rfl rfl ?_
  refine o_daload (pc' := 48) (v := (dy B0 0)) X1 hx hZ e1 F5 (hb hby d1_47) (by decide) rfl rfl ?_
  refine o_dload (pc' := 50) X1 hx (hb hby d1_48) rfl rfl ?_
  refine o_ddiv (pc' := 51) (v := (dy B0 M0)) X1 hx (hb hby d1_50) (by rw [dy_div (by omega) (by omega)]; exact dy_nn (by omega) (by omega)) (dy_div (by omega) (by omega)) rfl ?_
  refine o_dmul (pc' := 52) (v := (dy (1 * B0) (0 + M0))) X1 hx (hb hby d1_51) (by rw [dy_mul (own_lim (own_l1) (by omega)) (by omega) (by omega) (by omega)]; exact dy_nn (own_lim (own_lm (own_l1) hB0) (by omega)) (by omega)) (dy_mul (own_lim (own_l1) (by omega)) (by omega) (by omega) (by omega)) rfl ?_
  refine o_dstore (pc' := 54) (l' := #[.val (.ref ka), .val (.ref pa), .val (.ref wa), .val (.int (3 : Int32)), .val (.double (dy (1 * B0) (0 + M0))), .second, .val (.int (0 : Int32)), .val (.double (dy (2 ^ M0) 0)), .second]) X1 hx (hb hby d1_52) rfl rfl ?_
  refine o_iinc (pc' := 57) (v := (1 : Int32)) (l' := #[.val (.ref ka), .val (.ref pa), .val (.ref wa), .val (.int (3 : Int32)), .val (.double (dy (1 * B0) (0 + M0))), .second, .val (.int (1 : Int32)), .val (.double (dy (2 ^ M0) 0)), .second]) X1 hx (hb hby d1_54) rfl rfl rfl rfl ?_
  refine o_goto (pc' := 11) X1 hx (hb hby d1_57) (by decide) (by decide) ?_
  refine o_iload (pc' := 13) X1 hx (hb hby d1_11) rfl rfl ?_
  refine o_iloadN (pc' := 14) X1 hx (hb hby d1_13) rfl rfl ?_
  refine o_icmpF (pc' := 17) X1 hx (hb hby d1_14) (XT.ii_ge_f (by decide)) rfl ?_
  refine o_aloadN (pc' := 18) X1 hx (hb hby d1_17) rfl rfl rfl ?_
  refine o_iload (pc' := 20) X1 hx (hb hby d1_18) rfl rfl ?_
  refine o_daload (pc' := 21) (v := (dy A1 0)) X1 hx hZ e1 F4 (hb hby d1_20) (by decide) rfl rfl ?_
  refine o_aloadN (pc' := 22) X1 hx (hb hby d1_21) rfl rfl rfl ?_
  refine o_iload (pc' := 24) X1 hx (hb hby d1_22) rfl rfl ?_
  refine o_daload (pc' := 25) (v := (dy B1 0)) X1 hx hZ e1 F5 (hb hby d1_24) (by decide) rfl rfl ?_
  refine o_dadd (pc' := 26) (v := (dy (2 ^ M1) 0)) X1 hx (hb hby d1_25) (by rw [dy_add (by omega) (by omega), s1]; exact dy_nn (by omega) (by decide)) (by rw [dy_add (by omega) (by omega), s1]) rfl ?_
  refine o_dstore (pc' := 28) (l' := #[.val (.ref ka), .val (.ref pa), .val (.ref wa), .val (.int (3 : Int32)), .val (.double (dy (1 * B0) (0 + M0))), .second, .val (.int (1 : Int32)), .val (.double (dy (2 ^ M1) 0)), .second]) X1 hx (hb hby d1_26) rfl rfl ?_
  refine o_aloadN (pc' := 29) X1 hx (hb hby d1_28) rfl rfl rfl ?_
  refine o_iload (pc' := 31) X1 hx (hb hby d1_29) rfl rfl ?_
  refine o_dload (pc' := 33) X1 hx (hb hby d1_31) rfl rfl ?_
  refine o_aloadN (pc' := 34) X1 hx (hb hby d1_33) rfl rfl rfl ?_
  refine o_iload (pc' := 36) X1 hx (hb hby d1_34) rfl rfl ?_
  refine o_daload (pc' := 37) (v := (dy A1 0)) X1 hx hZ e1 F4 (hb hby d1_36) (by decide) rfl rfl ?_
  refine o_dload (pc' := 39) X1 hx (hb hby d1_37) rfl rfl ?_
  refine o_ddiv (pc' := 40) (v := (dy A1 M1)) X1 hx (hb hby d1_39) (by rw [dy_div (by omega) (by omega)]; exact dy_nn (by omega) (by omega)) (dy_div (by omega) (by omega)) rfl ?_
  refine o_dmul (pc' := 41) (v := (dy ((1 * B0) * A1) ((0 + M0) + M1))) X1 hx (hb hby d1_40) (by rw [dy_mul (own_lim (own_lm (own_l1) hB0) (by omega)) (by omega) (by omega) (by omega)]; exact dy_nn (own_lim (own_lm (own_lm (own_l1) hB0) hA1) (by omega)) (by omega)) (dy_mul (own_lim (own_lm (own_l1) hB0) (by omega)) (by omega) (by omega) (by omega)) rfl ?_
  obtain ⟨T8, h8_, X8, e8, W8, st8⟩ := o_dastore (x := (dy ((1 * B0) * A1) ((0 + M0) + M1))) (j := (1 : Int32)) (Ls := #[.val (.ref ka), .val (.ref pa), .val (.ref wa), .val (.int (3 : Int32)), .val (.double (dy (1 * B0) (0 + M0))), .second, .val (.int (1 : Int32)), .val (.double (dy (2 ^ M1) 0)), .second]) (st := []) X1 hx hZ e1 F2 (hb hby d1_41) (by decide) (show _ < 4 by decide) rfl
  refine oGo.step (f' := (mkF m 42 #[.val (.ref ka), .val (.ref pa), .val (.ref wa), .val (.int (3 : Int32)), .val (.double (dy (1 * B0) (0 + M0))), .second, .val (.int (1 : Int32)), .val (.double (dy (2 ^ M1) 0)), .second] [])) st8 ?_
  have N8 := Fr.snoc X8 N1 ge_w
  have F9 := F2.set W8
  replace F9 : oDbls Z h8_ wa [(dy (1 * A0) (0 + M0)), (dy ((1 * B0) * A1) ((0 + M0) + M1)), w2, w3] := F9
  have K10 := Keep.of_wr W8
  have F11 := F4.keep K10 (ninS ne_k nin0)
  have F12 := F5.keep K10 (ninS ne_p nin0)
  have Z13 := Nat.le_trans Z6 K10.1
  have K14 := K7.trans K10 (allS (Or.inl (List.mem_of_getElem? (i := 0) rfl)) all0)
  refine o_dload (pc' := 44) X8 hx (hb hby d1_42) rfl rfl ?_
  refine o_aloadN (pc' := 45) X8 hx (hb hby d1_44) rfl rfl rfl ?_
  refine o_iload (pc' := 47) X8 hx (hb hby d1_45) rfl rfl ?_
  refine o_daload (pc' := 48) (v := (dy B1 0)) X8 hx hZ e8 F12 (hb hby d1_47) (by decide) rfl rfl ?_
  refine o_dload (pc' := 50) X8 hx (hb hby d1_48) rfl rfl ?_
  refine o_ddiv (pc' := 51) (v := (dy B1 M1)) X8 hx (hb hby d1_50) (by rw [dy_div (by omega) (by omega)]; exact dy_nn (by omega) (by omega)) (dy_div (by omega) (by omega)) rfl ?_
  refine o_dmul (pc' := 52) (v := (dy ((1 * B0) * B1) ((0 + M0) + M1))) X8 hx (hb hby d1_51) (by rw [dy_mul (own_lim (own_lm (own_l1) hB0) (by omega)) (by omega) (by omega) (by omega)]; exact dy_nn (own_lim (own_lm (own_lm (own_l1) hB0) hB1) (by omega)) (by omega)) (dy_mul (own_lim (own_lm (own_l1) hB0) (by omega)) (by omega) (by omega) (by omega)) rfl ?_
  refine o_dstore (pc' := 54) (l' := #[.val (.ref ka), .val (.ref pa), .val (.ref wa), .val (.int (3 : Int32)), .val (.double (dy ((1 * B0) * B1) ((0 + M0) + M1))), .second, .val (.int (1 : Int32)), .val (.double (dy (2 ^ M1) 0)), .second]) X8 hx (hb hby d1_52) rfl rfl ?_
  refine o_iinc (pc' := 57) (v := (1 : Int32)) (l' := #[.val (.ref ka), .val (.ref pa), .val (.ref wa), .val (.int (3 : Int32)), .val (.double (dy ((1 * B0) * B1) ((0 + M0) + M1))), .second, .val (.int (2 : Int32)), .val (.double (dy (2 ^ M1) 0)), .second]) X8 hx (hb hby d1_54) rfl rfl rfl rfl ?_
  refine o_goto (pc' := 11) X8 hx (hb hby d1_57) (by decide) (by decide) ?_
  refine o_iload (pc' := 13) X8 hx (hb hby d1_11) rfl rfl ?_
  refine o_iloadN (pc' := 14) X8 hx (hb hby d1_13) rfl rfl ?_
  refine o_icmpF (pc' := 17) X8 hx (hb hby d1_14) (XT.ii_ge_f (by decide)) rfl ?_
  refine o_aloadN (pc' := 18) X8 hx (hb hby d1_17) rfl rfl rfl ?_
  refine o_iload (pc' := 20) X8 hx (hb hby d1_18) rfl rfl ?_
  refine o_daload (pc' := 21) (v := (dy A2 0)) X8 hx hZ e8 F11 (hb hby d1_20) (by decide) rfl rfl ?_
  refine o_aloadN (pc' := 22) X8 hx (hb hby d1_21) rfl rfl rfl ?_
  refine o_iload (pc' := 24) X8 hx (hb hby d1_22) rfl rfl ?_
  refine o_daload (pc' := 25) (v := (dy B2 0)) X8 hx hZ e8 F12 (hb hby d1_24) (by decide) rfl rfl ?_
  refine o_dadd (pc' := 26) (v := (dy (2 ^ M2) 0)) X8 hx (hb hby d1_25) (by rw [dy_add (by omega) (by omega), s2]; exact dy_nn (by omega) (by decide)) (by rw [dy_add (by omega) (by omega), s2]) rfl ?_
  refine o_dstore (pc' := 28) (l' := #[.val (.ref ka), .val (.ref pa), .val (.ref wa), .val (.int (3 : Int32)), .val (.double (dy ((1 * B0) * B1) ((0 + M0) + M1))), .second, .val (.int (2 : Int32)), .val (.double (dy (2 ^ M2) 0)), .second]) X8 hx (hb hby d1_26) rfl rfl ?_
  refine o_aloadN (pc' := 29) X8 hx (hb hby d1_28) rfl rfl rfl ?_
  refine o_iload (pc' := 31) X8 hx (hb hby d1_29) rfl rfl ?_
  refine o_dload (pc' := 33) X8 hx (hb hby d1_31) rfl rfl ?_
  refine o_aloadN (pc' := 34) X8 hx (hb hby d1_33) rfl rfl rfl ?_
  refine o_iload (pc' := 36) X8 hx (hb hby d1_34) rfl rfl ?_
  refine o_daload (pc' := 37) (v := (dy A2 0)) X8 hx hZ e8 F11 (hb hby d1_36) (by decide) rfl rfl ?_
  refine o_dload (pc' := 39) X8 hx (hb hby d1_37) rfl rfl ?_
  refine o_ddiv (pc' := 40) (v := (dy A2 M2)) X8 hx (hb hby d1_39) (by rw [dy_div (by omega) (by omega)]; exact dy_nn (by omega) (by omega)) (dy_div (by omega) (by omega)) rfl ?_
  refine o_dmul (pc' := 41) (v := (dy (((1 * B0) * B1) * A2) (((0 + M0) + M1) + M2))) X8 hx (hb hby d1_40) (by rw [dy_mul (own_lim (own_lm (own_lm (own_l1) hB0) hB1) (by omega)) (by omega) (by omega) (by omega)]; exact dy_nn (own_lim (own_lm (own_lm (own_lm (own_l1) hB0) hB1) hA2) (by omega)) (by omega)) (dy_mul (own_lim (own_lm (own_lm (own_l1) hB0) hB1) (by omega)) (by omega) (by omega) (by omega)) rfl ?_
  obtain ⟨T15, h15_, X15, e15, W15, st15⟩ := o_dastore (x := (dy (((1 * B0) * B1) * A2) (((0 + M0) + M1) + M2))) (j := (2 : Int32)) (Ls := #[.val (.ref ka), .val (.ref pa), .val (.ref wa), .val (.int (3 : Int32)), .val (.double (dy ((1 * B0) * B1) ((0 + M0) + M1))), .second, .val (.int (2 : Int32)), .val (.double (dy (2 ^ M2) 0)), .second]) (st := []) X8 hx hZ e8 F9 (hb hby d1_41) (by decide) (show _ < 4 by decide) rfl
  refine oGo.step (f' := (mkF m 42 #[.val (.ref ka), .val (.ref pa), .val (.ref wa), .val (.int (3 : Int32)), .val (.double (dy ((1 * B0) * B1) ((0 + M0) + M1))), .second, .val (.int (2 : Int32)), .val (.double (dy (2 ^ M2) 0)), .second] [])) st15 ?_
  have N15 := Fr.snoc X15 N8 ge_w
  have F16 := F9.set W15
  replace F16 : oDbls Z h15_ wa [(dy (1 * A0) (0 + M0)), (dy ((1 * B0) * A1) ((0 + M0) + M1)), (dy (((1 * B0) * B1) * A2) (((0 + M0) + M1) + M2)), w3] := F16
  have K17 := Keep.of_wr W15
  have F18 := F11.keep K17 (ninS ne_k nin0)
  have F19 := F12.keep K17 (ninS ne_p nin0)
  have Z20 := Nat.le_trans Z13 K17.1
  have K21 := K14.trans K17 (allS (Or.inl (List.mem_of_getElem? (i := 0) rfl)) all0)
  refine o_dload (pc' := 44) X15 hx (hb hby d1_42) rfl rfl ?_
  refine o_aloadN (pc' := 45) X15 hx (hb hby d1_44) rfl rfl rfl ?_
  refine o_iload (pc' := 47) X15 hx (hb hby d1_45) rfl rfl ?_
  refine o_daload (pc' := 48) (v := (dy B2 0)) X15 hx hZ e15 F19 (hb hby d1_47) (by decide) rfl rfl ?_
  refine o_dload (pc' := 50) X15 hx (hb hby d1_48) rfl rfl ?_
  refine o_ddiv (pc' := 51) (v := (dy B2 M2)) X15 hx (hb hby d1_50) (by rw [dy_div (by omega) (by omega)]; exact dy_nn (by omega) (by omega)) (dy_div (by omega) (by omega)) rfl ?_
  refine o_dmul (pc' := 52) (v := (dy (((1 * B0) * B1) * B2) (((0 + M0) + M1) + M2))) X15 hx (hb hby d1_51) (by rw [dy_mul (own_lim (own_lm (own_lm (own_l1) hB0) hB1) (by omega)) (by omega) (by omega) (by omega)]; exact dy_nn (own_lim (own_lm (own_lm (own_lm (own_l1) hB0) hB1) hB2) (by omega)) (by omega)) (dy_mul (own_lim (own_lm (own_lm (own_l1) hB0) hB1) (by omega)) (by omega) (by omega) (by omega)) rfl ?_
  refine o_dstore (pc' := 54) (l' := #[.val (.ref ka), .val (.ref pa), .val (.ref wa), .val (.int (3 : Int32)), .val (.double (dy (((1 * B0) * B1) * B2) (((0 + M0) + M1) + M2))), .second, .val (.int (2 : Int32)), .val (.double (dy (2 ^ M2) 0)), .second]) X15 hx (hb hby d1_52) rfl rfl ?_
  refine o_iinc (pc' := 57) (v := (1 : Int32)) (l' := #[.val (.ref ka), .val (.ref pa), .val (.ref wa), .val (.int (3 : Int32)), .val (.double (dy (((1 * B0) * B1) * B2) (((0 + M0) + M1) + M2))), .second, .val (.int (3 : Int32)), .val (.double (dy (2 ^ M2) 0)), .second]) X15 hx (hb hby d1_54) rfl rfl rfl rfl ?_
  refine o_goto (pc' := 11) X15 hx (hb hby d1_57) (by decide) (by decide) ?_
  refine o_iload (pc' := 13) X15 hx (hb hby d1_11) rfl rfl ?_
  refine o_iloadN (pc' := 14) X15 hx (hb hby d1_13) rfl rfl ?_
  refine o_icmpT (pc' := 60) X15 hx (hb hby d1_14) (XT.ii_ge_t (by decide)) (by decide) (by decide) ?_
  refine o_aloadN (pc' := 61) X15 hx (hb hby d1_60) rfl rfl rfl ?_
  refine o_iloadN (pc' := 62) X15 hx (hb hby d1_61) rfl rfl ?_
  refine o_dload (pc' := 64) X15 hx (hb hby d1_62) rfl rfl ?_
  obtain ⟨T22, h22_, X22, e22, W22, st22⟩ := o_dastore (x := (dy (((1 * B0) * B1) * B2) (((0 + M0) + M1) + M2))) (j := (3 : Int32)) (Ls := #[.val (.ref ka), .val (.ref pa), .val (.ref wa), .val (.int (3 : Int32)), .val (.double (dy (((1 * B0) * B1) * B2) (((0 + M0) + M1) + M2))), .second, .val (.int (3 : Int32)), .val (.double (dy (2 ^ M2) 0)), .second]) (st := []) X15 hx hZ e15 F16 (hb hby d1_64) (by decide) (show _ < 4 by decide) rfl
  refine oGo.step (f' := (mkF m 65 #[.val (.ref ka), .val (.ref pa), .val (.ref wa), .val (.int (3 : Int32)), .val (.double (dy (((1 * B0) * B1) * B2) (((0 + M0) + M1) + M2))), .second, .val (.int (3 : Int32)), .val (.double (dy (2 ^ M2) 0)), .second] [])) st22 ?_
  have N22 := Fr.snoc X22 N15 ge_w
  have F23 := F16.set W22
  replace F23 : oDbls Z h22_ wa [(dy (1 * A0) (0 + M0)), (dy ((1 * B0) * A1) ((0 + M0) + M1)), (dy (((1 * B0) * B1) * A2) (((0 + M0) + M1) + M2)), (dy (((1 * B0) * B1) * B2) (((0 + M0) + M1) + M2))] := F23
  have K24 := Keep.of_wr W22
  have F25 := F18.keep K24 (ninS ne_k nin0)
  have F26 := F19.keep K24 (ninS ne_p nin0)
  have Z27 := Nat.le_trans Z20 K24.1
  have K28 := K21.trans K24 (allS (Or.inl (List.mem_of_getElem? (i := 0) rfl)) all0)
  refine o_retV X22 hx hret hlk (hb hby d1_65) (by decide) (by decide) ?_
  rw [e22]
  exact ⟨rfl, N22, K28, F23⟩
theorem d2_0 : decode method_3_code 0 = .ok (.dload_n 0, 1) := by decide +kernel
theorem d2_1 : decode method_3_code 1 = .ok (.dload_n 2, 1) := by decide +kernel
theorem d2_2 : decode method_3_code 2 = .ok (.dmul, 1) := by decide +kernel
theorem d2_3 : decode method_3_code 3 = .ok (.lload 4, 2) := by decide +kernel
theorem d2_5 : decode method_3_code 5 = .ok (.l2d, 1) := by decide +kernel
theorem d2_6 : decode method_3_code 6 = .ok (.dcmp .l, 1) := by decide +kernel
theorem d2_7 : decode method_3_code 7 = .ok (.ifCond .ne 7, 3) := by decide +kernel
theorem d2_10 : decode method_3_code 10 = .ok (.iconst 1, 1) := by decide +kernel
theorem d2_11 : decode method_3_code 11 = .ok (.goto 4, 3) := by decide +kernel
theorem d2_14 : decode method_3_code 14 = .ok (.iconst 0, 1) := by decide +kernel
theorem d2_15 : decode method_3_code 15 = .ok (.ireturn, 1) := by decide +kernel
theorem pn_2 : plainName "com/example/stickbreak/stickbreak/HdpSamplerBreakSticksPinLaw" = true := by first | (simp [plainName, overriddenIn]; done) | decide +kernel
theorem ef_2 (m : MethodId) (NN E S : Nat) (x2 : Int64) : entryFrame m #[(.double (dy NN E)), (.double (dy S 0)), (.long x2)] 6 = mkF m 0 #[.val (.double (dy NN E)), .second, .val (.double (dy S 0)), .second, .val (.long x2), .second] [] := by first | (simp [entryFrame, mkF, argsToLocals, Value.category]; done) | rfl
def room2 : Room := { frames := 0, cells := 0, slots := 0, locals := 0 }
set_option maxRecDepth 65536 in
set_option maxHeartbeats 40000000 in
theorem rm2 (l : Launch) (Z : State) (a0 : Array Value) (hw : ∀ d ∈ tables_1, d.before a0 Z = true) (NN E S X : Nat) (x2 : Int64) (h0 : Heap) (n0 : Nat) (Z0 : n0 ≤ h0.size) (hN : NN < 2 ^ 53) (hS : S < 2 ^ 53) (hE : E ≤ 1000) (hXs : X < 2 ^ 53) (hX : NN * S = X * 2 ^ E) (hx2 : x2.toInt = X) :
    oCon l Z (⟨"com/example/stickbreak/stickbreak/HdpSamplerBreakSticksPinLaw", "same", "(DDJ)Z"⟩ : MethodName) method_3_code 6 (some .boolean) room2 #[(.double (dy NN E)), (.double (dy S 0)), (.long x2)] h0 (fun v h L => v = some (.int 1) ∧ L = [] ∧ h = h0) := by
  refine oCon.of (plainFor_of_name pn_2) ?_
  intro p e s m below meth c s₁ hx hby hml hown hnm hret hlk hZ X0 e0
  rw [ef_2 m NN E S x2]
  have N0 := Fr.nil n0
  refine o_dloadN (pc' := 1) X0 hx (hb hby d2_0) rfl rfl ?_
  refine o_dloadN (pc' := 2) X0 hx (hb hby d2_1) rfl rfl ?_
  refine o_dmul (pc' := 3) (v := (dy X 0)) X0 hx (hb hby d2_2) (by rw [dy_mul hN hS hE (by decide), Nat.add_zero, hX, dy_one]; exact dy_nn hXs (by decide)) (by rw [dy_mul hN hS hE (by decide), Nat.add_zero, hX, dy_one]) rfl ?_
  refine o_lload (pc' := 5) X0 hx (hb hby d2_3) rfl rfl ?_
  refine o_l2d (pc' := 6) (v := (dy X 0)) X0 hx (hb hby d2_5) (dy_l2d hx2) rfl ?_
  refine o_dcmp (pc' := 7) X0 hx (hb hby d2_6) rfl ?_
  refine o_ifF (pc' := 10) X0 hx (hb hby d2_7) (XT.i0_ne_f (dcmpV_self (dy_nn hXs (by decide)) _)) rfl ?_
  refine o_iconst (pc' := 11) (v := (1 : Int32)) X0 hx (hb hby d2_10) rfl rfl ?_
  refine o_goto (pc' := 15) X0 hx (hb hby d2_11) (by decide) (by decide) ?_
  refine o_retZ X0 hx hret hlk (hb hby d2_15) (by decide) (by decide) (by decide) ?_
  exact ⟨rfl, rfl, e0⟩
theorem ef_0 (m : MethodId) (x0 : Int32) (x1 : Int64) (x2 : Int32) (x3 : Int32) (x4 : Int32) : entryFrame m #[(.int x0), (.long x1), (.int x2), (.int x3), (.int x4)] maxLocals = mkF m 0 #[.val (.int x0), .val (.long x1), .second, .val (.int x2), .val (.int x3), .val (.int x4), .unset, .unset, .unset, .unset, .unset, .unset, .unset, .unset, .unset, .unset, .unset, .unset, .unset, .unset, .unset, .unset, .unset, .unset, .unset, .unset, .unset, .unset, .unset, .unset, .unset, .unset, .unset, .unset, .unset, .unset] [] := by first | (simp [entryFrame, mkF, argsToLocals, Value.category, maxLocals]; done) | rfl
theorem pd0 : parseMethodDescriptor "([D[D[D)V" = some ⟨[(.array .double), (.array .double), (.array .double)], none⟩ := by decide +kernel
theorem pd1 : parseMethodDescriptor "(DDJ)Z" = some ⟨[.double, .double, .long], (some .boolean)⟩ := by decide +kernel
theorem own_s (x : Int32) : ((1 : Int32) + ((x &&& (2147483647 : Int32)) % (3 : Int32))) = 1 ∨ ((1 : Int32) + ((x &&& (2147483647 : Int32)) % (3 : Int32))) = 2 ∨ ((1 : Int32) + ((x &&& (2147483647 : Int32)) % (3 : Int32))) = 3 := by
  have h1 := c_mask x 2147483647 31 (by decide) (by decide)
  have h2 := (c_irem (x &&& (2147483647 : Int32)) 3 3 rfl).1 (by omega)
  generalize ((x &&& (2147483647 : Int32)) % (3 : Int32)) = r at *
  have h3 : r = 0 ∨ r = 1 ∨ r = 2 := by
    have o0 : (0 : Int32).toInt = 0 := rfl
    have o1 : (1 : Int32).toInt = 1 := rfl
    have o2 : (2 : Int32).toInt = 2 := rfl
    simp only [← Int32.toInt_inj, o0, o1, o2]; omega
  rcases h3 with rfl | rfl | rfl <;> decide
theorem own_tabS : ∀ k : Nat, k < 16 → ((1 : Int64) <<< (((Int64.ofNat k).toInt32).toInt64 &&& 63)).toInt = ((2 ^ k : Nat) : Int) := by decide +kernel
theorem own_shl {m : Int64} (h0 : 0 ≤ m.toInt) (h1 : m.toInt < 16) : ∃ M : Nat, M ≤ 15 ∧ ((1 : Int64) <<< ((m.toInt32).toInt64 &&& 63)).toInt = ((2 ^ M : Nat) : Int) := by
  refine ⟨m.toInt.toNat, by omega, ?_⟩
  have := own_tabS m.toInt.toNat (by omega)
  have e : Int64.ofNat m.toInt.toNat = m := by
    rw [← Int64.toInt_inj, Int64.toInt_ofNat_of_lt (by omega)]; omega
  rw [e] at this; exact this
theorem own_shm (x : Int64) : ∃ M : Nat, M ≤ 15 ∧ ((1 : Int64) <<< (((x &&& (15 : Int64)).toInt32).toInt64 &&& 63)).toInt = ((2 ^ M : Nat) : Int) := by
  have h := c_maskL x 15 4 (by decide) (by decide)
  exact own_shl (by omega) (by omega)
theorem own_sh0 : ∃ M : Nat, M ≤ 15 ∧ ((1 : Int64) <<< (((0 : Int32)).toInt64 &&& 63)).toInt = ((2 ^ M : Nat) : Int) := ⟨0, by decide, by decide⟩
theorem own_nz {d : Int64} {M : Nat} (hM : M ≤ 15) (hd : d.toInt = ((2 ^ M : Nat) : Int)) : d + (1 : Int64) ≠ 0 := by
  intro q
  have p := pw M hM
  have h := c_ladd d 1
  have o1 : (1 : Int64).toInt = 1 := rfl
  have o0 : (0 : Int64).toInt = 0 := rfl
  rw [q, o1, o0, hd] at h
  generalize (2 ^ M : Nat) = R at *
  omega
theorem own_am {d : Int64} {M : Nat} (x : Int32) (hM : M ≤ 15) (hd : d.toInt = ((2 ^ M : Nat) : Int)) : ∃ A B : Nat, A + B = 2 ^ M ∧ A ≤ 32768 ∧ B ≤ 32768 ∧ (((x &&& (2147483647 : Int32)).toInt64) % (d + (1 : Int64))).toInt = (A : Int) ∧ (d - (((x &&& (2147483647 : Int32)).toInt64) % (d + (1 : Int64)))).toInt = (B : Int) := by
  have p := pw M hM
  have p0 : 0 < 2 ^ M := Nat.two_pow_pos M
  have h := c_ladd d 1
  have o1 : (1 : Int64).toInt = 1 := rfl
  rw [o1, hd] at h
  have hr := rng64 (d + 1)
  have h1 := c_mask x 2147483647 31 (by decide) (by decide)
  have e : (d + (1 : Int64)).toInt = ((2 ^ M : Nat) : Int) + 1 := by omega
  have i1 := c_i2l (x &&& (2147483647 : Int32))
  generalize (x &&& (2147483647 : Int32)).toInt64 = u at *
  have k : (u % (d + 1)).toInt = Int.tmod u.toInt (d + 1).toInt := Int64.toInt_mod ..
  rw [e, Int.tmod_eq_emod_of_nonneg (by omega)] at k
  have k0 := Int.emod_nonneg u.toInt (show ((2 ^ M : Nat) : Int) + 1 ≠ 0 by omega)
  have k1 := Int.emod_lt_of_pos u.toInt (show (0 : Int) < ((2 ^ M : Nat) : Int) + 1 by omega)
  rw [← k] at k0 k1
  have s := c_lsub d (u % (d + 1))
  have sr := rng64 (d - u % (d + 1))
  rw [hd] at s
  refine ⟨(u % (d + 1)).toInt.toNat, 2 ^ M - (u % (d + 1)).toInt.toNat, by omega, by omega, by omega, by omega, by omega⟩
theorem own_a0 {d : Int64} {M : Nat} (hM : M ≤ 15) (hd : d.toInt = ((2 ^ M : Nat) : Int)) : ∃ A B : Nat, A + B = 2 ^ M ∧ A ≤ 32768 ∧ B ≤ 32768 ∧ (0 : Int64).toInt = (A : Int) ∧ (d - (0 : Int64)).toInt = (B : Int) ∧ B = 2 ^ M := by
  refine ⟨0, 2 ^ M, by omega, by omega, pw M hM, rfl, ?_, rfl⟩
  rw [Int64.sub_zero]; exact hd
theorem own_p3 {x y z : Nat} (hx : x ≤ 32768) (hy : y ≤ 32768) (hz : z ≤ 32768) : x * y * z < 2 ^ 53 := by
  have h1 := Nat.mul_le_mul (Nat.mul_le_mul hx hy) hz
  have e : 32768 * 32768 * 32768 < 2 ^ 53 := by decide
  omega
theorem own_m3 {x y z : Int64} {X Y W : Nat} (hx : x.toInt = (X : Int)) (bx : X ≤ 32768) (hy : y.toInt = (Y : Int)) (bY : Y ≤ 32768) (hz : z.toInt = (W : Int)) (bz : W ≤ 32768) : ((x * y) * z).toInt = ((X * Y * W : Nat) : Int) := by
  have h1 := Nat.mul_le_mul bx bY
  have h2 := Nat.mul_le_mul h1 bz
  have a := c_lmul x y
  have ar := rng64 (x * y)
  rw [hx, hy, ← Int.natCast_mul] at a
  have e : (x * y).toInt = ((X * Y : Nat) : Int) := by generalize X * Y = R at *; omega
  have b := c_lmul (x * y) z
  have br := rng64 (x * y * z)
  rw [e, hz, ← Int.natCast_mul] at b
  generalize X * Y * W = R at *
  omega
set_option maxRecDepth 65536 in
set_option maxHeartbeats 40000000 in
theorem rm0 (l : Launch) (Z : State) (a0 : Array Value) (hw : ∀ d ∈ tables_1, d.before a0 Z = true) (x0 : Int32) (x1 : Int64) (x2 : Int32) (x3 : Int32) (x4 : Int32) (h0 : Heap) (n0 : Nat) (Z0 : n0 ≤ h0.size)  :
    oCon l Z x code maxLocals ret room_1 #[(.int x0), (.long x1), (.int x2), (.int x3), (.int x4)] h0 (fun v h L => v = some (.int 1) ∧ Fr n0 L) := by
  refine oCon.of (plainFor_of_name pn_2) ?_
  intro p e s m below meth c s₁ hx hby hml hown hnm hret hlk hZ X0 e0
  replace hml : c.maxLocals = 36 := hml
  rw [ef_0 m x0 x1 x2 x3 x4]
  have N0 := Fr.nil n0
  refine o_iconst (pc' := 1) (v := (1 : Int32)) X0 hx (hb hby at_0) rfl rfl ?_
  refine o_iloadN (pc' := 2) X0 hx (hb hby at_1) rfl rfl ?_
  refine o_ldc (pc' := 4) (v := (2147483647 : Int32)) X0 hx hZ hown (hw _ (List.mem_of_getElem? (i := 0) rfl)) (hb hby at_2) rfl ?_
  refine o_iand (pc' := 5) X0 hx (hb hby at_4)  rfl ?_
  refine o_iconst (pc' := 6) (v := (3 : Int32)) X0 hx (hb hby at_5) rfl rfl ?_
  refine o_irem (pc' := 7) X0 hx (hb hby at_6) (by decide) rfl ?_
  refine o_iadd (pc' := 8) X0 hx (hb hby at_7)  rfl ?_
  refine o_istore (pc' := 10) (l' := #[.val (.int x0), .val (.long x1), .second, .val (.int x2), .val (.int x3), .val (.int x4), .val (.int ((1 : Int32) + ((x0 &&& (2147483647 : Int32)) % (3 : Int32)))), .unset, .unset, .unset, .unset, .unset, .unset, .unset, .unset, .unset, .unset, .unset, .unset, .unset, .unset, .unset, .unset, .unset, .unset, .unset, .unset, .unset, .unset, .unset, .unset, .unset, .unset, .unset, .unset, .unset]) X0 hx (hb hby at_8) rfl rfl ?_
  rcases own_s x0 with hs | hs | hs
  · rw [hs]
    refine o_lloadN (pc' := 11) X0 hx (hb hby at_10) rfl rfl ?_
    refine o_ldc2 (pc' := 14) (v := (15 : Int64)) X0 hx hZ hown (hw _ (List.mem_of_getElem? (i := 1) rfl)) (hb hby at_11) rfl ?_
    refine o_land (pc' := 15) X0 hx (hb hby at_14)  rfl ?_
    refine o_l2i (pc' := 16) X0 hx (hb hby at_15)  rfl ?_
    refine o_istore (pc' := 18) (l' := #[.val (.int x0), .val (.long x1), .second, .val (.int x2), .val (.int x3), .val (.int x4), .val (.int (1 : Int32)), .val (.int (((x1 &&& (15 : Int64))).toInt32)), .unset, .unset, .unset, .unset, .unset, .unset, .unset, .unset, .unset, .unset, .unset, .unset, .unset, .unset, .unset, .unset, .unset, .unset, .unset, .unset, .unset, .unset, .unset, .unset, .unset, .unset, .unset, .unset]) X0 hx (hb hby at_16) rfl rfl ?_
    refine o_iload (pc' := 20) X0 hx (hb hby at_18) rfl rfl ?_
    refine o_iconst (pc' := 21) (v := (1 : Int32)) X0 hx (hb hby at_20) rfl rfl ?_
    refine o_icmpT (pc' := 35) X0 hx (hb hby at_21) (XT.ii_le_t (by decide)) (by decide) (by decide) ?_
    refine o_iconst (pc' := 36) (v := (0 : Int32)) X0 hx (hb hby at_35) rfl rfl ?_
    refine o_istore (pc' := 38) (l' := #[.val (.int x0), .val (.long x1), .second, .val (.int x2), .val (.int x3), .val (.int x4), .val (.int (1 : Int32)), .val (.int (((x1 &&& (15 : Int64))).toInt32)), .val (.int (0 : Int32)), .unset, .unset, .unset, .unset, .unset, .unset, .unset, .unset, .unset, .unset, .unset, .unset, .unset, .unset, .unset, .unset, .unset, .unset, .unset, .unset, .unset, .unset, .unset, .unset, .unset, .unset, .unset]) X0 hx (hb hby at_36) rfl rfl ?_
    refine o_iload (pc' := 40) X0 hx (hb hby at_38) rfl rfl ?_
    refine o_iconst (pc' := 41) (v := (2 : Int32)) X0 hx (hb hby at_40) rfl rfl ?_
    refine o_icmpT (pc' := 56) X0 hx (hb hby at_41) (XT.ii_le_t (by decide)) (by decide) (by decide) ?_
    refine o_iconst (pc' := 57) (v := (0 : Int32)) X0 hx (hb hby at_56) rfl rfl ?_
    refine o_istore (pc' := 59) (l' := #[.val (.int x0), .val (.long x1), .second, .val (.int x2), .val (.int x3), .val (.int x4), .val (.int (1 : Int32)), .val (.int (((x1 &&& (15 : Int64))).toInt32)), .val (.int (0 : Int32)), .val (.int (0 : Int32)), .unset, .unset, .unset, .unset, .unset, .unset, .unset, .unset, .unset, .unset, .unset, .unset, .unset, .unset, .unset, .unset, .unset, .unset, .unset, .unset, .unset, .unset, .unset, .unset, .unset, .unset]) X0 hx (hb hby at_57) rfl rfl ?_
    refine o_lconst (pc' := 60) (v := (1 : Int64)) X0 hx (hb hby at_59) rfl rfl ?_
    refine o_iload (pc' := 62) X0 hx (hb hby at_60) rfl rfl ?_
    refine o_lshl (pc' := 63) X0 hx (hb hby at_62)  rfl ?_
    refine o_lstore (pc' := 65) (l' := #[.val (.int x0), .val (.long x1), .second, .val (.int x2), .val (.int x3), .val (.int x4), .val (.int (1 : Int32)), .val (.int (((x1 &&& (15 : Int64))).toInt32)), .val (.int (0 : Int32)), .val (.int (0 : Int32)), .val (.long ((1 : Int64) <<< (((((x1 &&& (15 : Int64))).toInt32)).toInt64 &&& 63))), .second, .unset, .unset, .unset, .unset, .unset, .unset, .unset, .unset, .unset, .unset, .unset, .unset, .unset, .unset, .unset, .unset, .unset, .unset, .unset, .unset, .unset, .unset, .unset, .unset]) X0 hx (hb hby at_63) rfl rfl ?_
    obtain ⟨M0, hM0, hd0⟩ := own_shm x1
    generalize hgd0 : ((1 : Int64) <<< (((((x1 &&& (15 : Int64))).toInt32)).toInt64 &&& 63)) = d0 at hd0 ⊢
    refine o_lconst (pc' := 66) (v := (1 : Int64)) X0 hx (hb hby at_65) rfl rfl ?_
    refine o_iload (pc' := 68) X0 hx (hb hby at_66) rfl rfl ?_
    refine o_lshl (pc' := 69) X0 hx (hb hby at_68)  rfl ?_
    refine o_lstore (pc' := 71) (l' := #[.val (.int x0), .val (.long x1), .second, .val (.int x2), .val (.int x3), .val (.int x4), .val (.int (1 : Int32)), .val (.int (((x1 &&& (15 : Int64))).toInt32)), .val (.int (0 : Int32)), .val (.int (0 : Int32)), .val (.long d0), .second, .val (.long ((1 : Int64) <<< (((0 : Int32)).toInt64 &&& 63))), .second, .unset, .unset, .unset, .unset, .unset, .unset, .unset, .unset, .unset, .unset, .unset, .unset, .unset, .unset, .unset, .unset, .unset, .unset, .unset, .unset, .unset, .unset]) X0 hx (hb hby at_69) rfl rfl ?_
    obtain ⟨M1, hM1, hd1⟩ := own_sh0
    generalize hgd1 : ((1 : Int64) <<< (((0 : Int32)).toInt64 &&& 63)) = d1 at hd1 ⊢
    refine o_lconst (pc' := 72) (v := (1 : Int64)) X0 hx (hb hby at_71) rfl rfl ?_
    refine o_iload (pc' := 74) X0 hx (hb hby at_72) rfl rfl ?_
    refine o_lshl (pc' := 75) X0 hx (hb hby at_74)  rfl ?_
    refine o_lstore (pc' := 77) (l' := #[.val (.int x0), .val (.long x1), .second, .val (.int x2), .val (.int x3), .val (.int x4), .val (.int (1 : Int32)), .val (.int (((x1 &&& (15 : Int64))).toInt32)), .val (.int (0 : Int32)), .val (.int (0 : Int32)), .val (.long d0), .second, .val (.long d1), .second, .val (.long ((1 : Int64) <<< (((0 : Int32)).toInt64 &&& 63))), .second, .unset, .unset, .unset, .unset, .unset, .unset, .unset, .unset, .unset, .unset, .unset, .unset, .unset, .unset, .unset, .unset, .unset, .unset, .unset, .unset]) X0 hx (hb hby at_75) rfl rfl ?_
    obtain ⟨M2, hM2, hd2⟩ := own_sh0
    generalize hgd2 : ((1 : Int64) <<< (((0 : Int32)).toInt64 &&& 63)) = d2 at hd2 ⊢
    refine o_iloadN (pc' := 78) X0 hx (hb hby at_77) rfl rfl ?_
    refine o_ldc (pc' := 80) (v := (2147483647 : Int32)) X0 hx hZ hown (hw _ (List.mem_of_getElem? (i := 0) rfl)) (hb hby at_78) rfl ?_
    refine o_iand (pc' := 81) X0 hx (hb hby at_80)  rfl ?_
    refine o_i2l (pc' := 82) X0 hx (hb hby at_81)  rfl ?_
    refine o_lload (pc' := 84) X0 hx (hb hby at_82) rfl rfl ?_
    refine o_lconst (pc' := 85) (v := (1 : Int64)) X0 hx (hb hby at_84) rfl rfl ?_
    refine o_ladd (pc' := 86) X0 hx (hb hby at_85)  rfl ?_
    refine o_lrem (pc' := 87) X0 hx (hb hby at_86) (own_nz hM0 hd0) rfl ?_
    refine o_lstore (pc' := 89) (l' := #[.val (.int x0), .val (.long x1), .second, .val (.int x2), .val (.int x3), .val (.int x4), .val (.int (1 : Int32)), .val (.int (((x1 &&& (15 : Int64))).toInt32)), .val (.int (0 : Int32)), .val (.int (0 : Int32)), .val (.long d0), .second, .val (.long d1), .second, .val (.long d2), .second, .val (.long ((((x2 &&& (2147483647 : Int32))).toInt64) % (d0 + (1 : Int64)))), .second, .unset, .unset, .unset, .unset, .unset, .unset, .unset, .unset, .unset, .unset, .unset, .unset, .unset, .unset, .unset, .unset, .unset, .unset]) X0 hx (hb hby at_87) rfl rfl ?_
    obtain ⟨A0, B0, s0, hA0, hB0, hq0, hb0⟩ := own_am x2 hM0 hd0
    generalize hgq0 : ((((x2 &&& (2147483647 : Int32))).toInt64) % (d0 + (1 : Int64))) = q0 at hq0 hb0 ⊢
    refine o_iload (pc' := 91) X0 hx (hb hby at_89) rfl rfl ?_
    refine o_iconst (pc' := 92) (v := (1 : Int32)) X0 hx (hb hby at_91) rfl rfl ?_
    refine o_icmpT (pc' := 109) X0 hx (hb hby at_92) (XT.ii_le_t (by decide)) (by decide) (by decide) ?_
    refine o_lconst (pc' := 110) (v := (0 : Int64)) X0 hx (hb hby at_109) rfl rfl ?_
    refine o_lstore (pc' := 112) (l' := #[.val (.int x0), .val (.long x1), .second, .val (.int x2), .val (.int x3), .val (.int x4), .val (.int (1 : Int32)), .val (.int (((x1 &&& (15 : Int64))).toInt32)), .val (.int (0 : Int32)), .val (.int (0 : Int32)), .val (.long d0), .second, .val (.long d1), .second, .val (.long d2), .second, .val (.long q0), .second, .val (.long (0 : Int64)), .second, .unset, .unset, .unset, .unset, .unset, .unset, .unset, .unset, .unset, .unset, .unset, .unset, .unset, .unset, .unset, .unset]) X0 hx (hb hby at_110) rfl rfl ?_
    obtain ⟨A1, B1, s1, hA1, hB1, hq1, hb1, zB1⟩ := own_a0 hM1 hd1
    generalize hgq1 : (0 : Int64) = q1 at hq1 hb1 ⊢
    refine o_iload (pc' := 114) X0 hx (hb hby at_112) rfl rfl ?_
    refine o_iconst (pc' := 115) (v := (2 : Int32)) X0 hx (hb hby at_114) rfl rfl ?_
    refine o_icmpT (pc' := 132) X0 hx (hb hby at_115) (XT.ii_le_t (by decide)) (by decide) (by decide) ?_
    refine o_lconst (pc' := 133) (v := (0 : Int64)) X0 hx (hb hby at_132) rfl rfl ?_
    refine o_lstore (pc' := 135) (l' := #[.val (.int x0), .val (.long x1), .second, .val (.int x2), .val (.int x3), .val (.int x4), .val (.int (1 : Int32)), .val (.int (((x1 &&& (15 : Int64))).toInt32)), .val (.int (0 : Int32)), .val (.int (0 : Int32)), .val (.long d0), .second, .val (.long d1), .second, .val (.long d2), .second, .val (.long q0), .second, .val (.long q1), .second, .val (.long (0 : Int64)), .second, .unset, .unset, .unset, .unset, .unset, .unset, .unset, .unset, .unset, .unset, .unset, .unset, .unset, .unset]) X0 hx (hb hby at_133) rfl rfl ?_
    obtain ⟨A2, B2, s2, hA2, hB2, hq2, hb2, zB2⟩ := own_a0 hM2 hd2
    generalize hgq2 : (0 : Int64) = q2 at hq2 hb2 ⊢
    refine o_iload (pc' := 137) X0 hx (hb hby at_135) rfl rfl ?_
    obtain ⟨T1, h1_, X1, e1, E1, A1, st1⟩ := o_newD (Ls := #[.val (.int x0), .val (.long x1), .second, .val (.int x2), .val (.int x3), .val (.int x4), .val (.int (1 : Int32)), .val (.int (((x1 &&& (15 : Int64))).toInt32)), .val (.int (0 : Int32)), .val (.int (0 : Int32)), .val (.long d0), .second, .val (.long d1), .second, .val (.long d2), .second, .val (.long q0), .second, .val (.long q1), .second, .val (.long q2), .second, .unset, .unset, .unset, .unset, .unset, .unset, .unset, .unset, .unset, .unset, .unset, .unset, .unset, .unset]) (st := []) (n := (1 : Int32)) X0 hx hZ (hw _ (List.mem_of_getElem? (i := 2) rfl)) e0 (hb hby at_137) (by decide) 1 (by decide) (by decide) (by decide) (by decide) rfl
    obtain ⟨b1, g1⟩ : ∃ z, z = h0.size := ⟨_, rfl⟩
    rw [← g1] at A1 st1
    replace A1 : oDbls Z h1_ b1 [(0 : UInt64)] := A1
    have ge2 : n0 ≤ b1 := by rw [g1]; exact Z0
    have K3 := (Keep.refl h0 []).ext E1
    have Z4 := Nat.le_trans Z0 K3.1
    refine oGo.step (f' := (mkF m 139 #[.val (.int x0), .val (.long x1), .second, .val (.int x2), .val (.int x3), .val (.int x4), .val (.int (1 : Int32)), .val (.int (((x1 &&& (15 : Int64))).toInt32)), .val (.int (0 : Int32)), .val (.int (0 : Int32)), .val (.long d0), .second, .val (.long d1), .second, .val (.long d2), .second, .val (.long q0), .second, .val (.long q1), .second, .val (.long q2), .second, .unset, .unset, .unset, .unset, .unset, .unset, .unset, .unset, .unset, .unset, .unset, .unset, .unset, .unset] [(.ref b1)])) st1 ?_
    refine o_astore (pc' := 141) (l' := #[.val (.int x0), .val (.long x1), .second, .val (.int x2), .val (.int x3), .val (.int x4), .val (.int (1 : Int32)), .val (.int (((x1 &&& (15 : Int64))).toInt32)), .val (.int (0 : Int32)), .val (.int (0 : Int32)), .val (.long d0), .second, .val (.long d1), .second, .val (.long d2), .second, .val (.long q0), .second, .val (.long q1), .second, .val (.long q2), .second, .val (.ref b1), .unset, .unset, .unset, .unset, .unset, .unset, .unset, .unset, .unset, .unset, .unset, .unset, .unset]) X1 hx (hb hby at_139) rfl rfl rfl ?_
    refine o_iload (pc' := 143) X1 hx (hb hby at_141) rfl rfl ?_
    obtain ⟨T5, h5_, X5, e5, E5, A5, st5⟩ := o_newD (Ls := #[.val (.int x0), .val (.long x1), .second, .val (.int x2), .val (.int x3), .val (.int x4), .val (.int (1 : Int32)), .val (.int (((x1 &&& (15 : Int64))).toInt32)), .val (.int (0 : Int32)), .val (.int (0 : Int32)), .val (.long d0), .second, .val (.long d1), .second, .val (.long d2), .second, .val (.long q0), .second, .val (.long q1), .second, .val (.long q2), .second, .val (.ref b1), .unset, .unset, .unset, .unset, .unset, .unset, .unset, .unset, .unset, .unset, .unset, .unset, .unset]) (st := []) (n := (1 : Int32)) X1 hx hZ (hw _ (List.mem_of_getElem? (i := 2) rfl)) e1 (hb hby at_143) (by decide) 1 (by decide) (by decide) (by decide) (by decide) rfl
    obtain ⟨b5, g5⟩ : ∃ z, z = h1_.size := ⟨_, rfl⟩
    rw [← g5] at A5 st5
    replace A5 : oDbls Z h5_ b5 [(0 : UInt64)] := A5
    have ne6 : b1 ≠ b5 := by rw [g5]; exact Nat.ne_of_lt A1.lt
    have ge7 : n0 ≤ b5 := by rw [g5]; exact Z4
    have K8 := (Keep.refl h1_ []).ext E5
    have F9 := A1.keep K8 nin0
    have Z10 := Nat.le_trans Z4 K8.1
    refine oGo.step (f' := (mkF m 145 #[.val (.int x0), .val (.long x1), .second, .val (.int x2), .val (.int x3), .val (.int x4), .val (.int (1 : Int32)), .val (.int (((x1 &&& (15 : Int64))).toInt32)), .val (.int (0 : Int32)), .val (.int (0 : Int32)), .val (.long d0), .second, .val (.long d1), .second, .val (.long d2), .second, .val (.long q0), .second, .val (.long q1), .second, .val (.long q2), .second, .val (.ref b1), .unset, .unset, .unset, .unset, .unset, .unset, .unset, .unset, .unset, .unset, .unset, .unset, .unset] [(.ref b5)])) st5 ?_
    refine o_astore (pc' := 147) (l' := #[.val (.int x0), .val (.long x1), .second, .val (.int x2), .val (.int x3), .val (.int x4), .val (.int (1 : Int32)), .val (.int (((x1 &&& (15 : Int64))).toInt32)), .val (.int (0 : Int32)), .val (.int (0 : Int32)), .val (.long d0), .second, .val (.long d1), .second, .val (.long d2), .second, .val (.long q0), .second, .val (.long q1), .second, .val (.long q2), .second, .val (.ref b1), .val (.ref b5), .unset, .unset, .unset, .unset, .unset, .unset, .unset, .unset, .unset, .unset, .unset, .unset]) X5 hx (hb hby at_145) rfl rfl rfl ?_
    refine o_iload (pc' := 149) X5 hx (hb hby at_147) rfl rfl ?_
    refine o_iconst (pc' := 150) (v := (1 : Int32)) X5 hx (hb hby at_149) rfl rfl ?_
    refine o_iadd (pc' := 151) X5 hx (hb hby at_150)  rfl ?_
    show oGo p e below (oG s (fun v h L => v = some (.int 1) ∧ Fr n0 L) room_1.cells room_1.slots) T5 (mkF m 151 #[.val (.int x0), .val (.long x1), .second, .val (.int x2), .val (.int x3), .val (.int x4), .val (.int (1 : Int32)), .val (.int (((x1 &&& (15 : Int64))).toInt32)), .val (.int (0 : Int32)), .val (.int (0 : Int32)), .val (.long d0), .second, .val (.long d1), .second, .val (.long d2), .second, .val (.long q0), .second, .val (.long q1), .second, .val (.long q2), .second, .val (.ref b1), .val (.ref b5), .unset, .unset, .unset, .unset, .unset, .unset, .unset, .unset, .unset, .unset, .unset, .unset] [(.int (2 : Int32))])
    obtain ⟨T11, h11_, X11, e11, E11, A11, st11⟩ := o_newD (Ls := #[.val (.int x0), .val (.long x1), .second, .val (.int x2), .val (.int x3), .val (.int x4), .val (.int (1 : Int32)), .val (.int (((x1 &&& (15 : Int64))).toInt32)), .val (.int (0 : Int32)), .val (.int (0 : Int32)), .val (.long d0), .second, .val (.long d1), .second, .val (.long d2), .second, .val (.long q0), .second, .val (.long q1), .second, .val (.long q2), .second, .val (.ref b1), .val (.ref b5), .unset, .unset, .unset, .unset, .unset, .unset, .unset, .unset, .unset, .unset, .unset, .unset]) (st := []) (n := (2 : Int32)) X5 hx hZ (hw _ (List.mem_of_getElem? (i := 2) rfl)) e5 (hb hby at_151) (by decide) 2 (by decide) (by decide) (by decide) (by decide) rfl
    obtain ⟨b11, g11⟩ : ∃ z, z = h5_.size := ⟨_, rfl⟩
    rw [← g11] at A11 st11
    replace A11 : oDbls Z h11_ b11 [(0 : UInt64), (0 : UInt64)] := A11
    have ne12 : b1 ≠ b11 := by rw [g11]; exact Nat.ne_of_lt F9.lt
    have ne13 : b5 ≠ b11 := by rw [g11]; exact Nat.ne_of_lt A5.lt
    have ge14 : n0 ≤ b11 := by rw [g11]; exact Z10
    have K15 := (Keep.refl h5_ []).ext E11
    have F16 := F9.keep K15 nin0
    have F17 := A5.keep K15 nin0
    have Z18 := Nat.le_trans Z10 K15.1
    refine oGo.step (f' := (mkF m 153 #[.val (.int x0), .val (.long x1), .second, .val (.int x2), .val (.int x3), .val (.int x4), .val (.int (1 : Int32)), .val (.int (((x1 &&& (15 : Int64))).toInt32)), .val (.int (0 : Int32)), .val (.int (0 : Int32)), .val (.long d0), .second, .val (.long d1), .second, .val (.long d2), .second, .val (.long q0), .second, .val (.long q1), .second, .val (.long q2), .second, .val (.ref b1), .val (.ref b5), .unset, .unset, .unset, .unset, .unset, .unset, .unset, .unset, .unset, .unset, .unset, .unset] [(.ref b11)])) st11 ?_
    refine o_astore (pc' := 155) (l' := #[.val (.int x0), .val (.long x1), .second, .val (.int x2), .val (.int x3), .val (.int x4), .val (.int (1 : Int32)), .val (.int (((x1 &&& (15 : Int64))).toInt32)), .val (.int (0 : Int32)), .val (.int (0 : Int32)), .val (.long d0), .second, .val (.long d1), .second, .val (.long d2), .second, .val (.long q0), .second, .val (.long q1), .second, .val (.long q2), .second, .val (.ref b1), .val (.ref b5), .val (.ref b11), .unset, .unset, .unset, .unset, .unset, .unset, .unset, .unset, .unset, .unset, .unset]) X11 hx (hb hby at_153) rfl rfl rfl ?_
    refine o_aload (pc' := 157) X11 hx (hb hby at_155) rfl rfl rfl ?_
    refine o_iconst (pc' := 158) (v := (0 : Int32)) X11 hx (hb hby at_157) rfl rfl ?_
    refine o_lload (pc' := 160) X11 hx (hb hby at_158) rfl rfl ?_
    refine o_l2d (pc' := 161) (v := (dy A0 0)) X11 hx (hb hby at_160) (dy_l2d hq0) rfl ?_
    obtain ⟨T19, h19_, X19, e19, W19, st19⟩ := o_dastore (x := (dy A0 0)) (j := (0 : Int32)) (Ls := #[.val (.int x0), .val (.long x1), .second, .val (.int x2), .val (.int x3), .val (.int x4), .val (.int (1 : Int32)), .val (.int (((x1 &&& (15 : Int64))).toInt32)), .val (.int (0 : Int32)), .val (.int (0 : Int32)), .val (.long d0), .second, .val (.long d1), .second, .val (.long d2), .second, .val (.long q0), .second, .val (.long q1), .second, .val (.long q2), .second, .val (.ref b1), .val (.ref b5), .val (.ref b11), .unset, .unset, .unset, .unset, .unset, .unset, .unset, .unset, .unset, .unset, .unset]) (st := []) X11 hx hZ e11 F16 (hb hby at_161) (by decide) (show _ < 1 by decide) rfl
    refine oGo.step (f' := (mkF m 162 #[.val (.int x0), .val (.long x1), .second, .val (.int x2), .val (.int x3), .val (.int x4), .val (.int (1 : Int32)), .val (.int (((x1 &&& (15 : Int64))).toInt32)), .val (.int (0 : Int32)), .val (.int (0 : Int32)), .val (.long d0), .second, .val (.long d1), .second, .val (.long d2), .second, .val (.long q0), .second, .val (.long q1), .second, .val (.long q2), .second, .val (.ref b1), .val (.ref b5), .val (.ref b11), .unset, .unset, .unset, .unset, .unset, .unset, .unset, .unset, .unset, .unset, .unset] [])) st19 ?_
    have N19 := Fr.snoc X19 N0 ge2
    have F20 := F16.set W19
    replace F20 : oDbls Z h19_ b1 [(dy A0 0)] := F20
    have K21 := Keep.of_wr W19
    have F22 := F17.keep K21 (ninS (Ne.symm ne6) nin0)
    have F23 := A11.keep K21 (ninS (Ne.symm ne12) nin0)
    have Z24 := Nat.le_trans Z18 K21.1
    refine o_aload (pc' := 164) X19 hx (hb hby at_162) rfl rfl rfl ?_
    refine o_iconst (pc' := 165) (v := (0 : Int32)) X19 hx (hb hby at_164) rfl rfl ?_
    refine o_lload (pc' := 167) X19 hx (hb hby at_165) rfl rfl ?_
    refine o_lload (pc' := 169) X19 hx (hb hby at_167) rfl rfl ?_
    refine o_lsub (pc' := 170) X19 hx (hb hby at_169)  rfl ?_
    refine o_l2d (pc' := 171) (v := (dy B0 0)) X19 hx (hb hby at_170) (dy_l2d hb0) rfl ?_
    obtain ⟨T25, h25_, X25, e25, W25, st25⟩ := o_dastore (x := (dy B0 0)) (j := (0 : Int32)) (Ls := #[.val (.int x0), .val (.long x1), .second, .val (.int x2), .val (.int x3), .val (.int x4), .val (.int (1 : Int32)), .val (.int (((x1 &&& (15 : Int64))).toInt32)), .val (.int (0 : Int32)), .val (.int (0 : Int32)), .val (.long d0), .second, .val (.long d1), .second, .val (.long d2), .second, .val (.long q0), .second, .val (.long q1), .second, .val (.long q2), .second, .val (.ref b1), .val (.ref b5), .val (.ref b11), .unset, .unset, .unset, .unset, .unset, .unset, .unset, .unset, .unset, .unset, .unset]) (st := []) X19 hx hZ e19 F22 (hb hby at_171) (by decide) (show _ < 1 by decide) rfl
    refine oGo.step (f' := (mkF m 172 #[.val (.int x0), .val (.long x1), .second, .val (.int x2), .val (.int x3), .val (.int x4), .val (.int (1 : Int32)), .val (.int (((x1 &&& (15 : Int64))).toInt32)), .val (.int (0 : Int32)), .val (.int (0 : Int32)), .val (.long d0), .second, .val (.long d1), .second, .val (.long d2), .second, .val (.long q0), .second, .val (.long q1), .second, .val (.long q2), .second, .val (.ref b1), .val (.ref b5), .val (.ref b11), .unset, .unset, .unset, .unset, .unset, .unset, .unset, .unset, .unset, .unset, .unset] [])) st25 ?_
    have N25 := Fr.snoc X25 N19 ge7
    have F26 := F22.set W25
    replace F26 : oDbls Z h25_ b5 [(dy B0 0)] := F26
    have K27 := Keep.of_wr W25
    have F28 := F23.keep K27 (ninS (Ne.symm ne13) nin0)
    have F29 := F20.keep K27 (ninS ne6 nin0)
    have Z30 := Nat.le_trans Z24 K27.1
    refine o_aload (pc' := 174) X25 hx (hb hby at_172) rfl rfl rfl ?_
    refine o_iconst (pc' := 175) (v := (0 : Int32)) X25 hx (hb hby at_174) rfl rfl ?_
    refine o_ldc2d (pc' := 178) (b := (4619567317775286272 : UInt64)) X25 hx hZ hown (hw _ (List.mem_of_getElem? (i := 3) rfl)) (hb hby at_175) rfl ?_
    obtain ⟨T31, h31_, X31, e31, W31, st31⟩ := o_dastore (x := (4619567317775286272 : UInt64)) (j := (0 : Int32)) (Ls := #[.val (.int x0), .val (.long x1), .second, .val (.int x2), .val (.int x3), .val (.int x4), .val (.int (1 : Int32)), .val (.int (((x1 &&& (15 : Int64))).toInt32)), .val (.int (0 : Int32)), .val (.int (0 : Int32)), .val (.long d0), .second, .val (.long d1), .second, .val (.long d2), .second, .val (.long q0), .second, .val (.long q1), .second, .val (.long q2), .second, .val (.ref b1), .val (.ref b5), .val (.ref b11), .unset, .unset, .unset, .unset, .unset, .unset, .unset, .unset, .unset, .unset, .unset]) (st := []) X25 hx hZ e25 F28 (hb hby at_178) (by decide) (show _ < 2 by decide) rfl
    refine oGo.step (f' := (mkF m 179 #[.val (.int x0), .val (.long x1), .second, .val (.int x2), .val (.int x3), .val (.int x4), .val (.int (1 : Int32)), .val (.int (((x1 &&& (15 : Int64))).toInt32)), .val (.int (0 : Int32)), .val (.int (0 : Int32)), .val (.long d0), .second, .val (.long d1), .second, .val (.long d2), .second, .val (.long q0), .second, .val (.long q1), .second, .val (.long q2), .second, .val (.ref b1), .val (.ref b5), .val (.ref b11), .unset, .unset, .unset, .unset, .unset, .unset, .unset, .unset, .unset, .unset, .unset] [])) st31 ?_
    have N31 := Fr.snoc X31 N25 ge14
    have F32 := F28.set W31
    replace F32 : oDbls Z h31_ b11 [(4619567317775286272 : UInt64), (0 : UInt64)] := F32
    have K33 := Keep.of_wr W31
    have F34 := F29.keep K33 (ninS ne12 nin0)
    have F35 := F26.keep K33 (ninS ne13 nin0)
    have Z36 := Nat.le_trans Z30 K33.1
    refine o_aload (pc' := 181) X31 hx (hb hby at_179) rfl rfl rfl ?_
    refine o_iconst (pc' := 182) (v := (1 : Int32)) X31 hx (hb hby at_181) rfl rfl ?_
    refine o_ldc2d (pc' := 185) (b := (4619567317775286272 : UInt64)) X31 hx hZ hown (hw _ (List.mem_of_getElem? (i := 3) rfl)) (hb hby at_182) rfl ?_
    obtain ⟨T37, h37_, X37, e37, W37, st37⟩ := o_dastore (x := (4619567317775286272 : UInt64)) (j := (1 : Int32)) (Ls := #[.val (.int x0), .val (.long x1), .second, .val (.int x2), .val (.int x3), .val (.int x4), .val (.int (1 : Int32)), .val (.int (((x1 &&& (15 : Int64))).toInt32)), .val (.int (0 : Int32)), .val (.int (0 : Int32)), .val (.long d0), .second, .val (.long d1), .second, .val (.long d2), .second, .val (.long q0), .second, .val (.long q1), .second, .val (.long q2), .second, .val (.ref b1), .val (.ref b5), .val (.ref b11), .unset, .unset, .unset, .unset, .unset, .unset, .unset, .unset, .unset, .unset, .unset]) (st := []) X31 hx hZ e31 F32 (hb hby at_185) (by decide) (show _ < 2 by decide) rfl
    refine oGo.step (f' := (mkF m 186 #[.val (.int x0), .val (.long x1), .second, .val (.int x2), .val (.int x3), .val (.int x4), .val (.int (1 : Int32)), .val (.int (((x1 &&& (15 : Int64))).toInt32)), .val (.int (0 : Int32)), .val (.int (0 : Int32)), .val (.long d0), .second, .val (.long d1), .second, .val (.long d2), .second, .val (.long q0), .second, .val (.long q1), .second, .val (.long q2), .second, .val (.ref b1), .val (.ref b5), .val (.ref b11), .unset, .unset, .unset, .unset, .unset, .unset, .unset, .unset, .unset, .unset, .unset] [])) st37 ?_
    have N37 := Fr.snoc X37 N31 ge14
    have F38 := F32.set W37
    replace F38 : oDbls Z h37_ b11 [(4619567317775286272 : UInt64), (4619567317775286272 : UInt64)] := F38
    have K39 := Keep.of_wr W37
    have F40 := F34.keep K39 (ninS ne12 nin0)
    have F41 := F35.keep K39 (ninS ne13 nin0)
    have Z42 := Nat.le_trans Z36 K39.1
    refine o_iload (pc' := 188) X37 hx (hb hby at_186) rfl rfl ?_
    refine o_iconst (pc' := 189) (v := (1 : Int32)) X37 hx (hb hby at_188) rfl rfl ?_
    refine o_icmpT (pc' := 216) X37 hx (hb hby at_189) (XT.ii_le_t (by decide)) (by decide) (by decide) ?_
    refine o_iload (pc' := 218) X37 hx (hb hby at_216) rfl rfl ?_
    refine o_iconst (pc' := 219) (v := (2 : Int32)) X37 hx (hb hby at_218) rfl rfl ?_
    refine o_icmpT (pc' := 246) X37 hx (hb hby at_219) (XT.ii_le_t (by decide)) (by decide) (by decide) ?_
    refine o_aload (pc' := 248) X37 hx (hb hby at_246) rfl rfl rfl ?_
    refine o_aload (pc' := 250) X37 hx (hb hby at_248) rfl rfl rfl ?_
    refine o_aload (pc' := 252) X37 hx (hb hby at_250) rfl rfl rfl ?_
    obtain ⟨r43, T43, L43, X43, hq43, st43⟩ := o_callS X37 hx hZ hown (hw _ (List.mem_of_getElem? (i := 4) rfl)) (hw _ (List.mem_of_getElem? (i := 5) rfl)) (hw _ (List.mem_of_getElem? (i := 6) rfl)) (hw _ (List.mem_of_getElem? (i := 7) rfl)) (by decide) (rm1_1 l Z a0 hw b1 b5 b11 A0 B0 M0 (4619567317775286272 : UInt64) (4619567317775286272 : UInt64) h37_ n0 Z42 F40 F41 F38 ge14 ne12 ne13 s0 hM0 hA0 hB0) e37 (pc' := 255) (Ls := #[.val (.int x0), .val (.long x1), .second, .val (.int x2), .val (.int x3), .val (.int x4), .val (.int (1 : Int32)), .val (.int (((x1 &&& (15 : Int64))).toInt32)), .val (.int (0 : Int32)), .val (.int (0 : Int32)), .val (.long d0), .second, .val (.long d1), .second, .val (.long d2), .second, .val (.long q0), .second, .val (.long q1), .second, .val (.long q2), .second, .val (.ref b1), .val (.ref b5), .val (.ref b11), .unset, .unset, .unset, .unset, .unset, .unset, .unset, .unset, .unset, .unset, .unset]) (by rw [hml]; rfl) [(.ref b1), (.ref b5), (.ref b11)] [] rfl pd0 rfl rfl 0 (Nat.le_of_eq rfl) (hb hby at_252) rfl (by decide) (by decide) (by decide) (by decide)
    obtain ⟨rfl, N43, Kc43, W43_⟩ := hq43
    refine oGo.step (f' := (mkF m 255 #[.val (.int x0), .val (.long x1), .second, .val (.int x2), .val (.int x3), .val (.int x4), .val (.int (1 : Int32)), .val (.int (((x1 &&& (15 : Int64))).toInt32)), .val (.int (0 : Int32)), .val (.int (0 : Int32)), .val (.long d0), .second, .val (.long d1), .second, .val (.long d2), .second, .val (.long q0), .second, .val (.long q1), .second, .val (.long q2), .second, .val (.ref b1), .val (.ref b5), .val (.ref b11), .unset, .unset, .unset, .unset, .unset, .unset, .unset, .unset, .unset, .unset, .unset] [])) st43 ?_
    have N43_ := Fr.app N37 N43
    have K44 := Kc43
    have F45 := F40.keep K44 (ninS ne12 nin0)
    have F46 := F41.keep K44 (ninS ne13 nin0)
    have Z48 := Nat.le_trans Z42 K44.1
    have X43 := o_flat X43 rfl rfl
    refine o_lload (pc' := 257) X43 hx (hb hby at_255) rfl rfl ?_
    refine o_lload (pc' := 259) X43 hx (hb hby at_257) rfl rfl ?_
    refine o_lmul (pc' := 260) X43 hx (hb hby at_259)  rfl ?_
    refine o_lload (pc' := 262) X43 hx (hb hby at_260) rfl rfl ?_
    refine o_lmul (pc' := 263) X43 hx (hb hby at_262)  rfl ?_
    have hSSv := own_m3 hd0 (pw M0 hM0) hd1 (pw M1 hM1) hd2 (pw M2 hM2)
    have hSS := own_p3 (pw M0 hM0) (pw M1 hM1) (pw M2 hM2)
    obtain ⟨SS, hSSe⟩ : ∃ z, z = 2 ^ M0 * 2 ^ M1 * 2 ^ M2 := ⟨_, rfl⟩
    rw [← hSSe] at hSSv hSS
    refine o_l2d (pc' := 264) (v := (dy SS 0)) X43 hx (hb hby at_263) (dy_l2d hSSv) rfl ?_
    refine o_dstore (pc' := 266) (l' := #[.val (.int x0), .val (.long x1), .second, .val (.int x2), .val (.int x3), .val (.int x4), .val (.int (1 : Int32)), .val (.int (((x1 &&& (15 : Int64))).toInt32)), .val (.int (0 : Int32)), .val (.int (0 : Int32)), .val (.long d0), .second, .val (.long d1), .second, .val (.long d2), .second, .val (.long q0), .second, .val (.long q1), .second, .val (.long q2), .second, .val (.ref b1), .val (.ref b5), .val (.ref b11), .val (.double (dy SS 0)), .second, .unset, .unset, .unset, .unset, .unset, .unset, .unset, .unset, .unset]) X43 hx (hb hby at_264) rfl rfl ?_
    refine o_lload (pc' := 268) X43 hx (hb hby at_266) rfl rfl ?_
    refine o_lload (pc' := 270) X43 hx (hb hby at_268) rfl rfl ?_
    refine o_lmul (pc' := 271) X43 hx (hb hby at_270)  rfl ?_
    refine o_lload (pc' := 273) X43 hx (hb hby at_271) rfl rfl ?_
    refine o_lmul (pc' := 274) X43 hx (hb hby at_273)  rfl ?_
    refine o_lstore (pc' := 276) (l' := #[.val (.int x0), .val (.long x1), .second, .val (.int x2), .val (.int x3), .val (.int x4), .val (.int (1 : Int32)), .val (.int (((x1 &&& (15 : Int64))).toInt32)), .val (.int (0 : Int32)), .val (.int (0 : Int32)), .val (.long d0), .second, .val (.long d1), .second, .val (.long d2), .second, .val (.long q0), .second, .val (.long q1), .second, .val (.long q2), .second, .val (.ref b1), .val (.ref b5), .val (.ref b11), .val (.double (dy SS 0)), .second, .val (.long ((q0 * d1) * d2)), .second, .unset, .unset, .unset, .unset, .unset, .unset, .unset]) X43 hx (hb hby at_274) rfl rfl ?_
    refine o_lload (pc' := 278) X43 hx (hb hby at_276) rfl rfl ?_
    refine o_lload (pc' := 280) X43 hx (hb hby at_278) rfl rfl ?_
    refine o_lsub (pc' := 281) X43 hx (hb hby at_280)  rfl ?_
    refine o_lload (pc' := 283) X43 hx (hb hby at_281) rfl rfl ?_
    refine o_lmul (pc' := 284) X43 hx (hb hby at_283)  rfl ?_
    refine o_lload (pc' := 286) X43 hx (hb hby at_284) rfl rfl ?_
    refine o_lmul (pc' := 287) X43 hx (hb hby at_286)  rfl ?_
    refine o_lstore (pc' := 289) (l' := #[.val (.int x0), .val (.long x1), .second, .val (.int x2), .val (.int x3), .val (.int x4), .val (.int (1 : Int32)), .val (.int (((x1 &&& (15 : Int64))).toInt32)), .val (.int (0 : Int32)), .val (.int (0 : Int32)), .val (.long d0), .second, .val (.long d1), .second, .val (.long d2), .second, .val (.long q0), .second, .val (.long q1), .second, .val (.long q2), .second, .val (.ref b1), .val (.ref b5), .val (.ref b11), .val (.double (dy SS 0)), .second, .val (.long ((q0 * d1) * d2)), .second, .val (.long (((d0 - q0) * q1) * d2)), .second, .unset, .unset, .unset, .unset, .unset]) X43 hx (hb hby at_287) rfl rfl ?_
    refine o_lload (pc' := 291) X43 hx (hb hby at_289) rfl rfl ?_
    refine o_lload (pc' := 293) X43 hx (hb hby at_291) rfl rfl ?_
    refine o_lsub (pc' := 294) X43 hx (hb hby at_293)  rfl ?_
    refine o_lload (pc' := 296) X43 hx (hb hby at_294) rfl rfl ?_
    refine o_lload (pc' := 298) X43 hx (hb hby at_296) rfl rfl ?_
    refine o_lsub (pc' := 299) X43 hx (hb hby at_298)  rfl ?_
    refine o_lmul (pc' := 300) X43 hx (hb hby at_299)  rfl ?_
    refine o_lload (pc' := 302) X43 hx (hb hby at_300) rfl rfl ?_
    refine o_lmul (pc' := 303) X43 hx (hb hby at_302)  rfl ?_
    refine o_lstore (pc' := 305) (l' := #[.val (.int x0), .val (.long x1), .second, .val (.int x2), .val (.int x3), .val (.int x4), .val (.int (1 : Int32)), .val (.int (((x1 &&& (15 : Int64))).toInt32)), .val (.int (0 : Int32)), .val (.int (0 : Int32)), .val (.long d0), .second, .val (.long d1), .second, .val (.long d2), .second, .val (.long q0), .second, .val (.long q1), .second, .val (.long q2), .second, .val (.ref b1), .val (.ref b5), .val (.ref b11), .val (.double (dy SS 0)), .second, .val (.long ((q0 * d1) * d2)), .second, .val (.long (((d0 - q0) * q1) * d2)), .second, .val (.long (((d0 - q0) * (d1 - q1)) * q2)), .second, .unset, .unset, .unset]) X43 hx (hb hby at_303) rfl rfl ?_
    refine o_lload (pc' := 307) X43 hx (hb hby at_305) rfl rfl ?_
    refine o_lload (pc' := 309) X43 hx (hb hby at_307) rfl rfl ?_
    refine o_lsub (pc' := 310) X43 hx (hb hby at_309)  rfl ?_
    refine o_lload (pc' := 312) X43 hx (hb hby at_310) rfl rfl ?_
    refine o_lload (pc' := 314) X43 hx (hb hby at_312) rfl rfl ?_
    refine o_lsub (pc' := 315) X43 hx (hb hby at_314)  rfl ?_
    refine o_lmul (pc' := 316) X43 hx (hb hby at_315)  rfl ?_
    refine o_lload (pc' := 318) X43 hx (hb hby at_316) rfl rfl ?_
    refine o_lload (pc' := 320) X43 hx (hb hby at_318) rfl rfl ?_
    refine o_lsub (pc' := 321) X43 hx (hb hby at_320)  rfl ?_
    refine o_lmul (pc' := 322) X43 hx (hb hby at_321)  rfl ?_
    refine o_lstore (pc' := 324) (l' := #[.val (.int x0), .val (.long x1), .second, .val (.int x2), .val (.int x3), .val (.int x4), .val (.int (1 : Int32)), .val (.int (((x1 &&& (15 : Int64))).toInt32)), .val (.int (0 : Int32)), .val (.int (0 : Int32)), .val (.long d0), .second, .val (.long d1), .second, .val (.long d2), .second, .val (.long q0), .second, .val (.long q1), .second, .val (.long q2), .second, .val (.ref b1), .val (.ref b5), .val (.ref b11), .val (.double (dy SS 0)), .second, .val (.long ((q0 * d1) * d2)), .second, .val (.long (((d0 - q0) * q1) * d2)), .second, .val (.long (((d0 - q0) * (d1 - q1)) * q2)), .second, .val (.long (((d0 - q0) * (d1 - q1)) * (d2 - q2))), .second, .unset]) X43 hx (hb hby at_322) rfl rfl ?_
    refine o_aload (pc' := 326) X43 hx (hb hby at_324) rfl rfl rfl ?_
    refine o_iconst (pc' := 327) (v := (0 : Int32)) X43 hx (hb hby at_326) rfl rfl ?_
    refine o_daload (pc' := 328) (v := (dy (1 * A0) (0 + M0))) X43 hx hZ (rfl : T43.heap = _) W43_ (hb hby at_327) (by decide) rfl rfl ?_
    refine o_dload (pc' := 330) X43 hx (hb hby at_328) rfl rfl ?_
    refine o_lload (pc' := 332) X43 hx (hb hby at_330) rfl rfl ?_
    obtain ⟨r49, T49, L49, X49, hq49, st49⟩ := o_callS X43 hx hZ hown (hw _ (List.mem_of_getElem? (i := 8) rfl)) (hw _ (List.mem_of_getElem? (i := 9) rfl)) (hw _ (List.mem_of_getElem? (i := 10) rfl)) (hw _ (List.mem_of_getElem? (i := 11) rfl)) (by decide) (rm2 l Z a0 hw (1 * A0) (0 + M0) SS (A0 * 2 ^ M1 * 2 ^ M2) ((q0 * d1) * d2) T43.heap n0 Z48 (own_lim (own_lm (own_l1) hA0) (by decide)) hSS (by omega) (own_p3 hA0 (pw M1 hM1) (pw M2 hM2)) (by rw [hSSe]; simp only [Nat.pow_add, Nat.pow_zero, Nat.one_mul, Nat.mul_one, Nat.zero_add] <;> ac_rfl) (own_m3 hq0 hA0 hd1 (pw M1 hM1) hd2 (pw M2 hM2))) (rfl : T43.heap = _) (pc' := 335) (Ls := #[.val (.int x0), .val (.long x1), .second, .val (.int x2), .val (.int x3), .val (.int x4), .val (.int (1 : Int32)), .val (.int (((x1 &&& (15 : Int64))).toInt32)), .val (.int (0 : Int32)), .val (.int (0 : Int32)), .val (.long d0), .second, .val (.long d1), .second, .val (.long d2), .second, .val (.long q0), .second, .val (.long q1), .second, .val (.long q2), .second, .val (.ref b1), .val (.ref b5), .val (.ref b11), .val (.double (dy SS 0)), .second, .val (.long ((q0 * d1) * d2)), .second, .val (.long (((d0 - q0) * q1) * d2)), .second, .val (.long (((d0 - q0) * (d1 - q1)) * q2)), .second, .val (.long (((d0 - q0) * (d1 - q1)) * (d2 - q2))), .second, .unset]) (by rw [hml]; rfl) [(.double (dy (1 * A0) (0 + M0))), (.double (dy SS 0)), (.long ((q0 * d1) * d2))] [] rfl pd1 rfl rfl 0 (Nat.le_of_eq rfl) (hb hby at_332) rfl (by decide) (by decide) (by decide) (by decide)
    obtain ⟨rfl, rfl, Kc49⟩ := hq49
    refine oGo.step (f' := (mkF m 335 #[.val (.int x0), .val (.long x1), .second, .val (.int x2), .val (.int x3), .val (.int x4), .val (.int (1 : Int32)), .val (.int (((x1 &&& (15 : Int64))).toInt32)), .val (.int (0 : Int32)), .val (.int (0 : Int32)), .val (.long d0), .second, .val (.long d1), .second, .val (.long d2), .second, .val (.long q0), .second, .val (.long q1), .second, .val (.long q2), .second, .val (.ref b1), .val (.ref b5), .val (.ref b11), .val (.double (dy SS 0)), .second, .val (.long ((q0 * d1) * d2)), .second, .val (.long (((d0 - q0) * q1) * d2)), .second, .val (.long (((d0 - q0) * (d1 - q1)) * q2)), .second, .val (.long (((d0 - q0) * (d1 - q1)) * (d2 - q2))), .second, .unset] [(.int (1 : Int32))])) st49 ?_
    have e49 : T49.heap = T43.heap := Kc49
    have X49 := o_same X49 rfl rfl
    refine o_ifF (pc' := 338) X49 hx (hb hby at_335) (XT.i0_eq_f (by decide)) rfl ?_
    refine o_aload (pc' := 340) X49 hx (hb hby at_338) rfl rfl rfl ?_
    refine o_iload (pc' := 342) X49 hx (hb hby at_340) rfl rfl ?_
    refine o_daload (pc' := 343) (v := (dy (1 * B0) (0 + M0))) X49 hx hZ e49 W43_ (hb hby at_342) (by decide) rfl rfl ?_
    refine o_dload (pc' := 345) X49 hx (hb hby at_343) rfl rfl ?_
    refine o_lload (pc' := 347) X49 hx (hb hby at_345) rfl rfl ?_
    obtain ⟨r50, T50, L50, X50, hq50, st50⟩ := o_callS X49 hx hZ hown (hw _ (List.mem_of_getElem? (i := 8) rfl)) (hw _ (List.mem_of_getElem? (i := 9) rfl)) (hw _ (List.mem_of_getElem? (i := 10) rfl)) (hw _ (List.mem_of_getElem? (i := 11) rfl)) (by decide) (rm2 l Z a0 hw (1 * B0) (0 + M0) SS (B0 * B1 * B2) (((d0 - q0) * (d1 - q1)) * (d2 - q2)) T43.heap n0 Z48 (own_lim (own_lm (own_l1) hB0) (by decide)) hSS (by omega) (own_p3 hB0 hB1 hB2) (by rw [hSSe, zB1, zB2]; simp only [Nat.pow_add, Nat.pow_zero, Nat.one_mul, Nat.mul_one, Nat.zero_add] <;> ac_rfl) (own_m3 hb0 hB0 hb1 hB1 hb2 hB2)) e49 (pc' := 350) (Ls := #[.val (.int x0), .val (.long x1), .second, .val (.int x2), .val (.int x3), .val (.int x4), .val (.int (1 : Int32)), .val (.int (((x1 &&& (15 : Int64))).toInt32)), .val (.int (0 : Int32)), .val (.int (0 : Int32)), .val (.long d0), .second, .val (.long d1), .second, .val (.long d2), .second, .val (.long q0), .second, .val (.long q1), .second, .val (.long q2), .second, .val (.ref b1), .val (.ref b5), .val (.ref b11), .val (.double (dy SS 0)), .second, .val (.long ((q0 * d1) * d2)), .second, .val (.long (((d0 - q0) * q1) * d2)), .second, .val (.long (((d0 - q0) * (d1 - q1)) * q2)), .second, .val (.long (((d0 - q0) * (d1 - q1)) * (d2 - q2))), .second, .unset]) (by rw [hml]; rfl) [(.double (dy (1 * B0) (0 + M0))), (.double (dy SS 0)), (.long (((d0 - q0) * (d1 - q1)) * (d2 - q2)))] [] rfl pd1 rfl rfl 0 (Nat.le_of_eq rfl) (hb hby at_347) rfl (by decide) (by decide) (by decide) (by decide)
    obtain ⟨rfl, rfl, Kc50⟩ := hq50
    refine oGo.step (f' := (mkF m 350 #[.val (.int x0), .val (.long x1), .second, .val (.int x2), .val (.int x3), .val (.int x4), .val (.int (1 : Int32)), .val (.int (((x1 &&& (15 : Int64))).toInt32)), .val (.int (0 : Int32)), .val (.int (0 : Int32)), .val (.long d0), .second, .val (.long d1), .second, .val (.long d2), .second, .val (.long q0), .second, .val (.long q1), .second, .val (.long q2), .second, .val (.ref b1), .val (.ref b5), .val (.ref b11), .val (.double (dy SS 0)), .second, .val (.long ((q0 * d1) * d2)), .second, .val (.long (((d0 - q0) * q1) * d2)), .second, .val (.long (((d0 - q0) * (d1 - q1)) * q2)), .second, .val (.long (((d0 - q0) * (d1 - q1)) * (d2 - q2))), .second, .unset] [(.int (1 : Int32))])) st50 ?_
    have e50 : T50.heap = T43.heap := Kc50
    have X50 := o_same X50 rfl rfl
    refine o_ifF (pc' := 353) X50 hx (hb hby at_350) (XT.i0_eq_f (by decide)) rfl ?_
    refine o_iconst (pc' := 354) (v := (1 : Int32)) X50 hx (hb hby at_353) rfl rfl ?_
    refine o_goto (pc' := 358) X50 hx (hb hby at_354) (by decide) (by decide) ?_
    refine o_istore (pc' := 360) (l' := #[.val (.int x0), .val (.long x1), .second, .val (.int x2), .val (.int x3), .val (.int x4), .val (.int (1 : Int32)), .val (.int (((x1 &&& (15 : Int64))).toInt32)), .val (.int (0 : Int32)), .val (.int (0 : Int32)), .val (.long d0), .second, .val (.long d1), .second, .val (.long d2), .second, .val (.long q0), .second, .val (.long q1), .second, .val (.long q2), .second, .val (.ref b1), .val (.ref b5), .val (.ref b11), .val (.double (dy SS 0)), .second, .val (.long ((q0 * d1) * d2)), .second, .val (.long (((d0 - q0) * q1) * d2)), .second, .val (.long (((d0 - q0) * (d1 - q1)) * q2)), .second, .val (.long (((d0 - q0) * (d1 - q1)) * (d2 - q2))), .second, .val (.int (1 : Int32))]) X50 hx (hb hby at_358) rfl rfl ?_
    refine o_iload (pc' := 362) X50 hx (hb hby at_360) rfl rfl ?_
    refine o_iconst (pc' := 363) (v := (1 : Int32)) X50 hx (hb hby at_362) rfl rfl ?_
    refine o_icmpT (pc' := 392) X50 hx (hb hby at_363) (XT.ii_le_t (by decide)) (by decide) (by decide) ?_
    refine o_iload (pc' := 394) X50 hx (hb hby at_392) rfl rfl ?_
    refine o_iconst (pc' := 395) (v := (2 : Int32)) X50 hx (hb hby at_394) rfl rfl ?_
    refine o_icmpT (pc' := 424) X50 hx (hb hby at_395) (XT.ii_le_t (by decide)) (by decide) (by decide) ?_
    refine o_iload (pc' := 426) X50 hx (hb hby at_424) rfl rfl ?_
    refine o_retZ X50 hx hret hlk (hb hby at_426) (by decide) (by decide) (by decide) ?_
    exact ⟨rfl, N43_⟩
  · rw [hs]
    refine o_lloadN (pc' := 11) X0 hx (hb hby at_10) rfl rfl ?_
    refine o_ldc2 (pc' := 14) (v := (15 : Int64)) X0 hx hZ hown (hw _ (List.mem_of_getElem? (i := 1) rfl)) (hb hby at_11) rfl ?_
    refine o_land (pc' := 15) X0 hx (hb hby at_14)  rfl ?_
    refine o_l2i (pc' := 16) X0 hx (hb hby at_15)  rfl ?_
    refine o_istore (pc' := 18) (l' := #[.val (.int x0), .val (.long x1), .second, .val (.int x2), .val (.int x3), .val (.int x4), .val (.int (2 : Int32)), .val (.int (((x1 &&& (15 : Int64))).toInt32)), .unset, .unset, .unset, .unset, .unset, .unset, .unset, .unset, .unset, .unset, .unset, .unset, .unset, .unset, .unset, .unset, .unset, .unset, .unset, .unset, .unset, .unset, .unset, .unset, .unset, .unset, .unset, .unset]) X0 hx (hb hby at_16) rfl rfl ?_
    refine o_iload (pc' := 20) X0 hx (hb hby at_18) rfl rfl ?_
    refine o_iconst (pc' := 21) (v := (1 : Int32)) X0 hx (hb hby at_20) rfl rfl ?_
    refine o_icmpF (pc' := 24) X0 hx (hb hby at_21) (XT.ii_le_f (by decide)) rfl ?_
    refine o_lloadN (pc' := 25) X0 hx (hb hby at_24) rfl rfl ?_
    refine o_iconst (pc' := 26) (v := (4 : Int32)) X0 hx (hb hby at_25) rfl rfl ?_
    refine o_lushr (pc' := 27) X0 hx (hb hby at_26)  rfl ?_
    refine o_ldc2 (pc' := 30) (v := (15 : Int64)) X0 hx hZ hown (hw _ (List.mem_of_getElem? (i := 1) rfl)) (hb hby at_27) rfl ?_
    refine o_land (pc' := 31) X0 hx (hb hby at_30)  rfl ?_
    refine o_l2i (pc' := 32) X0 hx (hb hby at_31)  rfl ?_
    refine o_goto (pc' := 36) X0 hx (hb hby at_32) (by decide) (by decide) ?_
    refine o_istore (pc' := 38) (l' := #[.val (.int x0), .val (.long x1), .second, .val (.int x2), .val (.int x3), .val (.int x4), .val (.int (2 : Int32)), .val (.int (((x1 &&& (15 : Int64))).toInt32)), .val (.int ((((XT.ushrL x1 (4 : Int32)) &&& (15 : Int64))).toInt32)), .unset, .unset, .unset, .unset, .unset, .unset, .unset, .unset, .unset, .unset, .unset, .unset, .unset, .unset, .unset, .unset, .unset, .unset, .unset, .unset, .unset, .unset, .unset, .unset, .unset, .unset, .unset]) X0 hx (hb hby at_36) rfl rfl ?_
    refine o_iload (pc' := 40) X0 hx (hb hby at_38) rfl rfl ?_
    refine o_iconst (pc' := 41) (v := (2 : Int32)) X0 hx (hb hby at_40) rfl rfl ?_
    refine o_icmpT (pc' := 56) X0 hx (hb hby at_41) (XT.ii_le_t (by decide)) (by decide) (by decide) ?_
    refine o_iconst (pc' := 57) (v := (0 : Int32)) X0 hx (hb hby at_56) rfl rfl ?_
    refine o_istore (pc' := 59) (l' := #[.val (.int x0), .val (.long x1), .second, .val (.int x2), .val (.int x3), .val (.int x4), .val (.int (2 : Int32)), .val (.int (((x1 &&& (15 : Int64))).toInt32)), .val (.int ((((XT.ushrL x1 (4 : Int32)) &&& (15 : Int64))).toInt32)), .val (.int (0 : Int32)), .unset, .unset, .unset, .unset, .unset, .unset, .unset, .unset, .unset, .unset, .unset, .unset, .unset, .unset, .unset, .unset, .unset, .unset, .unset, .unset, .unset, .unset, .unset, .unset, .unset, .unset]) X0 hx (hb hby at_57) rfl rfl ?_
    refine o_lconst (pc' := 60) (v := (1 : Int64)) X0 hx (hb hby at_59) rfl rfl ?_
    refine o_iload (pc' := 62) X0 hx (hb hby at_60) rfl rfl ?_
    refine o_lshl (pc' := 63) X0 hx (hb hby at_62)  rfl ?_
    refine o_lstore (pc' := 65) (l' := #[.val (.int x0), .val (.long x1), .second, .val (.int x2), .val (.int x3), .val (.int x4), .val (.int (2 : Int32)), .val (.int (((x1 &&& (15 : Int64))).toInt32)), .val (.int ((((XT.ushrL x1 (4 : Int32)) &&& (15 : Int64))).toInt32)), .val (.int (0 : Int32)), .val (.long ((1 : Int64) <<< (((((x1 &&& (15 : Int64))).toInt32)).toInt64 &&& 63))), .second, .unset, .unset, .unset, .unset, .unset, .unset, .unset, .unset, .unset, .unset, .unset, .unset, .unset, .unset, .unset, .unset, .unset, .unset, .unset, .unset, .unset, .unset, .unset, .unset]) X0 hx (hb hby at_63) rfl rfl ?_
    obtain ⟨M0, hM0, hd0⟩ := own_shm x1
    generalize hgd0 : ((1 : Int64) <<< (((((x1 &&& (15 : Int64))).toInt32)).toInt64 &&& 63)) = d0 at hd0 ⊢
    refine o_lconst (pc' := 66) (v := (1 : Int64)) X0 hx (hb hby at_65) rfl rfl ?_
    refine o_iload (pc' := 68) X0 hx (hb hby at_66) rfl rfl ?_
    refine o_lshl (pc' := 69) X0 hx (hb hby at_68)  rfl ?_
    refine o_lstore (pc' := 71) (l' := #[.val (.int x0), .val (.long x1), .second, .val (.int x2), .val (.int x3), .val (.int x4), .val (.int (2 : Int32)), .val (.int (((x1 &&& (15 : Int64))).toInt32)), .val (.int ((((XT.ushrL x1 (4 : Int32)) &&& (15 : Int64))).toInt32)), .val (.int (0 : Int32)), .val (.long d0), .second, .val (.long ((1 : Int64) <<< ((((((XT.ushrL x1 (4 : Int32)) &&& (15 : Int64))).toInt32)).toInt64 &&& 63))), .second, .unset, .unset, .unset, .unset, .unset, .unset, .unset, .unset, .unset, .unset, .unset, .unset, .unset, .unset, .unset, .unset, .unset, .unset, .unset, .unset, .unset, .unset]) X0 hx (hb hby at_69) rfl rfl ?_
    obtain ⟨M1, hM1, hd1⟩ := own_shm (XT.ushrL x1 (4 : Int32))
    generalize hgd1 : ((1 : Int64) <<< ((((((XT.ushrL x1 (4 : Int32)) &&& (15 : Int64))).toInt32)).toInt64 &&& 63)) = d1 at hd1 ⊢
    refine o_lconst (pc' := 72) (v := (1 : Int64)) X0 hx (hb hby at_71) rfl rfl ?_
    refine o_iload (pc' := 74) X0 hx (hb hby at_72) rfl rfl ?_
    refine o_lshl (pc' := 75) X0 hx (hb hby at_74)  rfl ?_
    refine o_lstore (pc' := 77) (l' := #[.val (.int x0), .val (.long x1), .second, .val (.int x2), .val (.int x3), .val (.int x4), .val (.int (2 : Int32)), .val (.int (((x1 &&& (15 : Int64))).toInt32)), .val (.int ((((XT.ushrL x1 (4 : Int32)) &&& (15 : Int64))).toInt32)), .val (.int (0 : Int32)), .val (.long d0), .second, .val (.long d1), .second, .val (.long ((1 : Int64) <<< (((0 : Int32)).toInt64 &&& 63))), .second, .unset, .unset, .unset, .unset, .unset, .unset, .unset, .unset, .unset, .unset, .unset, .unset, .unset, .unset, .unset, .unset, .unset, .unset, .unset, .unset]) X0 hx (hb hby at_75) rfl rfl ?_
    obtain ⟨M2, hM2, hd2⟩ := own_sh0
    generalize hgd2 : ((1 : Int64) <<< (((0 : Int32)).toInt64 &&& 63)) = d2 at hd2 ⊢
    refine o_iloadN (pc' := 78) X0 hx (hb hby at_77) rfl rfl ?_
    refine o_ldc (pc' := 80) (v := (2147483647 : Int32)) X0 hx hZ hown (hw _ (List.mem_of_getElem? (i := 0) rfl)) (hb hby at_78) rfl ?_
    refine o_iand (pc' := 81) X0 hx (hb hby at_80)  rfl ?_
    refine o_i2l (pc' := 82) X0 hx (hb hby at_81)  rfl ?_
    refine o_lload (pc' := 84) X0 hx (hb hby at_82) rfl rfl ?_
    refine o_lconst (pc' := 85) (v := (1 : Int64)) X0 hx (hb hby at_84) rfl rfl ?_
    refine o_ladd (pc' := 86) X0 hx (hb hby at_85)  rfl ?_
    refine o_lrem (pc' := 87) X0 hx (hb hby at_86) (own_nz hM0 hd0) rfl ?_
    refine o_lstore (pc' := 89) (l' := #[.val (.int x0), .val (.long x1), .second, .val (.int x2), .val (.int x3), .val (.int x4), .val (.int (2 : Int32)), .val (.int (((x1 &&& (15 : Int64))).toInt32)), .val (.int ((((XT.ushrL x1 (4 : Int32)) &&& (15 : Int64))).toInt32)), .val (.int (0 : Int32)), .val (.long d0), .second, .val (.long d1), .second, .val (.long d2), .second, .val (.long ((((x2 &&& (2147483647 : Int32))).toInt64) % (d0 + (1 : Int64)))), .second, .unset, .unset, .unset, .unset, .unset, .unset, .unset, .unset, .unset, .unset, .unset, .unset, .unset, .unset, .unset, .unset, .unset, .unset]) X0 hx (hb hby at_87) rfl rfl ?_
    obtain ⟨A0, B0, s0, hA0, hB0, hq0, hb0⟩ := own_am x2 hM0 hd0
    generalize hgq0 : ((((x2 &&& (2147483647 : Int32))).toInt64) % (d0 + (1 : Int64))) = q0 at hq0 hb0 ⊢
    refine o_iload (pc' := 91) X0 hx (hb hby at_89) rfl rfl ?_
    refine o_iconst (pc' := 92) (v := (1 : Int32)) X0 hx (hb hby at_91) rfl rfl ?_
    refine o_icmpF (pc' := 95) X0 hx (hb hby at_92) (XT.ii_le_f (by decide)) rfl ?_
    refine o_iload (pc' := 97) X0 hx (hb hby at_95) rfl rfl ?_
    refine o_ldc (pc' := 99) (v := (2147483647 : Int32)) X0 hx hZ hown (hw _ (List.mem_of_getElem? (i := 0) rfl)) (hb hby at_97) rfl ?_
    refine o_iand (pc' := 100) X0 hx (hb hby at_99)  rfl ?_
    refine o_i2l (pc' := 101) X0 hx (hb hby at_100)  rfl ?_
    refine o_lload (pc' := 103) X0 hx (hb hby at_101) rfl rfl ?_
    refine o_lconst (pc' := 104) (v := (1 : Int64)) X0 hx (hb hby at_103) rfl rfl ?_
    refine o_ladd (pc' := 105) X0 hx (hb hby at_104)  rfl ?_
    refine o_lrem (pc' := 106) X0 hx (hb hby at_105) (own_nz hM1 hd1) rfl ?_
    refine o_goto (pc' := 110) X0 hx (hb hby at_106) (by decide) (by decide) ?_
    refine o_lstore (pc' := 112) (l' := #[.val (.int x0), .val (.long x1), .second, .val (.int x2), .val (.int x3), .val (.int x4), .val (.int (2 : Int32)), .val (.int (((x1 &&& (15 : Int64))).toInt32)), .val (.int ((((XT.ushrL x1 (4 : Int32)) &&& (15 : Int64))).toInt32)), .val (.int (0 : Int32)), .val (.long d0), .second, .val (.long d1), .second, .val (.long d2), .second, .val (.long q0), .second, .val (.long ((((x3 &&& (2147483647 : Int32))).toInt64) % (d1 + (1 : Int64)))), .second, .unset, .unset, .unset, .unset, .unset, .unset, .unset, .unset, .unset, .unset, .unset, .unset, .unset, .unset, .unset, .unset]) X0 hx (hb hby at_110) rfl rfl ?_
    obtain ⟨A1, B1, s1, hA1, hB1, hq1, hb1⟩ := own_am x3 hM1 hd1
    generalize hgq1 : ((((x3 &&& (2147483647 : Int32))).toInt64) % (d1 + (1 : Int64))) = q1 at hq1 hb1 ⊢
    refine o_iload (pc' := 114) X0 hx (hb hby at_112) rfl rfl ?_
    refine o_iconst (pc' := 115) (v := (2 : Int32)) X0 hx (hb hby at_114) rfl rfl ?_
    refine o_icmpT (pc' := 132) X0 hx (hb hby at_115) (XT.ii_le_t (by decide)) (by decide) (by decide) ?_
    refine o_lconst (pc' := 133) (v := (0 : Int64)) X0 hx (hb hby at_132) rfl rfl ?_
    refine o_lstore (pc' := 135) (l' := #[.val (.int x0), .val (.long x1), .second, .val (.int x2), .val (.int x3), .val (.int x4), .val (.int (2 : Int32)), .val (.int (((x1 &&& (15 : Int64))).toInt32)), .val (.int ((((XT.ushrL x1 (4 : Int32)) &&& (15 : Int64))).toInt32)), .val (.int (0 : Int32)), .val (.long d0), .second, .val (.long d1), .second, .val (.long d2), .second, .val (.long q0), .second, .val (.long q1), .second, .val (.long (0 : Int64)), .second, .unset, .unset, .unset, .unset, .unset, .unset, .unset, .unset, .unset, .unset, .unset, .unset, .unset, .unset]) X0 hx (hb hby at_133) rfl rfl ?_
    obtain ⟨A2, B2, s2, hA2, hB2, hq2, hb2, zB2⟩ := own_a0 hM2 hd2
    generalize hgq2 : (0 : Int64) = q2 at hq2 hb2 ⊢
    refine o_iload (pc' := 137) X0 hx (hb hby at_135) rfl rfl ?_
    obtain ⟨T51, h51_, X51, e51, E51, A51, st51⟩ := o_newD (Ls := #[.val (.int x0), .val (.long x1), .second, .val (.int x2), .val (.int x3), .val (.int x4), .val (.int (2 : Int32)), .val (.int (((x1 &&& (15 : Int64))).toInt32)), .val (.int ((((XT.ushrL x1 (4 : Int32)) &&& (15 : Int64))).toInt32)), .val (.int (0 : Int32)), .val (.long d0), .second, .val (.long d1), .second, .val (.long d2), .second, .val (.long q0), .second, .val (.long q1), .second, .val (.long q2), .second, .unset, .unset, .unset, .unset, .unset, .unset, .unset, .unset, .unset, .unset, .unset, .unset, .unset, .unset]) (st := []) (n := (2 : Int32)) X0 hx hZ (hw _ (List.mem_of_getElem? (i := 2) rfl)) e0 (hb hby at_137) (by decide) 2 (by decide) (by decide) (by decide) (by decide) rfl
    obtain ⟨b51, g51⟩ : ∃ z, z = h0.size := ⟨_, rfl⟩
    rw [← g51] at A51 st51
    replace A51 : oDbls Z h51_ b51 [(0 : UInt64), (0 : UInt64)] := A51
    have ge52 : n0 ≤ b51 := by rw [g51]; exact Z0
    have K53 := (Keep.refl h0 []).ext E51
    have Z54 := Nat.le_trans Z0 K53.1
    refine oGo.step (f' := (mkF m 139 #[.val (.int x0), .val (.long x1), .second, .val (.int x2), .val (.int x3), .val (.int x4), .val (.int (2 : Int32)), .val (.int (((x1 &&& (15 : Int64))).toInt32)), .val (.int ((((XT.ushrL x1 (4 : Int32)) &&& (15 : Int64))).toInt32)), .val (.int (0 : Int32)), .val (.long d0), .second, .val (.long d1), .second, .val (.long d2), .second, .val (.long q0), .second, .val (.long q1), .second, .val (.long q2), .second, .unset, .unset, .unset, .unset, .unset, .unset, .unset, .unset, .unset, .unset, .unset, .unset, .unset, .unset] [(.ref b51)])) st51 ?_
    refine o_astore (pc' := 141) (l' := #[.val (.int x0), .val (.long x1), .second, .val (.int x2), .val (.int x3), .val (.int x4), .val (.int (2 : Int32)), .val (.int (((x1 &&& (15 : Int64))).toInt32)), .val (.int ((((XT.ushrL x1 (4 : Int32)) &&& (15 : Int64))).toInt32)), .val (.int (0 : Int32)), .val (.long d0), .second, .val (.long d1), .second, .val (.long d2), .second, .val (.long q0), .second, .val (.long q1), .second, .val (.long q2), .second, .val (.ref b51), .unset, .unset, .unset, .unset, .unset, .unset, .unset, .unset, .unset, .unset, .unset, .unset, .unset]) X51 hx (hb hby at_139) rfl rfl rfl ?_
    refine o_iload (pc' := 143) X51 hx (hb hby at_141) rfl rfl ?_
    obtain ⟨T55, h55_, X55, e55, E55, A55, st55⟩ := o_newD (Ls := #[.val (.int x0), .val (.long x1), .second, .val (.int x2), .val (.int x3), .val (.int x4), .val (.int (2 : Int32)), .val (.int (((x1 &&& (15 : Int64))).toInt32)), .val (.int ((((XT.ushrL x1 (4 : Int32)) &&& (15 : Int64))).toInt32)), .val (.int (0 : Int32)), .val (.long d0), .second, .val (.long d1), .second, .val (.long d2), .second, .val (.long q0), .second, .val (.long q1), .second, .val (.long q2), .second, .val (.ref b51), .unset, .unset, .unset, .unset, .unset, .unset, .unset, .unset, .unset, .unset, .unset, .unset, .unset]) (st := []) (n := (2 : Int32)) X51 hx hZ (hw _ (List.mem_of_getElem? (i := 2) rfl)) e51 (hb hby at_143) (by decide) 2 (by decide) (by decide) (by decide) (by decide) rfl
    obtain ⟨b55, g55⟩ : ∃ z, z = h51_.size := ⟨_, rfl⟩
    rw [← g55] at A55 st55
    replace A55 : oDbls Z h55_ b55 [(0 : UInt64), (0 : UInt64)] := A55
    have ne56 : b51 ≠ b55 := by rw [g55]; exact Nat.ne_of_lt A51.lt
    have ge57 : n0 ≤ b55 := by rw [g55]; exact Z54
    have K58 := (Keep.refl h51_ []).ext E55
    have F59 := A51.keep K58 nin0
    have Z60 := Nat.le_trans Z54 K58.1
    refine oGo.step (f' := (mkF m 145 #[.val (.int x0), .val (.long x1), .second, .val (.int x2), .val (.int x3), .val (.int x4), .val (.int (2 : Int32)), .val (.int (((x1 &&& (15 : Int64))).toInt32)), .val (.int ((((XT.ushrL x1 (4 : Int32)) &&& (15 : Int64))).toInt32)), .val (.int (0 : Int32)), .val (.long d0), .second, .val (.long d1), .second, .val (.long d2), .second, .val (.long q0), .second, .val (.long q1), .second, .val (.long q2), .second, .val (.ref b51), .unset, .unset, .unset, .unset, .unset, .unset, .unset, .unset, .unset, .unset, .unset, .unset, .unset] [(.ref b55)])) st55 ?_
    refine o_astore (pc' := 147) (l' := #[.val (.int x0), .val (.long x1), .second, .val (.int x2), .val (.int x3), .val (.int x4), .val (.int (2 : Int32)), .val (.int (((x1 &&& (15 : Int64))).toInt32)), .val (.int ((((XT.ushrL x1 (4 : Int32)) &&& (15 : Int64))).toInt32)), .val (.int (0 : Int32)), .val (.long d0), .second, .val (.long d1), .second, .val (.long d2), .second, .val (.long q0), .second, .val (.long q1), .second, .val (.long q2), .second, .val (.ref b51), .val (.ref b55), .unset, .unset, .unset, .unset, .unset, .unset, .unset, .unset, .unset, .unset, .unset, .unset]) X55 hx (hb hby at_145) rfl rfl rfl ?_
    refine o_iload (pc' := 149) X55 hx (hb hby at_147) rfl rfl ?_
    refine o_iconst (pc' := 150) (v := (1 : Int32)) X55 hx (hb hby at_149) rfl rfl ?_
    refine o_iadd (pc' := 151) X55 hx (hb hby at_150)  rfl ?_
    show oGo p e below (oG s (fun v h L => v = some (.int 1) ∧ Fr n0 L) room_1.cells room_1.slots) T55 (mkF m 151 #[.val (.int x0), .val (.long x1), .second, .val (.int x2), .val (.int x3), .val (.int x4), .val (.int (2 : Int32)), .val (.int (((x1 &&& (15 : Int64))).toInt32)), .val (.int ((((XT.ushrL x1 (4 : Int32)) &&& (15 : Int64))).toInt32)), .val (.int (0 : Int32)), .val (.long d0), .second, .val (.long d1), .second, .val (.long d2), .second, .val (.long q0), .second, .val (.long q1), .second, .val (.long q2), .second, .val (.ref b51), .val (.ref b55), .unset, .unset, .unset, .unset, .unset, .unset, .unset, .unset, .unset, .unset, .unset, .unset] [(.int (3 : Int32))])
    obtain ⟨T61, h61_, X61, e61, E61, A61, st61⟩ := o_newD (Ls := #[.val (.int x0), .val (.long x1), .second, .val (.int x2), .val (.int x3), .val (.int x4), .val (.int (2 : Int32)), .val (.int (((x1 &&& (15 : Int64))).toInt32)), .val (.int ((((XT.ushrL x1 (4 : Int32)) &&& (15 : Int64))).toInt32)), .val (.int (0 : Int32)), .val (.long d0), .second, .val (.long d1), .second, .val (.long d2), .second, .val (.long q0), .second, .val (.long q1), .second, .val (.long q2), .second, .val (.ref b51), .val (.ref b55), .unset, .unset, .unset, .unset, .unset, .unset, .unset, .unset, .unset, .unset, .unset, .unset]) (st := []) (n := (3 : Int32)) X55 hx hZ (hw _ (List.mem_of_getElem? (i := 2) rfl)) e55 (hb hby at_151) (by decide) 3 (by decide) (by decide) (by decide) (by decide) rfl
    obtain ⟨b61, g61⟩ : ∃ z, z = h55_.size := ⟨_, rfl⟩
    rw [← g61] at A61 st61
    replace A61 : oDbls Z h61_ b61 [(0 : UInt64), (0 : UInt64), (0 : UInt64)] := A61
    have ne62 : b51 ≠ b61 := by rw [g61]; exact Nat.ne_of_lt F59.lt
    have ne63 : b55 ≠ b61 := by rw [g61]; exact Nat.ne_of_lt A55.lt
    have ge64 : n0 ≤ b61 := by rw [g61]; exact Z60
    have K65 := (Keep.refl h55_ []).ext E61
    have F66 := F59.keep K65 nin0
    have F67 := A55.keep K65 nin0
    have Z68 := Nat.le_trans Z60 K65.1
    refine oGo.step (f' := (mkF m 153 #[.val (.int x0), .val (.long x1), .second, .val (.int x2), .val (.int x3), .val (.int x4), .val (.int (2 : Int32)), .val (.int (((x1 &&& (15 : Int64))).toInt32)), .val (.int ((((XT.ushrL x1 (4 : Int32)) &&& (15 : Int64))).toInt32)), .val (.int (0 : Int32)), .val (.long d0), .second, .val (.long d1), .second, .val (.long d2), .second, .val (.long q0), .second, .val (.long q1), .second, .val (.long q2), .second, .val (.ref b51), .val (.ref b55), .unset, .unset, .unset, .unset, .unset, .unset, .unset, .unset, .unset, .unset, .unset, .unset] [(.ref b61)])) st61 ?_
    refine o_astore (pc' := 155) (l' := #[.val (.int x0), .val (.long x1), .second, .val (.int x2), .val (.int x3), .val (.int x4), .val (.int (2 : Int32)), .val (.int (((x1 &&& (15 : Int64))).toInt32)), .val (.int ((((XT.ushrL x1 (4 : Int32)) &&& (15 : Int64))).toInt32)), .val (.int (0 : Int32)), .val (.long d0), .second, .val (.long d1), .second, .val (.long d2), .second, .val (.long q0), .second, .val (.long q1), .second, .val (.long q2), .second, .val (.ref b51), .val (.ref b55), .val (.ref b61), .unset, .unset, .unset, .unset, .unset, .unset, .unset, .unset, .unset, .unset, .unset]) X61 hx (hb hby at_153) rfl rfl rfl ?_
    refine o_aload (pc' := 157) X61 hx (hb hby at_155) rfl rfl rfl ?_
    refine o_iconst (pc' := 158) (v := (0 : Int32)) X61 hx (hb hby at_157) rfl rfl ?_
    refine o_lload (pc' := 160) X61 hx (hb hby at_158) rfl rfl ?_
    refine o_l2d (pc' := 161) (v := (dy A0 0)) X61 hx (hb hby at_160) (dy_l2d hq0) rfl ?_
    obtain ⟨T69, h69_, X69, e69, W69, st69⟩ := o_dastore (x := (dy A0 0)) (j := (0 : Int32)) (Ls := #[.val (.int x0), .val (.long x1), .second, .val (.int x2), .val (.int x3), .val (.int x4), .val (.int (2 : Int32)), .val (.int (((x1 &&& (15 : Int64))).toInt32)), .val (.int ((((XT.ushrL x1 (4 : Int32)) &&& (15 : Int64))).toInt32)), .val (.int (0 : Int32)), .val (.long d0), .second, .val (.long d1), .second, .val (.long d2), .second, .val (.long q0), .second, .val (.long q1), .second, .val (.long q2), .second, .val (.ref b51), .val (.ref b55), .val (.ref b61), .unset, .unset, .unset, .unset, .unset, .unset, .unset, .unset, .unset, .unset, .unset]) (st := []) X61 hx hZ e61 F66 (hb hby at_161) (by decide) (show _ < 2 by decide) rfl
    refine oGo.step (f' := (mkF m 162 #[.val (.int x0), .val (.long x1), .second, .val (.int x2), .val (.int x3), .val (.int x4), .val (.int (2 : Int32)), .val (.int (((x1 &&& (15 : Int64))).toInt32)), .val (.int ((((XT.ushrL x1 (4 : Int32)) &&& (15 : Int64))).toInt32)), .val (.int (0 : Int32)), .val (.long d0), .second, .val (.long d1), .second, .val (.long d2), .second, .val (.long q0), .second, .val (.long q1), .second, .val (.long q2), .second, .val (.ref b51), .val (.ref b55), .val (.ref b61), .unset, .unset, .unset, .unset, .unset, .unset, .unset, .unset, .unset, .unset, .unset] [])) st69 ?_
    have N69 := Fr.snoc X69 N0 ge52
    have F70 := F66.set W69
    replace F70 : oDbls Z h69_ b51 [(dy A0 0), (0 : UInt64)] := F70
    have K71 := Keep.of_wr W69
    have F72 := F67.keep K71 (ninS (Ne.symm ne56) nin0)
    have F73 := A61.keep K71 (ninS (Ne.symm ne62) nin0)
    have Z74 := Nat.le_trans Z68 K71.1
    refine o_aload (pc' := 164) X69 hx (hb hby at_162) rfl rfl rfl ?_
    refine o_iconst (pc' := 165) (v := (0 : Int32)) X69 hx (hb hby at_164) rfl rfl ?_
    refine o_lload (pc' := 167) X69 hx (hb hby at_165) rfl rfl ?_
    refine o_lload (pc' := 169) X69 hx (hb hby at_167) rfl rfl ?_
    refine o_lsub (pc' := 170) X69 hx (hb hby at_169)  rfl ?_
    refine o_l2d (pc' := 171) (v := (dy B0 0)) X69 hx (hb hby at_170) (dy_l2d hb0) rfl ?_
    obtain ⟨T75, h75_, X75, e75, W75, st75⟩ := o_dastore (x := (dy B0 0)) (j := (0 : Int32)) (Ls := #[.val (.int x0), .val (.long x1), .second, .val (.int x2), .val (.int x3), .val (.int x4), .val (.int (2 : Int32)), .val (.int (((x1 &&& (15 : Int64))).toInt32)), .val (.int ((((XT.ushrL x1 (4 : Int32)) &&& (15 : Int64))).toInt32)), .val (.int (0 : Int32)), .val (.long d0), .second, .val (.long d1), .second, .val (.long d2), .second, .val (.long q0), .second, .val (.long q1), .second, .val (.long q2), .second, .val (.ref b51), .val (.ref b55), .val (.ref b61), .unset, .unset, .unset, .unset, .unset, .unset, .unset, .unset, .unset, .unset, .unset]) (st := []) X69 hx hZ e69 F72 (hb hby at_171) (by decide) (show _ < 2 by decide) rfl
    refine oGo.step (f' := (mkF m 172 #[.val (.int x0), .val (.long x1), .second, .val (.int x2), .val (.int x3), .val (.int x4), .val (.int (2 : Int32)), .val (.int (((x1 &&& (15 : Int64))).toInt32)), .val (.int ((((XT.ushrL x1 (4 : Int32)) &&& (15 : Int64))).toInt32)), .val (.int (0 : Int32)), .val (.long d0), .second, .val (.long d1), .second, .val (.long d2), .second, .val (.long q0), .second, .val (.long q1), .second, .val (.long q2), .second, .val (.ref b51), .val (.ref b55), .val (.ref b61), .unset, .unset, .unset, .unset, .unset, .unset, .unset, .unset, .unset, .unset, .unset] [])) st75 ?_
    have N75 := Fr.snoc X75 N69 ge57
    have F76 := F72.set W75
    replace F76 : oDbls Z h75_ b55 [(dy B0 0), (0 : UInt64)] := F76
    have K77 := Keep.of_wr W75
    have F78 := F73.keep K77 (ninS (Ne.symm ne63) nin0)
    have F79 := F70.keep K77 (ninS ne56 nin0)
    have Z80 := Nat.le_trans Z74 K77.1
    refine o_aload (pc' := 174) X75 hx (hb hby at_172) rfl rfl rfl ?_
    refine o_iconst (pc' := 175) (v := (0 : Int32)) X75 hx (hb hby at_174) rfl rfl ?_
    refine o_ldc2d (pc' := 178) (b := (4619567317775286272 : UInt64)) X75 hx hZ hown (hw _ (List.mem_of_getElem? (i := 3) rfl)) (hb hby at_175) rfl ?_
    obtain ⟨T81, h81_, X81, e81, W81, st81⟩ := o_dastore (x := (4619567317775286272 : UInt64)) (j := (0 : Int32)) (Ls := #[.val (.int x0), .val (.long x1), .second, .val (.int x2), .val (.int x3), .val (.int x4), .val (.int (2 : Int32)), .val (.int (((x1 &&& (15 : Int64))).toInt32)), .val (.int ((((XT.ushrL x1 (4 : Int32)) &&& (15 : Int64))).toInt32)), .val (.int (0 : Int32)), .val (.long d0), .second, .val (.long d1), .second, .val (.long d2), .second, .val (.long q0), .second, .val (.long q1), .second, .val (.long q2), .second, .val (.ref b51), .val (.ref b55), .val (.ref b61), .unset, .unset, .unset, .unset, .unset, .unset, .unset, .unset, .unset, .unset, .unset]) (st := []) X75 hx hZ e75 F78 (hb hby at_178) (by decide) (show _ < 3 by decide) rfl
    refine oGo.step (f' := (mkF m 179 #[.val (.int x0), .val (.long x1), .second, .val (.int x2), .val (.int x3), .val (.int x4), .val (.int (2 : Int32)), .val (.int (((x1 &&& (15 : Int64))).toInt32)), .val (.int ((((XT.ushrL x1 (4 : Int32)) &&& (15 : Int64))).toInt32)), .val (.int (0 : Int32)), .val (.long d0), .second, .val (.long d1), .second, .val (.long d2), .second, .val (.long q0), .second, .val (.long q1), .second, .val (.long q2), .second, .val (.ref b51), .val (.ref b55), .val (.ref b61), .unset, .unset, .unset, .unset, .unset, .unset, .unset, .unset, .unset, .unset, .unset] [])) st81 ?_
    have N81 := Fr.snoc X81 N75 ge64
    have F82 := F78.set W81
    replace F82 : oDbls Z h81_ b61 [(4619567317775286272 : UInt64), (0 : UInt64), (0 : UInt64)] := F82
    have K83 := Keep.of_wr W81
    have F84 := F79.keep K83 (ninS ne62 nin0)
    have F85 := F76.keep K83 (ninS ne63 nin0)
    have Z86 := Nat.le_trans Z80 K83.1
    refine o_aload (pc' := 181) X81 hx (hb hby at_179) rfl rfl rfl ?_
    refine o_iconst (pc' := 182) (v := (1 : Int32)) X81 hx (hb hby at_181) rfl rfl ?_
    refine o_ldc2d (pc' := 185) (b := (4619567317775286272 : UInt64)) X81 hx hZ hown (hw _ (List.mem_of_getElem? (i := 3) rfl)) (hb hby at_182) rfl ?_
    obtain ⟨T87, h87_, X87, e87, W87, st87⟩ := o_dastore (x := (4619567317775286272 : UInt64)) (j := (1 : Int32)) (Ls := #[.val (.int x0), .val (.long x1), .second, .val (.int x2), .val (.int x3), .val (.int x4), .val (.int (2 : Int32)), .val (.int (((x1 &&& (15 : Int64))).toInt32)), .val (.int ((((XT.ushrL x1 (4 : Int32)) &&& (15 : Int64))).toInt32)), .val (.int (0 : Int32)), .val (.long d0), .second, .val (.long d1), .second, .val (.long d2), .second, .val (.long q0), .second, .val (.long q1), .second, .val (.long q2), .second, .val (.ref b51), .val (.ref b55), .val (.ref b61), .unset, .unset, .unset, .unset, .unset, .unset, .unset, .unset, .unset, .unset, .unset]) (st := []) X81 hx hZ e81 F82 (hb hby at_185) (by decide) (show _ < 3 by decide) rfl
    refine oGo.step (f' := (mkF m 186 #[.val (.int x0), .val (.long x1), .second, .val (.int x2), .val (.int x3), .val (.int x4), .val (.int (2 : Int32)), .val (.int (((x1 &&& (15 : Int64))).toInt32)), .val (.int ((((XT.ushrL x1 (4 : Int32)) &&& (15 : Int64))).toInt32)), .val (.int (0 : Int32)), .val (.long d0), .second, .val (.long d1), .second, .val (.long d2), .second, .val (.long q0), .second, .val (.long q1), .second, .val (.long q2), .second, .val (.ref b51), .val (.ref b55), .val (.ref b61), .unset, .unset, .unset, .unset, .unset, .unset, .unset, .unset, .unset, .unset, .unset] [])) st87 ?_
    have N87 := Fr.snoc X87 N81 ge64
    have F88 := F82.set W87
    replace F88 : oDbls Z h87_ b61 [(4619567317775286272 : UInt64), (4619567317775286272 : UInt64), (0 : UInt64)] := F88
    have K89 := Keep.of_wr W87
    have F90 := F84.keep K89 (ninS ne62 nin0)
    have F91 := F85.keep K89 (ninS ne63 nin0)
    have Z92 := Nat.le_trans Z86 K89.1
    refine o_iload (pc' := 188) X87 hx (hb hby at_186) rfl rfl ?_
    refine o_iconst (pc' := 189) (v := (1 : Int32)) X87 hx (hb hby at_188) rfl rfl ?_
    refine o_icmpF (pc' := 192) X87 hx (hb hby at_189) (XT.ii_le_f (by decide)) rfl ?_
    refine o_aload (pc' := 194) X87 hx (hb hby at_192) rfl rfl rfl ?_
    refine o_iconst (pc' := 195) (v := (1 : Int32)) X87 hx (hb hby at_194) rfl rfl ?_
    refine o_lload (pc' := 197) X87 hx (hb hby at_195) rfl rfl ?_
    refine o_l2d (pc' := 198) (v := (dy A1 0)) X87 hx (hb hby at_197) (dy_l2d hq1) rfl ?_
    obtain ⟨T93, h93_, X93, e93, W93, st93⟩ := o_dastore (x := (dy A1 0)) (j := (1 : Int32)) (Ls := #[.val (.int x0), .val (.long x1), .second, .val (.int x2), .val (.int x3), .val (.int x4), .val (.int (2 : Int32)), .val (.int (((x1 &&& (15 : Int64))).toInt32)), .val (.int ((((XT.ushrL x1 (4 : Int32)) &&& (15 : Int64))).toInt32)), .val (.int (0 : Int32)), .val (.long d0), .second, .val (.long d1), .second, .val (.long d2), .second, .val (.long q0), .second, .val (.long q1), .second, .val (.long q2), .second, .val (.ref b51), .val (.ref b55), .val (.ref b61), .unset, .unset, .unset, .unset, .unset, .unset, .unset, .unset, .unset, .unset, .unset]) (st := []) X87 hx hZ e87 F90 (hb hby at_198) (by decide) (show _ < 2 by decide) rfl
    refine oGo.step (f' := (mkF m 199 #[.val (.int x0), .val (.long x1), .second, .val (.int x2), .val (.int x3), .val (.int x4), .val (.int (2 : Int32)), .val (.int (((x1 &&& (15 : Int64))).toInt32)), .val (.int ((((XT.ushrL x1 (4 : Int32)) &&& (15 : Int64))).toInt32)), .val (.int (0 : Int32)), .val (.long d0), .second, .val (.long d1), .second, .val (.long d2), .second, .val (.long q0), .second, .val (.long q1), .second, .val (.long q2), .second, .val (.ref b51), .val (.ref b55), .val (.ref b61), .unset, .unset, .unset, .unset, .unset, .unset, .unset, .unset, .unset, .unset, .unset] [])) st93 ?_
    have N93 := Fr.snoc X93 N87 ge52
    have F94 := F90.set W93
    replace F94 : oDbls Z h93_ b51 [(dy A0 0), (dy A1 0)] := F94
    have K95 := Keep.of_wr W93
    have F96 := F91.keep K95 (ninS (Ne.symm ne56) nin0)
    have F97 := F88.keep K95 (ninS (Ne.symm ne62) nin0)
    have Z98 := Nat.le_trans Z92 K95.1
    refine o_aload (pc' := 201) X93 hx (hb hby at_199) rfl rfl rfl ?_
    refine o_iconst (pc' := 202) (v := (1 : Int32)) X93 hx (hb hby at_201) rfl rfl ?_
    refine o_lload (pc' := 204) X93 hx (hb hby at_202) rfl rfl ?_
    refine o_lload (pc' := 206) X93 hx (hb hby at_204) rfl rfl ?_
    refine o_lsub (pc' := 207) X93 hx (hb hby at_206)  rfl ?_
    refine o_l2d (pc' := 208) (v := (dy B1 0)) X93 hx (hb hby at_207) (dy_l2d hb1) rfl ?_
    obtain ⟨T99, h99_, X99, e99, W99, st99⟩ := o_dastore (x := (dy B1 0)) (j := (1 : Int32)) (Ls := #[.val (.int x0), .val (.long x1), .second, .val (.int x2), .val (.int x3), .val (.int x4), .val (.int (2 : Int32)), .val (.int (((x1 &&& (15 : Int64))).toInt32)), .val (.int ((((XT.ushrL x1 (4 : Int32)) &&& (15 : Int64))).toInt32)), .val (.int (0 : Int32)), .val (.long d0), .second, .val (.long d1), .second, .val (.long d2), .second, .val (.long q0), .second, .val (.long q1), .second, .val (.long q2), .second, .val (.ref b51), .val (.ref b55), .val (.ref b61), .unset, .unset, .unset, .unset, .unset, .unset, .unset, .unset, .unset, .unset, .unset]) (st := []) X93 hx hZ e93 F96 (hb hby at_208) (by decide) (show _ < 2 by decide) rfl
    refine oGo.step (f' := (mkF m 209 #[.val (.int x0), .val (.long x1), .second, .val (.int x2), .val (.int x3), .val (.int x4), .val (.int (2 : Int32)), .val (.int (((x1 &&& (15 : Int64))).toInt32)), .val (.int ((((XT.ushrL x1 (4 : Int32)) &&& (15 : Int64))).toInt32)), .val (.int (0 : Int32)), .val (.long d0), .second, .val (.long d1), .second, .val (.long d2), .second, .val (.long q0), .second, .val (.long q1), .second, .val (.long q2), .second, .val (.ref b51), .val (.ref b55), .val (.ref b61), .unset, .unset, .unset, .unset, .unset, .unset, .unset, .unset, .unset, .unset, .unset] [])) st99 ?_
    have N99 := Fr.snoc X99 N93 ge57
    have F100 := F96.set W99
    replace F100 : oDbls Z h99_ b55 [(dy B0 0), (dy B1 0)] := F100
    have K101 := Keep.of_wr W99
    have F102 := F97.keep K101 (ninS (Ne.symm ne63) nin0)
    have F103 := F94.keep K101 (ninS ne56 nin0)
    have Z104 := Nat.le_trans Z98 K101.1
    refine o_aload (pc' := 211) X99 hx (hb hby at_209) rfl rfl rfl ?_
    refine o_iconst (pc' := 212) (v := (2 : Int32)) X99 hx (hb hby at_211) rfl rfl ?_
    refine o_ldc2d (pc' := 215) (b := (4619567317775286272 : UInt64)) X99 hx hZ hown (hw _ (List.mem_of_getElem? (i := 3) rfl)) (hb hby at_212) rfl ?_
    obtain ⟨T105, h105_, X105, e105, W105, st105⟩ := o_dastore (x := (4619567317775286272 : UInt64)) (j := (2 : Int32)) (Ls := #[.val (.int x0), .val (.long x1), .second, .val (.int x2), .val (.int x3), .val (.int x4), .val (.int (2 : Int32)), .val (.int (((x1 &&& (15 : Int64))).toInt32)), .val (.int ((((XT.ushrL x1 (4 : Int32)) &&& (15 : Int64))).toInt32)), .val (.int (0 : Int32)), .val (.long d0), .second, .val (.long d1), .second, .val (.long d2), .second, .val (.long q0), .second, .val (.long q1), .second, .val (.long q2), .second, .val (.ref b51), .val (.ref b55), .val (.ref b61), .unset, .unset, .unset, .unset, .unset, .unset, .unset, .unset, .unset, .unset, .unset]) (st := []) X99 hx hZ e99 F102 (hb hby at_215) (by decide) (show _ < 3 by decide) rfl
    refine oGo.step (f' := (mkF m 216 #[.val (.int x0), .val (.long x1), .second, .val (.int x2), .val (.int x3), .val (.int x4), .val (.int (2 : Int32)), .val (.int (((x1 &&& (15 : Int64))).toInt32)), .val (.int ((((XT.ushrL x1 (4 : Int32)) &&& (15 : Int64))).toInt32)), .val (.int (0 : Int32)), .val (.long d0), .second, .val (.long d1), .second, .val (.long d2), .second, .val (.long q0), .second, .val (.long q1), .second, .val (.long q2), .second, .val (.ref b51), .val (.ref b55), .val (.ref b61), .unset, .unset, .unset, .unset, .unset, .unset, .unset, .unset, .unset, .unset, .unset] [])) st105 ?_
    have N105 := Fr.snoc X105 N99 ge64
    have F106 := F102.set W105
    replace F106 : oDbls Z h105_ b61 [(4619567317775286272 : UInt64), (4619567317775286272 : UInt64), (4619567317775286272 : UInt64)] := F106
    have K107 := Keep.of_wr W105
    have F108 := F103.keep K107 (ninS ne62 nin0)
    have F109 := F100.keep K107 (ninS ne63 nin0)
    have Z110 := Nat.le_trans Z104 K107.1
    refine o_iload (pc' := 218) X105 hx (hb hby at_216) rfl rfl ?_
    refine o_iconst (pc' := 219) (v := (2 : Int32)) X105 hx (hb hby at_218) rfl rfl ?_
    refine o_icmpT (pc' := 246) X105 hx (hb hby at_219) (XT.ii_le_t (by decide)) (by decide) (by decide) ?_
    refine o_aload (pc' := 248) X105 hx (hb hby at_246) rfl rfl rfl ?_
    refine o_aload (pc' := 250) X105 hx (hb hby at_248) rfl rfl rfl ?_
    refine o_aload (pc' := 252) X105 hx (hb hby at_250) rfl rfl rfl ?_
    obtain ⟨r111, T111, L111, X111, hq111, st111⟩ := o_callS X105 hx hZ hown (hw _ (List.mem_of_getElem? (i := 4) rfl)) (hw _ (List.mem_of_getElem? (i := 5) rfl)) (hw _ (List.mem_of_getElem? (i := 6) rfl)) (hw _ (List.mem_of_getElem? (i := 7) rfl)) (by decide) (rm1_2 l Z a0 hw b51 b55 b61 A0 A1 B0 B1 M0 M1 (4619567317775286272 : UInt64) (4619567317775286272 : UInt64) (4619567317775286272 : UInt64) h105_ n0 Z110 F108 F109 F106 ge64 ne62 ne63 s0 hM0 hA0 hB0 s1 hM1 hA1 hB1) e105 (pc' := 255) (Ls := #[.val (.int x0), .val (.long x1), .second, .val (.int x2), .val (.int x3), .val (.int x4), .val (.int (2 : Int32)), .val (.int (((x1 &&& (15 : Int64))).toInt32)), .val (.int ((((XT.ushrL x1 (4 : Int32)) &&& (15 : Int64))).toInt32)), .val (.int (0 : Int32)), .val (.long d0), .second, .val (.long d1), .second, .val (.long d2), .second, .val (.long q0), .second, .val (.long q1), .second, .val (.long q2), .second, .val (.ref b51), .val (.ref b55), .val (.ref b61), .unset, .unset, .unset, .unset, .unset, .unset, .unset, .unset, .unset, .unset, .unset]) (by rw [hml]; rfl) [(.ref b51), (.ref b55), (.ref b61)] [] rfl pd0 rfl rfl 0 (Nat.le_of_eq rfl) (hb hby at_252) rfl (by decide) (by decide) (by decide) (by decide)
    obtain ⟨rfl, N111, Kc111, W111_⟩ := hq111
    refine oGo.step (f' := (mkF m 255 #[.val (.int x0), .val (.long x1), .second, .val (.int x2), .val (.int x3), .val (.int x4), .val (.int (2 : Int32)), .val (.int (((x1 &&& (15 : Int64))).toInt32)), .val (.int ((((XT.ushrL x1 (4 : Int32)) &&& (15 : Int64))).toInt32)), .val (.int (0 : Int32)), .val (.long d0), .second, .val (.long d1), .second, .val (.long d2), .second, .val (.long q0), .second, .val (.long q1), .second, .val (.long q2), .second, .val (.ref b51), .val (.ref b55), .val (.ref b61), .unset, .unset, .unset, .unset, .unset, .unset, .unset, .unset, .unset, .unset, .unset] [])) st111 ?_
    have N111_ := Fr.app N105 N111
    have K112 := Kc111
    have F113 := F108.keep K112 (ninS ne62 nin0)
    have F114 := F109.keep K112 (ninS ne63 nin0)
    have Z116 := Nat.le_trans Z110 K112.1
    have X111 := o_flat X111 rfl rfl
    refine o_lload (pc' := 257) X111 hx (hb hby at_255) rfl rfl ?_
    refine o_lload (pc' := 259) X111 hx (hb hby at_257) rfl rfl ?_
    refine o_lmul (pc' := 260) X111 hx (hb hby at_259)  rfl ?_
    refine o_lload (pc' := 262) X111 hx (hb hby at_260) rfl rfl ?_
    refine o_lmul (pc' := 263) X111 hx (hb hby at_262)  rfl ?_
    have hSSv := own_m3 hd0 (pw M0 hM0) hd1 (pw M1 hM1) hd2 (pw M2 hM2)
    have hSS := own_p3 (pw M0 hM0) (pw M1 hM1) (pw M2 hM2)
    obtain ⟨SS, hSSe⟩ : ∃ z, z = 2 ^ M0 * 2 ^ M1 * 2 ^ M2 := ⟨_, rfl⟩
    rw [← hSSe] at hSSv hSS
    refine o_l2d (pc' := 264) (v := (dy SS 0)) X111 hx (hb hby at_263) (dy_l2d hSSv) rfl ?_
    refine o_dstore (pc' := 266) (l' := #[.val (.int x0), .val (.long x1), .second, .val (.int x2), .val (.int x3), .val (.int x4), .val (.int (2 : Int32)), .val (.int (((x1 &&& (15 : Int64))).toInt32)), .val (.int ((((XT.ushrL x1 (4 : Int32)) &&& (15 : Int64))).toInt32)), .val (.int (0 : Int32)), .val (.long d0), .second, .val (.long d1), .second, .val (.long d2), .second, .val (.long q0), .second, .val (.long q1), .second, .val (.long q2), .second, .val (.ref b51), .val (.ref b55), .val (.ref b61), .val (.double (dy SS 0)), .second, .unset, .unset, .unset, .unset, .unset, .unset, .unset, .unset, .unset]) X111 hx (hb hby at_264) rfl rfl ?_
    refine o_lload (pc' := 268) X111 hx (hb hby at_266) rfl rfl ?_
    refine o_lload (pc' := 270) X111 hx (hb hby at_268) rfl rfl ?_
    refine o_lmul (pc' := 271) X111 hx (hb hby at_270)  rfl ?_
    refine o_lload (pc' := 273) X111 hx (hb hby at_271) rfl rfl ?_
    refine o_lmul (pc' := 274) X111 hx (hb hby at_273)  rfl ?_
    refine o_lstore (pc' := 276) (l' := #[.val (.int x0), .val (.long x1), .second, .val (.int x2), .val (.int x3), .val (.int x4), .val (.int (2 : Int32)), .val (.int (((x1 &&& (15 : Int64))).toInt32)), .val (.int ((((XT.ushrL x1 (4 : Int32)) &&& (15 : Int64))).toInt32)), .val (.int (0 : Int32)), .val (.long d0), .second, .val (.long d1), .second, .val (.long d2), .second, .val (.long q0), .second, .val (.long q1), .second, .val (.long q2), .second, .val (.ref b51), .val (.ref b55), .val (.ref b61), .val (.double (dy SS 0)), .second, .val (.long ((q0 * d1) * d2)), .second, .unset, .unset, .unset, .unset, .unset, .unset, .unset]) X111 hx (hb hby at_274) rfl rfl ?_
    refine o_lload (pc' := 278) X111 hx (hb hby at_276) rfl rfl ?_
    refine o_lload (pc' := 280) X111 hx (hb hby at_278) rfl rfl ?_
    refine o_lsub (pc' := 281) X111 hx (hb hby at_280)  rfl ?_
    refine o_lload (pc' := 283) X111 hx (hb hby at_281) rfl rfl ?_
    refine o_lmul (pc' := 284) X111 hx (hb hby at_283)  rfl ?_
    refine o_lload (pc' := 286) X111 hx (hb hby at_284) rfl rfl ?_
    refine o_lmul (pc' := 287) X111 hx (hb hby at_286)  rfl ?_
    refine o_lstore (pc' := 289) (l' := #[.val (.int x0), .val (.long x1), .second, .val (.int x2), .val (.int x3), .val (.int x4), .val (.int (2 : Int32)), .val (.int (((x1 &&& (15 : Int64))).toInt32)), .val (.int ((((XT.ushrL x1 (4 : Int32)) &&& (15 : Int64))).toInt32)), .val (.int (0 : Int32)), .val (.long d0), .second, .val (.long d1), .second, .val (.long d2), .second, .val (.long q0), .second, .val (.long q1), .second, .val (.long q2), .second, .val (.ref b51), .val (.ref b55), .val (.ref b61), .val (.double (dy SS 0)), .second, .val (.long ((q0 * d1) * d2)), .second, .val (.long (((d0 - q0) * q1) * d2)), .second, .unset, .unset, .unset, .unset, .unset]) X111 hx (hb hby at_287) rfl rfl ?_
    refine o_lload (pc' := 291) X111 hx (hb hby at_289) rfl rfl ?_
    refine o_lload (pc' := 293) X111 hx (hb hby at_291) rfl rfl ?_
    refine o_lsub (pc' := 294) X111 hx (hb hby at_293)  rfl ?_
    refine o_lload (pc' := 296) X111 hx (hb hby at_294) rfl rfl ?_
    refine o_lload (pc' := 298) X111 hx (hb hby at_296) rfl rfl ?_
    refine o_lsub (pc' := 299) X111 hx (hb hby at_298)  rfl ?_
    refine o_lmul (pc' := 300) X111 hx (hb hby at_299)  rfl ?_
    refine o_lload (pc' := 302) X111 hx (hb hby at_300) rfl rfl ?_
    refine o_lmul (pc' := 303) X111 hx (hb hby at_302)  rfl ?_
    refine o_lstore (pc' := 305) (l' := #[.val (.int x0), .val (.long x1), .second, .val (.int x2), .val (.int x3), .val (.int x4), .val (.int (2 : Int32)), .val (.int (((x1 &&& (15 : Int64))).toInt32)), .val (.int ((((XT.ushrL x1 (4 : Int32)) &&& (15 : Int64))).toInt32)), .val (.int (0 : Int32)), .val (.long d0), .second, .val (.long d1), .second, .val (.long d2), .second, .val (.long q0), .second, .val (.long q1), .second, .val (.long q2), .second, .val (.ref b51), .val (.ref b55), .val (.ref b61), .val (.double (dy SS 0)), .second, .val (.long ((q0 * d1) * d2)), .second, .val (.long (((d0 - q0) * q1) * d2)), .second, .val (.long (((d0 - q0) * (d1 - q1)) * q2)), .second, .unset, .unset, .unset]) X111 hx (hb hby at_303) rfl rfl ?_
    refine o_lload (pc' := 307) X111 hx (hb hby at_305) rfl rfl ?_
    refine o_lload (pc' := 309) X111 hx (hb hby at_307) rfl rfl ?_
    refine o_lsub (pc' := 310) X111 hx (hb hby at_309)  rfl ?_
    refine o_lload (pc' := 312) X111 hx (hb hby at_310) rfl rfl ?_
    refine o_lload (pc' := 314) X111 hx (hb hby at_312) rfl rfl ?_
    refine o_lsub (pc' := 315) X111 hx (hb hby at_314)  rfl ?_
    refine o_lmul (pc' := 316) X111 hx (hb hby at_315)  rfl ?_
    refine o_lload (pc' := 318) X111 hx (hb hby at_316) rfl rfl ?_
    refine o_lload (pc' := 320) X111 hx (hb hby at_318) rfl rfl ?_
    refine o_lsub (pc' := 321) X111 hx (hb hby at_320)  rfl ?_
    refine o_lmul (pc' := 322) X111 hx (hb hby at_321)  rfl ?_
    refine o_lstore (pc' := 324) (l' := #[.val (.int x0), .val (.long x1), .second, .val (.int x2), .val (.int x3), .val (.int x4), .val (.int (2 : Int32)), .val (.int (((x1 &&& (15 : Int64))).toInt32)), .val (.int ((((XT.ushrL x1 (4 : Int32)) &&& (15 : Int64))).toInt32)), .val (.int (0 : Int32)), .val (.long d0), .second, .val (.long d1), .second, .val (.long d2), .second, .val (.long q0), .second, .val (.long q1), .second, .val (.long q2), .second, .val (.ref b51), .val (.ref b55), .val (.ref b61), .val (.double (dy SS 0)), .second, .val (.long ((q0 * d1) * d2)), .second, .val (.long (((d0 - q0) * q1) * d2)), .second, .val (.long (((d0 - q0) * (d1 - q1)) * q2)), .second, .val (.long (((d0 - q0) * (d1 - q1)) * (d2 - q2))), .second, .unset]) X111 hx (hb hby at_322) rfl rfl ?_
    refine o_aload (pc' := 326) X111 hx (hb hby at_324) rfl rfl rfl ?_
    refine o_iconst (pc' := 327) (v := (0 : Int32)) X111 hx (hb hby at_326) rfl rfl ?_
    refine o_daload (pc' := 328) (v := (dy (1 * A0) (0 + M0))) X111 hx hZ (rfl : T111.heap = _) W111_ (hb hby at_327) (by decide) rfl rfl ?_
    refine o_dload (pc' := 330) X111 hx (hb hby at_328) rfl rfl ?_
    refine o_lload (pc' := 332) X111 hx (hb hby at_330) rfl rfl ?_
    obtain ⟨r117, T117, L117, X117, hq117, st117⟩ := o_callS X111 hx hZ hown (hw _ (List.mem_of_getElem? (i := 8) rfl)) (hw _ (List.mem_of_getElem? (i := 9) rfl)) (hw _ (List.mem_of_getElem? (i := 10) rfl)) (hw _ (List.mem_of_getElem? (i := 11) rfl)) (by decide) (rm2 l Z a0 hw (1 * A0) (0 + M0) SS (A0 * 2 ^ M1 * 2 ^ M2) ((q0 * d1) * d2) T111.heap n0 Z116 (own_lim (own_lm (own_l1) hA0) (by decide)) hSS (by omega) (own_p3 hA0 (pw M1 hM1) (pw M2 hM2)) (by rw [hSSe]; simp only [Nat.pow_add, Nat.pow_zero, Nat.one_mul, Nat.mul_one, Nat.zero_add] <;> ac_rfl) (own_m3 hq0 hA0 hd1 (pw M1 hM1) hd2 (pw M2 hM2))) (rfl : T111.heap = _) (pc' := 335) (Ls := #[.val (.int x0), .val (.long x1), .second, .val (.int x2), .val (.int x3), .val (.int x4), .val (.int (2 : Int32)), .val (.int (((x1 &&& (15 : Int64))).toInt32)), .val (.int ((((XT.ushrL x1 (4 : Int32)) &&& (15 : Int64))).toInt32)), .val (.int (0 : Int32)), .val (.long d0), .second, .val (.long d1), .second, .val (.long d2), .second, .val (.long q0), .second, .val (.long q1), .second, .val (.long q2), .second, .val (.ref b51), .val (.ref b55), .val (.ref b61), .val (.double (dy SS 0)), .second, .val (.long ((q0 * d1) * d2)), .second, .val (.long (((d0 - q0) * q1) * d2)), .second, .val (.long (((d0 - q0) * (d1 - q1)) * q2)), .second, .val (.long (((d0 - q0) * (d1 - q1)) * (d2 - q2))), .second, .unset]) (by rw [hml]; rfl) [(.double (dy (1 * A0) (0 + M0))), (.double (dy SS 0)), (.long ((q0 * d1) * d2))] [] rfl pd1 rfl rfl 0 (Nat.le_of_eq rfl) (hb hby at_332) rfl (by decide) (by decide) (by decide) (by decide)
    obtain ⟨rfl, rfl, Kc117⟩ := hq117
    refine oGo.step (f' := (mkF m 335 #[.val (.int x0), .val (.long x1), .second, .val (.int x2), .val (.int x3), .val (.int x4), .val (.int (2 : Int32)), .val (.int (((x1 &&& (15 : Int64))).toInt32)), .val (.int ((((XT.ushrL x1 (4 : Int32)) &&& (15 : Int64))).toInt32)), .val (.int (0 : Int32)), .val (.long d0), .second, .val (.long d1), .second, .val (.long d2), .second, .val (.long q0), .second, .val (.long q1), .second, .val (.long q2), .second, .val (.ref b51), .val (.ref b55), .val (.ref b61), .val (.double (dy SS 0)), .second, .val (.long ((q0 * d1) * d2)), .second, .val (.long (((d0 - q0) * q1) * d2)), .second, .val (.long (((d0 - q0) * (d1 - q1)) * q2)), .second, .val (.long (((d0 - q0) * (d1 - q1)) * (d2 - q2))), .second, .unset] [(.int (1 : Int32))])) st117 ?_
    have e117 : T117.heap = T111.heap := Kc117
    have X117 := o_same X117 rfl rfl
    refine o_ifF (pc' := 338) X117 hx (hb hby at_335) (XT.i0_eq_f (by decide)) rfl ?_
    refine o_aload (pc' := 340) X117 hx (hb hby at_338) rfl rfl rfl ?_
    refine o_iload (pc' := 342) X117 hx (hb hby at_340) rfl rfl ?_
    refine o_daload (pc' := 343) (v := (dy ((1 * B0) * B1) ((0 + M0) + M1))) X117 hx hZ e117 W111_ (hb hby at_342) (by decide) rfl rfl ?_
    refine o_dload (pc' := 345) X117 hx (hb hby at_343) rfl rfl ?_
    refine o_lload (pc' := 347) X117 hx (hb hby at_345) rfl rfl ?_
    obtain ⟨r118, T118, L118, X118, hq118, st118⟩ := o_callS X117 hx hZ hown (hw _ (List.mem_of_getElem? (i := 8) rfl)) (hw _ (List.mem_of_getElem? (i := 9) rfl)) (hw _ (List.mem_of_getElem? (i := 10) rfl)) (hw _ (List.mem_of_getElem? (i := 11) rfl)) (by decide) (rm2 l Z a0 hw ((1 * B0) * B1) ((0 + M0) + M1) SS (B0 * B1 * B2) (((d0 - q0) * (d1 - q1)) * (d2 - q2)) T111.heap n0 Z116 (own_lim (own_lm (own_lm (own_l1) hB0) hB1) (by decide)) hSS (by omega) (own_p3 hB0 hB1 hB2) (by rw [hSSe, zB2]; simp only [Nat.pow_add, Nat.pow_zero, Nat.one_mul, Nat.mul_one, Nat.zero_add] <;> ac_rfl) (own_m3 hb0 hB0 hb1 hB1 hb2 hB2)) e117 (pc' := 350) (Ls := #[.val (.int x0), .val (.long x1), .second, .val (.int x2), .val (.int x3), .val (.int x4), .val (.int (2 : Int32)), .val (.int (((x1 &&& (15 : Int64))).toInt32)), .val (.int ((((XT.ushrL x1 (4 : Int32)) &&& (15 : Int64))).toInt32)), .val (.int (0 : Int32)), .val (.long d0), .second, .val (.long d1), .second, .val (.long d2), .second, .val (.long q0), .second, .val (.long q1), .second, .val (.long q2), .second, .val (.ref b51), .val (.ref b55), .val (.ref b61), .val (.double (dy SS 0)), .second, .val (.long ((q0 * d1) * d2)), .second, .val (.long (((d0 - q0) * q1) * d2)), .second, .val (.long (((d0 - q0) * (d1 - q1)) * q2)), .second, .val (.long (((d0 - q0) * (d1 - q1)) * (d2 - q2))), .second, .unset]) (by rw [hml]; rfl) [(.double (dy ((1 * B0) * B1) ((0 + M0) + M1))), (.double (dy SS 0)), (.long (((d0 - q0) * (d1 - q1)) * (d2 - q2)))] [] rfl pd1 rfl rfl 0 (Nat.le_of_eq rfl) (hb hby at_347) rfl (by decide) (by decide) (by decide) (by decide)
    obtain ⟨rfl, rfl, Kc118⟩ := hq118
    refine oGo.step (f' := (mkF m 350 #[.val (.int x0), .val (.long x1), .second, .val (.int x2), .val (.int x3), .val (.int x4), .val (.int (2 : Int32)), .val (.int (((x1 &&& (15 : Int64))).toInt32)), .val (.int ((((XT.ushrL x1 (4 : Int32)) &&& (15 : Int64))).toInt32)), .val (.int (0 : Int32)), .val (.long d0), .second, .val (.long d1), .second, .val (.long d2), .second, .val (.long q0), .second, .val (.long q1), .second, .val (.long q2), .second, .val (.ref b51), .val (.ref b55), .val (.ref b61), .val (.double (dy SS 0)), .second, .val (.long ((q0 * d1) * d2)), .second, .val (.long (((d0 - q0) * q1) * d2)), .second, .val (.long (((d0 - q0) * (d1 - q1)) * q2)), .second, .val (.long (((d0 - q0) * (d1 - q1)) * (d2 - q2))), .second, .unset] [(.int (1 : Int32))])) st118 ?_
    have e118 : T118.heap = T111.heap := Kc118
    have X118 := o_same X118 rfl rfl
    refine o_ifF (pc' := 353) X118 hx (hb hby at_350) (XT.i0_eq_f (by decide)) rfl ?_
    refine o_iconst (pc' := 354) (v := (1 : Int32)) X118 hx (hb hby at_353) rfl rfl ?_
    refine o_goto (pc' := 358) X118 hx (hb hby at_354) (by decide) (by decide) ?_
    refine o_istore (pc' := 360) (l' := #[.val (.int x0), .val (.long x1), .second, .val (.int x2), .val (.int x3), .val (.int x4), .val (.int (2 : Int32)), .val (.int (((x1 &&& (15 : Int64))).toInt32)), .val (.int ((((XT.ushrL x1 (4 : Int32)) &&& (15 : Int64))).toInt32)), .val (.int (0 : Int32)), .val (.long d0), .second, .val (.long d1), .second, .val (.long d2), .second, .val (.long q0), .second, .val (.long q1), .second, .val (.long q2), .second, .val (.ref b51), .val (.ref b55), .val (.ref b61), .val (.double (dy SS 0)), .second, .val (.long ((q0 * d1) * d2)), .second, .val (.long (((d0 - q0) * q1) * d2)), .second, .val (.long (((d0 - q0) * (d1 - q1)) * q2)), .second, .val (.long (((d0 - q0) * (d1 - q1)) * (d2 - q2))), .second, .val (.int (1 : Int32))]) X118 hx (hb hby at_358) rfl rfl ?_
    refine o_iload (pc' := 362) X118 hx (hb hby at_360) rfl rfl ?_
    refine o_iconst (pc' := 363) (v := (1 : Int32)) X118 hx (hb hby at_362) rfl rfl ?_
    refine o_icmpF (pc' := 366) X118 hx (hb hby at_363) (XT.ii_le_f (by decide)) rfl ?_
    refine o_iload (pc' := 368) X118 hx (hb hby at_366) rfl rfl ?_
    refine o_ifF (pc' := 371) X118 hx (hb hby at_368) (XT.i0_eq_f (by decide)) rfl ?_
    refine o_aload (pc' := 373) X118 hx (hb hby at_371) rfl rfl rfl ?_
    refine o_iconst (pc' := 374) (v := (1 : Int32)) X118 hx (hb hby at_373) rfl rfl ?_
    refine o_daload (pc' := 375) (v := (dy ((1 * B0) * A1) ((0 + M0) + M1))) X118 hx hZ e118 W111_ (hb hby at_374) (by decide) rfl rfl ?_
    refine o_dload (pc' := 377) X118 hx (hb hby at_375) rfl rfl ?_
    refine o_lload (pc' := 379) X118 hx (hb hby at_377) rfl rfl ?_
    obtain ⟨r119, T119, L119, X119, hq119, st119⟩ := o_callS X118 hx hZ hown (hw _ (List.mem_of_getElem? (i := 8) rfl)) (hw _ (List.mem_of_getElem? (i := 9) rfl)) (hw _ (List.mem_of_getElem? (i := 10) rfl)) (hw _ (List.mem_of_getElem? (i := 11) rfl)) (by decide) (rm2 l Z a0 hw ((1 * B0) * A1) ((0 + M0) + M1) SS (B0 * A1 * 2 ^ M2) (((d0 - q0) * q1) * d2) T111.heap n0 Z116 (own_lim (own_lm (own_lm (own_l1) hB0) hA1) (by decide)) hSS (by omega) (own_p3 hB0 hA1 (pw M2 hM2)) (by rw [hSSe]; simp only [Nat.pow_add, Nat.pow_zero, Nat.one_mul, Nat.mul_one, Nat.zero_add] <;> ac_rfl) (own_m3 hb0 hB0 hq1 hA1 hd2 (pw M2 hM2))) e118 (pc' := 382) (Ls := #[.val (.int x0), .val (.long x1), .second, .val (.int x2), .val (.int x3), .val (.int x4), .val (.int (2 : Int32)), .val (.int (((x1 &&& (15 : Int64))).toInt32)), .val (.int ((((XT.ushrL x1 (4 : Int32)) &&& (15 : Int64))).toInt32)), .val (.int (0 : Int32)), .val (.long d0), .second, .val (.long d1), .second, .val (.long d2), .second, .val (.long q0), .second, .val (.long q1), .second, .val (.long q2), .second, .val (.ref b51), .val (.ref b55), .val (.ref b61), .val (.double (dy SS 0)), .second, .val (.long ((q0 * d1) * d2)), .second, .val (.long (((d0 - q0) * q1) * d2)), .second, .val (.long (((d0 - q0) * (d1 - q1)) * q2)), .second, .val (.long (((d0 - q0) * (d1 - q1)) * (d2 - q2))), .second, .val (.int (1 : Int32))]) (by rw [hml]; rfl) [(.double (dy ((1 * B0) * A1) ((0 + M0) + M1))), (.double (dy SS 0)), (.long (((d0 - q0) * q1) * d2))] [] rfl pd1 rfl rfl 0 (Nat.le_of_eq rfl) (hb hby at_379) rfl (by decide) (by decide) (by decide) (by decide)
    obtain ⟨rfl, rfl, Kc119⟩ := hq119
    refine oGo.step (f' := (mkF m 382 #[.val (.int x0), .val (.long x1), .second, .val (.int x2), .val (.int x3), .val (.int x4), .val (.int (2 : Int32)), .val (.int (((x1 &&& (15 : Int64))).toInt32)), .val (.int ((((XT.ushrL x1 (4 : Int32)) &&& (15 : Int64))).toInt32)), .val (.int (0 : Int32)), .val (.long d0), .second, .val (.long d1), .second, .val (.long d2), .second, .val (.long q0), .second, .val (.long q1), .second, .val (.long q2), .second, .val (.ref b51), .val (.ref b55), .val (.ref b61), .val (.double (dy SS 0)), .second, .val (.long ((q0 * d1) * d2)), .second, .val (.long (((d0 - q0) * q1) * d2)), .second, .val (.long (((d0 - q0) * (d1 - q1)) * q2)), .second, .val (.long (((d0 - q0) * (d1 - q1)) * (d2 - q2))), .second, .val (.int (1 : Int32))] [(.int (1 : Int32))])) st119 ?_
    have e119 : T119.heap = T111.heap := Kc119
    have X119 := o_same X119 rfl rfl
    refine o_ifF (pc' := 385) X119 hx (hb hby at_382) (XT.i0_eq_f (by decide)) rfl ?_
    refine o_iconst (pc' := 386) (v := (1 : Int32)) X119 hx (hb hby at_385) rfl rfl ?_
    refine o_goto (pc' := 390) X119 hx (hb hby at_386) (by decide) (by decide) ?_
    refine o_istore (pc' := 392) (l' := #[.val (.int x0), .val (.long x1), .second, .val (.int x2), .val (.int x3), .val (.int x4), .val (.int (2 : Int32)), .val (.int (((x1 &&& (15 : Int64))).toInt32)), .val (.int ((((XT.ushrL x1 (4 : Int32)) &&& (15 : Int64))).toInt32)), .val (.int (0 : Int32)), .val (.long d0), .second, .val (.long d1), .second, .val (.long d2), .second, .val (.long q0), .second, .val (.long q1), .second, .val (.long q2), .second, .val (.ref b51), .val (.ref b55), .val (.ref b61), .val (.double (dy SS 0)), .second, .val (.long ((q0 * d1) * d2)), .second, .val (.long (((d0 - q0) * q1) * d2)), .second, .val (.long (((d0 - q0) * (d1 - q1)) * q2)), .second, .val (.long (((d0 - q0) * (d1 - q1)) * (d2 - q2))), .second, .val (.int (1 : Int32))]) X119 hx (hb hby at_390) rfl rfl ?_
    refine o_iload (pc' := 394) X119 hx (hb hby at_392) rfl rfl ?_
    refine o_iconst (pc' := 395) (v := (2 : Int32)) X119 hx (hb hby at_394) rfl rfl ?_
    refine o_icmpT (pc' := 424) X119 hx (hb hby at_395) (XT.ii_le_t (by decide)) (by decide) (by decide) ?_
    refine o_iload (pc' := 426) X119 hx (hb hby at_424) rfl rfl ?_
    refine o_retZ X119 hx hret hlk (hb hby at_426) (by decide) (by decide) (by decide) ?_
    exact ⟨rfl, N111_⟩
  · rw [hs]
    refine o_lloadN (pc' := 11) X0 hx (hb hby at_10) rfl rfl ?_
    refine o_ldc2 (pc' := 14) (v := (15 : Int64)) X0 hx hZ hown (hw _ (List.mem_of_getElem? (i := 1) rfl)) (hb hby at_11) rfl ?_
    refine o_land (pc' := 15) X0 hx (hb hby at_14)  rfl ?_
    refine o_l2i (pc' := 16) X0 hx (hb hby at_15)  rfl ?_
    refine o_istore (pc' := 18) (l' := #[.val (.int x0), .val (.long x1), .second, .val (.int x2), .val (.int x3), .val (.int x4), .val (.int (3 : Int32)), .val (.int (((x1 &&& (15 : Int64))).toInt32)), .unset, .unset, .unset, .unset, .unset, .unset, .unset, .unset, .unset, .unset, .unset, .unset, .unset, .unset, .unset, .unset, .unset, .unset, .unset, .unset, .unset, .unset, .unset, .unset, .unset, .unset, .unset, .unset]) X0 hx (hb hby at_16) rfl rfl ?_
    refine o_iload (pc' := 20) X0 hx (hb hby at_18) rfl rfl ?_
    refine o_iconst (pc' := 21) (v := (1 : Int32)) X0 hx (hb hby at_20) rfl rfl ?_
    refine o_icmpF (pc' := 24) X0 hx (hb hby at_21) (XT.ii_le_f (by decide)) rfl ?_
    refine o_lloadN (pc' := 25) X0 hx (hb hby at_24) rfl rfl ?_
    refine o_iconst (pc' := 26) (v := (4 : Int32)) X0 hx (hb hby at_25) rfl rfl ?_
    refine o_lushr (pc' := 27) X0 hx (hb hby at_26)  rfl ?_
    refine o_ldc2 (pc' := 30) (v := (15 : Int64)) X0 hx hZ hown (hw _ (List.mem_of_getElem? (i := 1) rfl)) (hb hby at_27) rfl ?_
    refine o_land (pc' := 31) X0 hx (hb hby at_30)  rfl ?_
    refine o_l2i (pc' := 32) X0 hx (hb hby at_31)  rfl ?_
    refine o_goto (pc' := 36) X0 hx (hb hby at_32) (by decide) (by decide) ?_
    refine o_istore (pc' := 38) (l' := #[.val (.int x0), .val (.long x1), .second, .val (.int x2), .val (.int x3), .val (.int x4), .val (.int (3 : Int32)), .val (.int (((x1 &&& (15 : Int64))).toInt32)), .val (.int ((((XT.ushrL x1 (4 : Int32)) &&& (15 : Int64))).toInt32)), .unset, .unset, .unset, .unset, .unset, .unset, .unset, .unset, .unset, .unset, .unset, .unset, .unset, .unset, .unset, .unset, .unset, .unset, .unset, .unset, .unset, .unset, .unset, .unset, .unset, .unset, .unset]) X0 hx (hb hby at_36) rfl rfl ?_
    refine o_iload (pc' := 40) X0 hx (hb hby at_38) rfl rfl ?_
    refine o_iconst (pc' := 41) (v := (2 : Int32)) X0 hx (hb hby at_40) rfl rfl ?_
    refine o_icmpF (pc' := 44) X0 hx (hb hby at_41) (XT.ii_le_f (by decide)) rfl ?_
    refine o_lloadN (pc' := 45) X0 hx (hb hby at_44) rfl rfl ?_
    refine o_bipush (pc' := 47) (v := (8 : Int32)) X0 hx (hb hby at_45) rfl rfl ?_
    refine o_lushr (pc' := 48) X0 hx (hb hby at_47)  rfl ?_
    refine o_ldc2 (pc' := 51) (v := (15 : Int64)) X0 hx hZ hown (hw _ (List.mem_of_getElem? (i := 1) rfl)) (hb hby at_48) rfl ?_
    refine o_land (pc' := 52) X0 hx (hb hby at_51)  rfl ?_
    refine o_l2i (pc' := 53) X0 hx (hb hby at_52)  rfl ?_
    refine o_goto (pc' := 57) X0 hx (hb hby at_53) (by decide) (by decide) ?_
    refine o_istore (pc' := 59) (l' := #[.val (.int x0), .val (.long x1), .second, .val (.int x2), .val (.int x3), .val (.int x4), .val (.int (3 : Int32)), .val (.int (((x1 &&& (15 : Int64))).toInt32)), .val (.int ((((XT.ushrL x1 (4 : Int32)) &&& (15 : Int64))).toInt32)), .val (.int ((((XT.ushrL x1 (8 : Int32)) &&& (15 : Int64))).toInt32)), .unset, .unset, .unset, .unset, .unset, .unset, .unset, .unset, .unset, .unset, .unset, .unset, .unset, .unset, .unset, .unset, .unset, .unset, .unset, .unset, .unset, .unset, .unset, .unset, .unset, .unset]) X0 hx (hb hby at_57) rfl rfl ?_
    refine o_lconst (pc' := 60) (v := (1 : Int64)) X0 hx (hb hby at_59) rfl rfl ?_
    refine o_iload (pc' := 62) X0 hx (hb hby at_60) rfl rfl ?_
    refine o_lshl (pc' := 63) X0 hx (hb hby at_62)  rfl ?_
    refine o_lstore (pc' := 65) (l' := #[.val (.int x0), .val (.long x1), .second, .val (.int x2), .val (.int x3), .val (.int x4), .val (.int (3 : Int32)), .val (.int (((x1 &&& (15 : Int64))).toInt32)), .val (.int ((((XT.ushrL x1 (4 : Int32)) &&& (15 : Int64))).toInt32)), .val (.int ((((XT.ushrL x1 (8 : Int32)) &&& (15 : Int64))).toInt32)), .val (.long ((1 : Int64) <<< (((((x1 &&& (15 : Int64))).toInt32)).toInt64 &&& 63))), .second, .unset, .unset, .unset, .unset, .unset, .unset, .unset, .unset, .unset, .unset, .unset, .unset, .unset, .unset, .unset, .unset, .unset, .unset, .unset, .unset, .unset, .unset, .unset, .unset]) X0 hx (hb hby at_63) rfl rfl ?_
    obtain ⟨M0, hM0, hd0⟩ := own_shm x1
    generalize hgd0 : ((1 : Int64) <<< (((((x1 &&& (15 : Int64))).toInt32)).toInt64 &&& 63)) = d0 at hd0 ⊢
    refine o_lconst (pc' := 66) (v := (1 : Int64)) X0 hx (hb hby at_65) rfl rfl ?_
    refine o_iload (pc' := 68) X0 hx (hb hby at_66) rfl rfl ?_
    refine o_lshl (pc' := 69) X0 hx (hb hby at_68)  rfl ?_
    refine o_lstore (pc' := 71) (l' := #[.val (.int x0), .val (.long x1), .second, .val (.int x2), .val (.int x3), .val (.int x4), .val (.int (3 : Int32)), .val (.int (((x1 &&& (15 : Int64))).toInt32)), .val (.int ((((XT.ushrL x1 (4 : Int32)) &&& (15 : Int64))).toInt32)), .val (.int ((((XT.ushrL x1 (8 : Int32)) &&& (15 : Int64))).toInt32)), .val (.long d0), .second, .val (.long ((1 : Int64) <<< ((((((XT.ushrL x1 (4 : Int32)) &&& (15 : Int64))).toInt32)).toInt64 &&& 63))), .second, .unset, .unset, .unset, .unset, .unset, .unset, .unset, .unset, .unset, .unset, .unset, .unset, .unset, .unset, .unset, .unset, .unset, .unset, .unset, .unset, .unset, .unset]) X0 hx (hb hby at_69) rfl rfl ?_
    obtain ⟨M1, hM1, hd1⟩ := own_shm (XT.ushrL x1 (4 : Int32))
    generalize hgd1 : ((1 : Int64) <<< ((((((XT.ushrL x1 (4 : Int32)) &&& (15 : Int64))).toInt32)).toInt64 &&& 63)) = d1 at hd1 ⊢
    refine o_lconst (pc' := 72) (v := (1 : Int64)) X0 hx (hb hby at_71) rfl rfl ?_
    refine o_iload (pc' := 74) X0 hx (hb hby at_72) rfl rfl ?_
    refine o_lshl (pc' := 75) X0 hx (hb hby at_74)  rfl ?_
    refine o_lstore (pc' := 77) (l' := #[.val (.int x0), .val (.long x1), .second, .val (.int x2), .val (.int x3), .val (.int x4), .val (.int (3 : Int32)), .val (.int (((x1 &&& (15 : Int64))).toInt32)), .val (.int ((((XT.ushrL x1 (4 : Int32)) &&& (15 : Int64))).toInt32)), .val (.int ((((XT.ushrL x1 (8 : Int32)) &&& (15 : Int64))).toInt32)), .val (.long d0), .second, .val (.long d1), .second, .val (.long ((1 : Int64) <<< ((((((XT.ushrL x1 (8 : Int32)) &&& (15 : Int64))).toInt32)).toInt64 &&& 63))), .second, .unset, .unset, .unset, .unset, .unset, .unset, .unset, .unset, .unset, .unset, .unset, .unset, .unset, .unset, .unset, .unset, .unset, .unset, .unset, .unset]) X0 hx (hb hby at_75) rfl rfl ?_
    obtain ⟨M2, hM2, hd2⟩ := own_shm (XT.ushrL x1 (8 : Int32))
    generalize hgd2 : ((1 : Int64) <<< ((((((XT.ushrL x1 (8 : Int32)) &&& (15 : Int64))).toInt32)).toInt64 &&& 63)) = d2 at hd2 ⊢
    refine o_iloadN (pc' := 78) X0 hx (hb hby at_77) rfl rfl ?_
    refine o_ldc (pc' := 80) (v := (2147483647 : Int32)) X0 hx hZ hown (hw _ (List.mem_of_getElem? (i := 0) rfl)) (hb hby at_78) rfl ?_
    refine o_iand (pc' := 81) X0 hx (hb hby at_80)  rfl ?_
    refine o_i2l (pc' := 82) X0 hx (hb hby at_81)  rfl ?_
    refine o_lload (pc' := 84) X0 hx (hb hby at_82) rfl rfl ?_
    refine o_lconst (pc' := 85) (v := (1 : Int64)) X0 hx (hb hby at_84) rfl rfl ?_
    refine o_ladd (pc' := 86) X0 hx (hb hby at_85)  rfl ?_
    refine o_lrem (pc' := 87) X0 hx (hb hby at_86) (own_nz hM0 hd0) rfl ?_
    refine o_lstore (pc' := 89) (l' := #[.val (.int x0), .val (.long x1), .second, .val (.int x2), .val (.int x3), .val (.int x4), .val (.int (3 : Int32)), .val (.int (((x1 &&& (15 : Int64))).toInt32)), .val (.int ((((XT.ushrL x1 (4 : Int32)) &&& (15 : Int64))).toInt32)), .val (.int ((((XT.ushrL x1 (8 : Int32)) &&& (15 : Int64))).toInt32)), .val (.long d0), .second, .val (.long d1), .second, .val (.long d2), .second, .val (.long ((((x2 &&& (2147483647 : Int32))).toInt64) % (d0 + (1 : Int64)))), .second, .unset, .unset, .unset, .unset, .unset, .unset, .unset, .unset, .unset, .unset, .unset, .unset, .unset, .unset, .unset, .unset, .unset, .unset]) X0 hx (hb hby at_87) rfl rfl ?_
    obtain ⟨A0, B0, s0, hA0, hB0, hq0, hb0⟩ := own_am x2 hM0 hd0
    generalize hgq0 : ((((x2 &&& (2147483647 : Int32))).toInt64) % (d0 + (1 : Int64))) = q0 at hq0 hb0 ⊢
    refine o_iload (pc' := 91) X0 hx (hb hby at_89) rfl rfl ?_
    refine o_iconst (pc' := 92) (v := (1 : Int32)) X0 hx (hb hby at_91) rfl rfl ?_
    refine o_icmpF (pc' := 95) X0 hx (hb hby at_92) (XT.ii_le_f (by decide)) rfl ?_
    refine o_iload (pc' := 97) X0 hx (hb hby at_95) rfl rfl ?_
    refine o_ldc (pc' := 99) (v := (2147483647 : Int32)) X0 hx hZ hown (hw _ (List.mem_of_getElem? (i := 0) rfl)) (hb hby at_97) rfl ?_
    refine o_iand (pc' := 100) X0 hx (hb hby at_99)  rfl ?_
    refine o_i2l (pc' := 101) X0 hx (hb hby at_100)  rfl ?_
    refine o_lload (pc' := 103) X0 hx (hb hby at_101) rfl rfl ?_
    refine o_lconst (pc' := 104) (v := (1 : Int64)) X0 hx (hb hby at_103) rfl rfl ?_
    refine o_ladd (pc' := 105) X0 hx (hb hby at_104)  rfl ?_
    refine o_lrem (pc' := 106) X0 hx (hb hby at_105) (own_nz hM1 hd1) rfl ?_
    refine o_goto (pc' := 110) X0 hx (hb hby at_106) (by decide) (by decide) ?_
    refine o_lstore (pc' := 112) (l' := #[.val (.int x0), .val (.long x1), .second, .val (.int x2), .val (.int x3), .val (.int x4), .val (.int (3 : Int32)), .val (.int (((x1 &&& (15 : Int64))).toInt32)), .val (.int ((((XT.ushrL x1 (4 : Int32)) &&& (15 : Int64))).toInt32)), .val (.int ((((XT.ushrL x1 (8 : Int32)) &&& (15 : Int64))).toInt32)), .val (.long d0), .second, .val (.long d1), .second, .val (.long d2), .second, .val (.long q0), .second, .val (.long ((((x3 &&& (2147483647 : Int32))).toInt64) % (d1 + (1 : Int64)))), .second, .unset, .unset, .unset, .unset, .unset, .unset, .unset, .unset, .unset, .unset, .unset, .unset, .unset, .unset, .unset, .unset]) X0 hx (hb hby at_110) rfl rfl ?_
    obtain ⟨A1, B1, s1, hA1, hB1, hq1, hb1⟩ := own_am x3 hM1 hd1
    generalize hgq1 : ((((x3 &&& (2147483647 : Int32))).toInt64) % (d1 + (1 : Int64))) = q1 at hq1 hb1 ⊢
    refine o_iload (pc' := 114) X0 hx (hb hby at_112) rfl rfl ?_
    refine o_iconst (pc' := 115) (v := (2 : Int32)) X0 hx (hb hby at_114) rfl rfl ?_
    refine o_icmpF (pc' := 118) X0 hx (hb hby at_115) (XT.ii_le_f (by decide)) rfl ?_
    refine o_iload (pc' := 120) X0 hx (hb hby at_118) rfl rfl ?_
    refine o_ldc (pc' := 122) (v := (2147483647 : Int32)) X0 hx hZ hown (hw _ (List.mem_of_getElem? (i := 0) rfl)) (hb hby at_120) rfl ?_
    refine o_iand (pc' := 123) X0 hx (hb hby at_122)  rfl ?_
    refine o_i2l (pc' := 124) X0 hx (hb hby at_123)  rfl ?_
    refine o_lload (pc' := 126) X0 hx (hb hby at_124) rfl rfl ?_
    refine o_lconst (pc' := 127) (v := (1 : Int64)) X0 hx (hb hby at_126) rfl rfl ?_
    refine o_ladd (pc' := 128) X0 hx (hb hby at_127)  rfl ?_
    refine o_lrem (pc' := 129) X0 hx (hb hby at_128) (own_nz hM2 hd2) rfl ?_
    refine o_goto (pc' := 133) X0 hx (hb hby at_129) (by decide) (by decide) ?_
    refine o_lstore (pc' := 135) (l' := #[.val (.int x0), .val (.long x1), .second, .val (.int x2), .val (.int x3), .val (.int x4), .val (.int (3 : Int32)), .val (.int (((x1 &&& (15 : Int64))).toInt32)), .val (.int ((((XT.ushrL x1 (4 : Int32)) &&& (15 : Int64))).toInt32)), .val (.int ((((XT.ushrL x1 (8 : Int32)) &&& (15 : Int64))).toInt32)), .val (.long d0), .second, .val (.long d1), .second, .val (.long d2), .second, .val (.long q0), .second, .val (.long q1), .second, .val (.long ((((x4 &&& (2147483647 : Int32))).toInt64) % (d2 + (1 : Int64)))), .second, .unset, .unset, .unset, .unset, .unset, .unset, .unset, .unset, .unset, .unset, .unset, .unset, .unset, .unset]) X0 hx (hb hby at_133) rfl rfl ?_
    obtain ⟨A2, B2, s2, hA2, hB2, hq2, hb2⟩ := own_am x4 hM2 hd2
    generalize hgq2 : ((((x4 &&& (2147483647 : Int32))).toInt64) % (d2 + (1 : Int64))) = q2 at hq2 hb2 ⊢
    refine o_iload (pc' := 137) X0 hx (hb hby at_135) rfl rfl ?_
    obtain ⟨T120, h120_, X120, e120, E120, A120, st120⟩ := o_newD (Ls := #[.val (.int x0), .val (.long x1), .second, .val (.int x2), .val (.int x3), .val (.int x4), .val (.int (3 : Int32)), .val (.int (((x1 &&& (15 : Int64))).toInt32)), .val (.int ((((XT.ushrL x1 (4 : Int32)) &&& (15 : Int64))).toInt32)), .val (.int ((((XT.ushrL x1 (8 : Int32)) &&& (15 : Int64))).toInt32)), .val (.long d0), .second, .val (.long d1), .second, .val (.long d2), .second, .val (.long q0), .second, .val (.long q1), .second, .val (.long q2), .second, .unset, .unset, .unset, .unset, .unset, .unset, .unset, .unset, .unset, .unset, .unset, .unset, .unset, .unset]) (st := []) (n := (3 : Int32)) X0 hx hZ (hw _ (List.mem_of_getElem? (i := 2) rfl)) e0 (hb hby at_137) (by decide) 3 (by decide) (by decide) (by decide) (by decide) rfl
    obtain ⟨b120, g120⟩ : ∃ z, z = h0.size := ⟨_, rfl⟩
    rw [← g120] at A120 st120
    replace A120 : oDbls Z h120_ b120 [(0 : UInt64), (0 : UInt64), (0 : UInt64)] := A120
    have ge121 : n0 ≤ b120 := by rw [g120]; exact Z0
    have K122 := (Keep.refl h0 []).ext E120
    have Z123 := Nat.le_trans Z0 K122.1
    refine oGo.step (f' := (mkF m 139 #[.val (.int x0), .val (.long x1), .second, .val (.int x2), .val (.int x3), .val (.int x4), .val (.int (3 : Int32)), .val (.int (((x1 &&& (15 : Int64))).toInt32)), .val (.int ((((XT.ushrL x1 (4 : Int32)) &&& (15 : Int64))).toInt32)), .val (.int ((((XT.ushrL x1 (8 : Int32)) &&& (15 : Int64))).toInt32)), .val (.long d0), .second, .val (.long d1), .second, .val (.long d2), .second, .val (.long q0), .second, .val (.long q1), .second, .val (.long q2), .second, .unset, .unset, .unset, .unset, .unset, .unset, .unset, .unset, .unset, .unset, .unset, .unset, .unset, .unset] [(.ref b120)])) st120 ?_
    refine o_astore (pc' := 141) (l' := #[.val (.int x0), .val (.long x1), .second, .val (.int x2), .val (.int x3), .val (.int x4), .val (.int (3 : Int32)), .val (.int (((x1 &&& (15 : Int64))).toInt32)), .val (.int ((((XT.ushrL x1 (4 : Int32)) &&& (15 : Int64))).toInt32)), .val (.int ((((XT.ushrL x1 (8 : Int32)) &&& (15 : Int64))).toInt32)), .val (.long d0), .second, .val (.long d1), .second, .val (.long d2), .second, .val (.long q0), .second, .val (.long q1), .second, .val (.long q2), .second, .val (.ref b120), .unset, .unset, .unset, .unset, .unset, .unset, .unset, .unset, .unset, .unset, .unset, .unset, .unset]) X120 hx (hb hby at_139) rfl rfl rfl ?_
    refine o_iload (pc' := 143) X120 hx (hb hby at_141) rfl rfl ?_
    obtain ⟨T124, h124_, X124, e124, E124, A124, st124⟩ := o_newD (Ls := #[.val (.int x0), .val (.long x1), .second, .val (.int x2), .val (.int x3), .val (.int x4), .val (.int (3 : Int32)), .val (.int (((x1 &&& (15 : Int64))).toInt32)), .val (.int ((((XT.ushrL x1 (4 : Int32)) &&& (15 : Int64))).toInt32)), .val (.int ((((XT.ushrL x1 (8 : Int32)) &&& (15 : Int64))).toInt32)), .val (.long d0), .second, .val (.long d1), .second, .val (.long d2), .second, .val (.long q0), .second, .val (.long q1), .second, .val (.long q2), .second, .val (.ref b120), .unset, .unset, .unset, .unset, .unset, .unset, .unset, .unset, .unset, .unset, .unset, .unset, .unset]) (st := []) (n := (3 : Int32)) X120 hx hZ (hw _ (List.mem_of_getElem? (i := 2) rfl)) e120 (hb hby at_143) (by decide) 3 (by decide) (by decide) (by decide) (by decide) rfl
    obtain ⟨b124, g124⟩ : ∃ z, z = h120_.size := ⟨_, rfl⟩
    rw [← g124] at A124 st124
    replace A124 : oDbls Z h124_ b124 [(0 : UInt64), (0 : UInt64), (0 : UInt64)] := A124
    have ne125 : b120 ≠ b124 := by rw [g124]; exact Nat.ne_of_lt A120.lt
    have ge126 : n0 ≤ b124 := by rw [g124]; exact Z123
    have K127 := (Keep.refl h120_ []).ext E124
    have F128 := A120.keep K127 nin0
    have Z129 := Nat.le_trans Z123 K127.1
    refine oGo.step (f' := (mkF m 145 #[.val (.int x0), .val (.long x1), .second, .val (.int x2), .val (.int x3), .val (.int x4), .val (.int (3 : Int32)), .val (.int (((x1 &&& (15 : Int64))).toInt32)), .val (.int ((((XT.ushrL x1 (4 : Int32)) &&& (15 : Int64))).toInt32)), .val (.int ((((XT.ushrL x1 (8 : Int32)) &&& (15 : Int64))).toInt32)), .val (.long d0), .second, .val (.long d1), .second, .val (.long d2), .second, .val (.long q0), .second, .val (.long q1), .second, .val (.long q2), .second, .val (.ref b120), .unset, .unset, .unset, .unset, .unset, .unset, .unset, .unset, .unset, .unset, .unset, .unset, .unset] [(.ref b124)])) st124 ?_
    refine o_astore (pc' := 147) (l' := #[.val (.int x0), .val (.long x1), .second, .val (.int x2), .val (.int x3), .val (.int x4), .val (.int (3 : Int32)), .val (.int (((x1 &&& (15 : Int64))).toInt32)), .val (.int ((((XT.ushrL x1 (4 : Int32)) &&& (15 : Int64))).toInt32)), .val (.int ((((XT.ushrL x1 (8 : Int32)) &&& (15 : Int64))).toInt32)), .val (.long d0), .second, .val (.long d1), .second, .val (.long d2), .second, .val (.long q0), .second, .val (.long q1), .second, .val (.long q2), .second, .val (.ref b120), .val (.ref b124), .unset, .unset, .unset, .unset, .unset, .unset, .unset, .unset, .unset, .unset, .unset, .unset]) X124 hx (hb hby at_145) rfl rfl rfl ?_
    refine o_iload (pc' := 149) X124 hx (hb hby at_147) rfl rfl ?_
    refine o_iconst (pc' := 150) (v := (1 : Int32)) X124 hx (hb hby at_149) rfl rfl ?_
    refine o_iadd (pc' := 151) X124 hx (hb hby at_150)  rfl ?_
    show oGo p e below (oG s (fun v h L => v = some (.int 1) ∧ Fr n0 L) room_1.cells room_1.slots) T124 (mkF m 151 #[.val (.int x0), .val (.long x1), .second, .val (.int x2), .val (.int x3), .val (.int x4), .val (.int (3 : Int32)), .val (.int (((x1 &&& (15 : Int64))).toInt32)), .val (.int ((((XT.ushrL x1 (4 : Int32)) &&& (15 : Int64))).toInt32)), .val (.int ((((XT.ushrL x1 (8 : Int32)) &&& (15 : Int64))).toInt32)), .val (.long d0), .second, .val (.long d1), .second, .val (.long d2), .second, .val (.long q0), .second, .val (.long q1), .second, .val (.long q2), .second, .val (.ref b120), .val (.ref b124), .unset, .unset, .unset, .unset, .unset, .unset, .unset, .unset, .unset, .unset, .unset, .unset] [(.int (4 : Int32))])
    obtain ⟨T130, h130_, X130, e130, E130, A130, st130⟩ := o_newD (Ls := #[.val (.int x0), .val (.long x1), .second, .val (.int x2), .val (.int x3), .val (.int x4), .val (.int (3 : Int32)), .val (.int (((x1 &&& (15 : Int64))).toInt32)), .val (.int ((((XT.ushrL x1 (4 : Int32)) &&& (15 : Int64))).toInt32)), .val (.int ((((XT.ushrL x1 (8 : Int32)) &&& (15 : Int64))).toInt32)), .val (.long d0), .second, .val (.long d1), .second, .val (.long d2), .second, .val (.long q0), .second, .val (.long q1), .second, .val (.long q2), .second, .val (.ref b120), .val (.ref b124), .unset, .unset, .unset, .unset, .unset, .unset, .unset, .unset, .unset, .unset, .unset, .unset]) (st := []) (n := (4 : Int32)) X124 hx hZ (hw _ (List.mem_of_getElem? (i := 2) rfl)) e124 (hb hby at_151) (by decide) 4 (by decide) (by decide) (by decide) (by decide) rfl
    obtain ⟨b130, g130⟩ : ∃ z, z = h124_.size := ⟨_, rfl⟩
    rw [← g130] at A130 st130
    replace A130 : oDbls Z h130_ b130 [(0 : UInt64), (0 : UInt64), (0 : UInt64), (0 : UInt64)] := A130
    have ne131 : b120 ≠ b130 := by rw [g130]; exact Nat.ne_of_lt F128.lt
    have ne132 : b124 ≠ b130 := by rw [g130]; exact Nat.ne_of_lt A124.lt
    have ge133 : n0 ≤ b130 := by rw [g130]; exact Z129
    have K134 := (Keep.refl h124_ []).ext E130
    have F135 := F128.keep K134 nin0
    have F136 := A124.keep K134 nin0
    have Z137 := Nat.le_trans Z129 K134.1
    refine oGo.step (f' := (mkF m 153 #[.val (.int x0), .val (.long x1), .second, .val (.int x2), .val (.int x3), .val (.int x4), .val (.int (3 : Int32)), .val (.int (((x1 &&& (15 : Int64))).toInt32)), .val (.int ((((XT.ushrL x1 (4 : Int32)) &&& (15 : Int64))).toInt32)), .val (.int ((((XT.ushrL x1 (8 : Int32)) &&& (15 : Int64))).toInt32)), .val (.long d0), .second, .val (.long d1), .second, .val (.long d2), .second, .val (.long q0), .second, .val (.long q1), .second, .val (.long q2), .second, .val (.ref b120), .val (.ref b124), .unset, .unset, .unset, .unset, .unset, .unset, .unset, .unset, .unset, .unset, .unset, .unset] [(.ref b130)])) st130 ?_
    refine o_astore (pc' := 155) (l' := #[.val (.int x0), .val (.long x1), .second, .val (.int x2), .val (.int x3), .val (.int x4), .val (.int (3 : Int32)), .val (.int (((x1 &&& (15 : Int64))).toInt32)), .val (.int ((((XT.ushrL x1 (4 : Int32)) &&& (15 : Int64))).toInt32)), .val (.int ((((XT.ushrL x1 (8 : Int32)) &&& (15 : Int64))).toInt32)), .val (.long d0), .second, .val (.long d1), .second, .val (.long d2), .second, .val (.long q0), .second, .val (.long q1), .second, .val (.long q2), .second, .val (.ref b120), .val (.ref b124), .val (.ref b130), .unset, .unset, .unset, .unset, .unset, .unset, .unset, .unset, .unset, .unset, .unset]) X130 hx (hb hby at_153) rfl rfl rfl ?_
    refine o_aload (pc' := 157) X130 hx (hb hby at_155) rfl rfl rfl ?_
    refine o_iconst (pc' := 158) (v := (0 : Int32)) X130 hx (hb hby at_157) rfl rfl ?_
    refine o_lload (pc' := 160) X130 hx (hb hby at_158) rfl rfl ?_
    refine o_l2d (pc' := 161) (v := (dy A0 0)) X130 hx (hb hby at_160) (dy_l2d hq0) rfl ?_
    obtain ⟨T138, h138_, X138, e138, W138, st138⟩ := o_dastore (x := (dy A0 0)) (j := (0 : Int32)) (Ls := #[.val (.int x0), .val (.long x1), .second, .val (.int x2), .val (.int x3), .val (.int x4), .val (.int (3 : Int32)), .val (.int (((x1 &&& (15 : Int64))).toInt32)), .val (.int ((((XT.ushrL x1 (4 : Int32)) &&& (15 : Int64))).toInt32)), .val (.int ((((XT.ushrL x1 (8 : Int32)) &&& (15 : Int64))).toInt32)), .val (.long d0), .second, .val (.long d1), .second, .val (.long d2), .second, .val (.long q0), .second, .val (.long q1), .second, .val (.long q2), .second, .val (.ref b120), .val (.ref b124), .val (.ref b130), .unset, .unset, .unset, .unset, .unset, .unset, .unset, .unset, .unset, .unset, .unset]) (st := []) X130 hx hZ e130 F135 (hb hby at_161) (by decide) (show _ < 3 by decide) rfl
    refine oGo.step (f' := (mkF m 162 #[.val (.int x0), .val (.long x1), .second, .val (.int x2), .val (.int x3), .val (.int x4), .val (.int (3 : Int32)), .val (.int (((x1 &&& (15 : Int64))).toInt32)), .val (.int ((((XT.ushrL x1 (4 : Int32)) &&& (15 : Int64))).toInt32)), .val (.int ((((XT.ushrL x1 (8 : Int32)) &&& (15 : Int64))).toInt32)), .val (.long d0), .second, .val (.long d1), .second, .val (.long d2), .second, .val (.long q0), .second, .val (.long q1), .second, .val (.long q2), .second, .val (.ref b120), .val (.ref b124), .val (.ref b130), .unset, .unset, .unset, .unset, .unset, .unset, .unset, .unset, .unset, .unset, .unset] [])) st138 ?_
    have N138 := Fr.snoc X138 N0 ge121
    have F139 := F135.set W138
    replace F139 : oDbls Z h138_ b120 [(dy A0 0), (0 : UInt64), (0 : UInt64)] := F139
    have K140 := Keep.of_wr W138
    have F141 := F136.keep K140 (ninS (Ne.symm ne125) nin0)
    have F142 := A130.keep K140 (ninS (Ne.symm ne131) nin0)
    have Z143 := Nat.le_trans Z137 K140.1
    refine o_aload (pc' := 164) X138 hx (hb hby at_162) rfl rfl rfl ?_
    refine o_iconst (pc' := 165) (v := (0 : Int32)) X138 hx (hb hby at_164) rfl rfl ?_
    refine o_lload (pc' := 167) X138 hx (hb hby at_165) rfl rfl ?_
    refine o_lload (pc' := 169) X138 hx (hb hby at_167) rfl rfl ?_
    refine o_lsub (pc' := 170) X138 hx (hb hby at_169)  rfl ?_
    refine o_l2d (pc' := 171) (v := (dy B0 0)) X138 hx (hb hby at_170) (dy_l2d hb0) rfl ?_
    obtain ⟨T144, h144_, X144, e144, W144, st144⟩ := o_dastore (x := (dy B0 0)) (j := (0 : Int32)) (Ls := #[.val (.int x0), .val (.long x1), .second, .val (.int x2), .val (.int x3), .val (.int x4), .val (.int (3 : Int32)), .val (.int (((x1 &&& (15 : Int64))).toInt32)), .val (.int ((((XT.ushrL x1 (4 : Int32)) &&& (15 : Int64))).toInt32)), .val (.int ((((XT.ushrL x1 (8 : Int32)) &&& (15 : Int64))).toInt32)), .val (.long d0), .second, .val (.long d1), .second, .val (.long d2), .second, .val (.long q0), .second, .val (.long q1), .second, .val (.long q2), .second, .val (.ref b120), .val (.ref b124), .val (.ref b130), .unset, .unset, .unset, .unset, .unset, .unset, .unset, .unset, .unset, .unset, .unset]) (st := []) X138 hx hZ e138 F141 (hb hby at_171) (by decide) (show _ < 3 by decide) rfl
    refine oGo.step (f' := (mkF m 172 #[.val (.int x0), .val (.long x1), .second, .val (.int x2), .val (.int x3), .val (.int x4), .val (.int (3 : Int32)), .val (.int (((x1 &&& (15 : Int64))).toInt32)), .val (.int ((((XT.ushrL x1 (4 : Int32)) &&& (15 : Int64))).toInt32)), .val (.int ((((XT.ushrL x1 (8 : Int32)) &&& (15 : Int64))).toInt32)), .val (.long d0), .second, .val (.long d1), .second, .val (.long d2), .second, .val (.long q0), .second, .val (.long q1), .second, .val (.long q2), .second, .val (.ref b120), .val (.ref b124), .val (.ref b130), .unset, .unset, .unset, .unset, .unset, .unset, .unset, .unset, .unset, .unset, .unset] [])) st144 ?_
    have N144 := Fr.snoc X144 N138 ge126
    have F145 := F141.set W144
    replace F145 : oDbls Z h144_ b124 [(dy B0 0), (0 : UInt64), (0 : UInt64)] := F145
    have K146 := Keep.of_wr W144
    have F147 := F142.keep K146 (ninS (Ne.symm ne132) nin0)
    have F148 := F139.keep K146 (ninS ne125 nin0)
    have Z149 := Nat.le_trans Z143 K146.1
    refine o_aload (pc' := 174) X144 hx (hb hby at_172) rfl rfl rfl ?_
    refine o_iconst (pc' := 175) (v := (0 : Int32)) X144 hx (hb hby at_174) rfl rfl ?_
    refine o_ldc2d (pc' := 178) (b := (4619567317775286272 : UInt64)) X144 hx hZ hown (hw _ (List.mem_of_getElem? (i := 3) rfl)) (hb hby at_175) rfl ?_
    obtain ⟨T150, h150_, X150, e150, W150, st150⟩ := o_dastore (x := (4619567317775286272 : UInt64)) (j := (0 : Int32)) (Ls := #[.val (.int x0), .val (.long x1), .second, .val (.int x2), .val (.int x3), .val (.int x4), .val (.int (3 : Int32)), .val (.int (((x1 &&& (15 : Int64))).toInt32)), .val (.int ((((XT.ushrL x1 (4 : Int32)) &&& (15 : Int64))).toInt32)), .val (.int ((((XT.ushrL x1 (8 : Int32)) &&& (15 : Int64))).toInt32)), .val (.long d0), .second, .val (.long d1), .second, .val (.long d2), .second, .val (.long q0), .second, .val (.long q1), .second, .val (.long q2), .second, .val (.ref b120), .val (.ref b124), .val (.ref b130), .unset, .unset, .unset, .unset, .unset, .unset, .unset, .unset, .unset, .unset, .unset]) (st := []) X144 hx hZ e144 F147 (hb hby at_178) (by decide) (show _ < 4 by decide) rfl
    refine oGo.step (f' := (mkF m 179 #[.val (.int x0), .val (.long x1), .second, .val (.int x2), .val (.int x3), .val (.int x4), .val (.int (3 : Int32)), .val (.int (((x1 &&& (15 : Int64))).toInt32)), .val (.int ((((XT.ushrL x1 (4 : Int32)) &&& (15 : Int64))).toInt32)), .val (.int ((((XT.ushrL x1 (8 : Int32)) &&& (15 : Int64))).toInt32)), .val (.long d0), .second, .val (.long d1), .second, .val (.long d2), .second, .val (.long q0), .second, .val (.long q1), .second, .val (.long q2), .second, .val (.ref b120), .val (.ref b124), .val (.ref b130), .unset, .unset, .unset, .unset, .unset, .unset, .unset, .unset, .unset, .unset, .unset] [])) st150 ?_
    have N150 := Fr.snoc X150 N144 ge133
    have F151 := F147.set W150
    replace F151 : oDbls Z h150_ b130 [(4619567317775286272 : UInt64), (0 : UInt64), (0 : UInt64), (0 : UInt64)] := F151
    have K152 := Keep.of_wr W150
    have F153 := F148.keep K152 (ninS ne131 nin0)
    have F154 := F145.keep K152 (ninS ne132 nin0)
    have Z155 := Nat.le_trans Z149 K152.1
    refine o_aload (pc' := 181) X150 hx (hb hby at_179) rfl rfl rfl ?_
    refine o_iconst (pc' := 182) (v := (1 : Int32)) X150 hx (hb hby at_181) rfl rfl ?_
    refine o_ldc2d (pc' := 185) (b := (4619567317775286272 : UInt64)) X150 hx hZ hown (hw _ (List.mem_of_getElem? (i := 3) rfl)) (hb hby at_182) rfl ?_
    obtain ⟨T156, h156_, X156, e156, W156, st156⟩ := o_dastore (x := (4619567317775286272 : UInt64)) (j := (1 : Int32)) (Ls := #[.val (.int x0), .val (.long x1), .second, .val (.int x2), .val (.int x3), .val (.int x4), .val (.int (3 : Int32)), .val (.int (((x1 &&& (15 : Int64))).toInt32)), .val (.int ((((XT.ushrL x1 (4 : Int32)) &&& (15 : Int64))).toInt32)), .val (.int ((((XT.ushrL x1 (8 : Int32)) &&& (15 : Int64))).toInt32)), .val (.long d0), .second, .val (.long d1), .second, .val (.long d2), .second, .val (.long q0), .second, .val (.long q1), .second, .val (.long q2), .second, .val (.ref b120), .val (.ref b124), .val (.ref b130), .unset, .unset, .unset, .unset, .unset, .unset, .unset, .unset, .unset, .unset, .unset]) (st := []) X150 hx hZ e150 F151 (hb hby at_185) (by decide) (show _ < 4 by decide) rfl
    refine oGo.step (f' := (mkF m 186 #[.val (.int x0), .val (.long x1), .second, .val (.int x2), .val (.int x3), .val (.int x4), .val (.int (3 : Int32)), .val (.int (((x1 &&& (15 : Int64))).toInt32)), .val (.int ((((XT.ushrL x1 (4 : Int32)) &&& (15 : Int64))).toInt32)), .val (.int ((((XT.ushrL x1 (8 : Int32)) &&& (15 : Int64))).toInt32)), .val (.long d0), .second, .val (.long d1), .second, .val (.long d2), .second, .val (.long q0), .second, .val (.long q1), .second, .val (.long q2), .second, .val (.ref b120), .val (.ref b124), .val (.ref b130), .unset, .unset, .unset, .unset, .unset, .unset, .unset, .unset, .unset, .unset, .unset] [])) st156 ?_
    have N156 := Fr.snoc X156 N150 ge133
    have F157 := F151.set W156
    replace F157 : oDbls Z h156_ b130 [(4619567317775286272 : UInt64), (4619567317775286272 : UInt64), (0 : UInt64), (0 : UInt64)] := F157
    have K158 := Keep.of_wr W156
    have F159 := F153.keep K158 (ninS ne131 nin0)
    have F160 := F154.keep K158 (ninS ne132 nin0)
    have Z161 := Nat.le_trans Z155 K158.1
    refine o_iload (pc' := 188) X156 hx (hb hby at_186) rfl rfl ?_
    refine o_iconst (pc' := 189) (v := (1 : Int32)) X156 hx (hb hby at_188) rfl rfl ?_
    refine o_icmpF (pc' := 192) X156 hx (hb hby at_189) (XT.ii_le_f (by decide)) rfl ?_
    refine o_aload (pc' := 194) X156 hx (hb hby at_192) rfl rfl rfl ?_
    refine o_iconst (pc' := 195) (v := (1 : Int32)) X156 hx (hb hby at_194) rfl rfl ?_
    refine o_lload (pc' := 197) X156 hx (hb hby at_195) rfl rfl ?_
    refine o_l2d (pc' := 198) (v := (dy A1 0)) X156 hx (hb hby at_197) (dy_l2d hq1) rfl ?_
    obtain ⟨T162, h162_, X162, e162, W162, st162⟩ := o_dastore (x := (dy A1 0)) (j := (1 : Int32)) (Ls := #[.val (.int x0), .val (.long x1), .second, .val (.int x2), .val (.int x3), .val (.int x4), .val (.int (3 : Int32)), .val (.int (((x1 &&& (15 : Int64))).toInt32)), .val (.int ((((XT.ushrL x1 (4 : Int32)) &&& (15 : Int64))).toInt32)), .val (.int ((((XT.ushrL x1 (8 : Int32)) &&& (15 : Int64))).toInt32)), .val (.long d0), .second, .val (.long d1), .second, .val (.long d2), .second, .val (.long q0), .second, .val (.long q1), .second, .val (.long q2), .second, .val (.ref b120), .val (.ref b124), .val (.ref b130), .unset, .unset, .unset, .unset, .unset, .unset, .unset, .unset, .unset, .unset, .unset]) (st := []) X156 hx hZ e156 F159 (hb hby at_198) (by decide) (show _ < 3 by decide) rfl
    refine oGo.step (f' := (mkF m 199 #[.val (.int x0), .val (.long x1), .second, .val (.int x2), .val (.int x3), .val (.int x4), .val (.int (3 : Int32)), .val (.int (((x1 &&& (15 : Int64))).toInt32)), .val (.int ((((XT.ushrL x1 (4 : Int32)) &&& (15 : Int64))).toInt32)), .val (.int ((((XT.ushrL x1 (8 : Int32)) &&& (15 : Int64))).toInt32)), .val (.long d0), .second, .val (.long d1), .second, .val (.long d2), .second, .val (.long q0), .second, .val (.long q1), .second, .val (.long q2), .second, .val (.ref b120), .val (.ref b124), .val (.ref b130), .unset, .unset, .unset, .unset, .unset, .unset, .unset, .unset, .unset, .unset, .unset] [])) st162 ?_
    have N162 := Fr.snoc X162 N156 ge121
    have F163 := F159.set W162
    replace F163 : oDbls Z h162_ b120 [(dy A0 0), (dy A1 0), (0 : UInt64)] := F163
    have K164 := Keep.of_wr W162
    have F165 := F160.keep K164 (ninS (Ne.symm ne125) nin0)
    have F166 := F157.keep K164 (ninS (Ne.symm ne131) nin0)
    have Z167 := Nat.le_trans Z161 K164.1
    refine o_aload (pc' := 201) X162 hx (hb hby at_199) rfl rfl rfl ?_
    refine o_iconst (pc' := 202) (v := (1 : Int32)) X162 hx (hb hby at_201) rfl rfl ?_
    refine o_lload (pc' := 204) X162 hx (hb hby at_202) rfl rfl ?_
    refine o_lload (pc' := 206) X162 hx (hb hby at_204) rfl rfl ?_
    refine o_lsub (pc' := 207) X162 hx (hb hby at_206)  rfl ?_
    refine o_l2d (pc' := 208) (v := (dy B1 0)) X162 hx (hb hby at_207) (dy_l2d hb1) rfl ?_
    obtain ⟨T168, h168_, X168, e168, W168, st168⟩ := o_dastore (x := (dy B1 0)) (j := (1 : Int32)) (Ls := #[.val (.int x0), .val (.long x1), .second, .val (.int x2), .val (.int x3), .val (.int x4), .val (.int (3 : Int32)), .val (.int (((x1 &&& (15 : Int64))).toInt32)), .val (.int ((((XT.ushrL x1 (4 : Int32)) &&& (15 : Int64))).toInt32)), .val (.int ((((XT.ushrL x1 (8 : Int32)) &&& (15 : Int64))).toInt32)), .val (.long d0), .second, .val (.long d1), .second, .val (.long d2), .second, .val (.long q0), .second, .val (.long q1), .second, .val (.long q2), .second, .val (.ref b120), .val (.ref b124), .val (.ref b130), .unset, .unset, .unset, .unset, .unset, .unset, .unset, .unset, .unset, .unset, .unset]) (st := []) X162 hx hZ e162 F165 (hb hby at_208) (by decide) (show _ < 3 by decide) rfl
    refine oGo.step (f' := (mkF m 209 #[.val (.int x0), .val (.long x1), .second, .val (.int x2), .val (.int x3), .val (.int x4), .val (.int (3 : Int32)), .val (.int (((x1 &&& (15 : Int64))).toInt32)), .val (.int ((((XT.ushrL x1 (4 : Int32)) &&& (15 : Int64))).toInt32)), .val (.int ((((XT.ushrL x1 (8 : Int32)) &&& (15 : Int64))).toInt32)), .val (.long d0), .second, .val (.long d1), .second, .val (.long d2), .second, .val (.long q0), .second, .val (.long q1), .second, .val (.long q2), .second, .val (.ref b120), .val (.ref b124), .val (.ref b130), .unset, .unset, .unset, .unset, .unset, .unset, .unset, .unset, .unset, .unset, .unset] [])) st168 ?_
    have N168 := Fr.snoc X168 N162 ge126
    have F169 := F165.set W168
    replace F169 : oDbls Z h168_ b124 [(dy B0 0), (dy B1 0), (0 : UInt64)] := F169
    have K170 := Keep.of_wr W168
    have F171 := F166.keep K170 (ninS (Ne.symm ne132) nin0)
    have F172 := F163.keep K170 (ninS ne125 nin0)
    have Z173 := Nat.le_trans Z167 K170.1
    refine o_aload (pc' := 211) X168 hx (hb hby at_209) rfl rfl rfl ?_
    refine o_iconst (pc' := 212) (v := (2 : Int32)) X168 hx (hb hby at_211) rfl rfl ?_
    refine o_ldc2d (pc' := 215) (b := (4619567317775286272 : UInt64)) X168 hx hZ hown (hw _ (List.mem_of_getElem? (i := 3) rfl)) (hb hby at_212) rfl ?_
    obtain ⟨T174, h174_, X174, e174, W174, st174⟩ := o_dastore (x := (4619567317775286272 : UInt64)) (j := (2 : Int32)) (Ls := #[.val (.int x0), .val (.long x1), .second, .val (.int x2), .val (.int x3), .val (.int x4), .val (.int (3 : Int32)), .val (.int (((x1 &&& (15 : Int64))).toInt32)), .val (.int ((((XT.ushrL x1 (4 : Int32)) &&& (15 : Int64))).toInt32)), .val (.int ((((XT.ushrL x1 (8 : Int32)) &&& (15 : Int64))).toInt32)), .val (.long d0), .second, .val (.long d1), .second, .val (.long d2), .second, .val (.long q0), .second, .val (.long q1), .second, .val (.long q2), .second, .val (.ref b120), .val (.ref b124), .val (.ref b130), .unset, .unset, .unset, .unset, .unset, .unset, .unset, .unset, .unset, .unset, .unset]) (st := []) X168 hx hZ e168 F171 (hb hby at_215) (by decide) (show _ < 4 by decide) rfl
    refine oGo.step (f' := (mkF m 216 #[.val (.int x0), .val (.long x1), .second, .val (.int x2), .val (.int x3), .val (.int x4), .val (.int (3 : Int32)), .val (.int (((x1 &&& (15 : Int64))).toInt32)), .val (.int ((((XT.ushrL x1 (4 : Int32)) &&& (15 : Int64))).toInt32)), .val (.int ((((XT.ushrL x1 (8 : Int32)) &&& (15 : Int64))).toInt32)), .val (.long d0), .second, .val (.long d1), .second, .val (.long d2), .second, .val (.long q0), .second, .val (.long q1), .second, .val (.long q2), .second, .val (.ref b120), .val (.ref b124), .val (.ref b130), .unset, .unset, .unset, .unset, .unset, .unset, .unset, .unset, .unset, .unset, .unset] [])) st174 ?_
    have N174 := Fr.snoc X174 N168 ge133
    have F175 := F171.set W174
    replace F175 : oDbls Z h174_ b130 [(4619567317775286272 : UInt64), (4619567317775286272 : UInt64), (4619567317775286272 : UInt64), (0 : UInt64)] := F175
    have K176 := Keep.of_wr W174
    have F177 := F172.keep K176 (ninS ne131 nin0)
    have F178 := F169.keep K176 (ninS ne132 nin0)
    have Z179 := Nat.le_trans Z173 K176.1
    refine o_iload (pc' := 218) X174 hx (hb hby at_216) rfl rfl ?_
    refine o_iconst (pc' := 219) (v := (2 : Int32)) X174 hx (hb hby at_218) rfl rfl ?_
    refine o_icmpF (pc' := 222) X174 hx (hb hby at_219) (XT.ii_le_f (by decide)) rfl ?_
    refine o_aload (pc' := 224) X174 hx (hb hby at_222) rfl rfl rfl ?_
    refine o_iconst (pc' := 225) (v := (2 : Int32)) X174 hx (hb hby at_224) rfl rfl ?_
    refine o_lload (pc' := 227) X174 hx (hb hby at_225) rfl rfl ?_
    refine o_l2d (pc' := 228) (v := (dy A2 0)) X174 hx (hb hby at_227) (dy_l2d hq2) rfl ?_
    obtain ⟨T180, h180_, X180, e180, W180, st180⟩ := o_dastore (x := (dy A2 0)) (j := (2 : Int32)) (Ls := #[.val (.int x0), .val (.long x1), .second, .val (.int x2), .val (.int x3), .val (.int x4), .val (.int (3 : Int32)), .val (.int (((x1 &&& (15 : Int64))).toInt32)), .val (.int ((((XT.ushrL x1 (4 : Int32)) &&& (15 : Int64))).toInt32)), .val (.int ((((XT.ushrL x1 (8 : Int32)) &&& (15 : Int64))).toInt32)), .val (.long d0), .second, .val (.long d1), .second, .val (.long d2), .second, .val (.long q0), .second, .val (.long q1), .second, .val (.long q2), .second, .val (.ref b120), .val (.ref b124), .val (.ref b130), .unset, .unset, .unset, .unset, .unset, .unset, .unset, .unset, .unset, .unset, .unset]) (st := []) X174 hx hZ e174 F177 (hb hby at_228) (by decide) (show _ < 3 by decide) rfl
    refine oGo.step (f' := (mkF m 229 #[.val (.int x0), .val (.long x1), .second, .val (.int x2), .val (.int x3), .val (.int x4), .val (.int (3 : Int32)), .val (.int (((x1 &&& (15 : Int64))).toInt32)), .val (.int ((((XT.ushrL x1 (4 : Int32)) &&& (15 : Int64))).toInt32)), .val (.int ((((XT.ushrL x1 (8 : Int32)) &&& (15 : Int64))).toInt32)), .val (.long d0), .second, .val (.long d1), .second, .val (.long d2), .second, .val (.long q0), .second, .val (.long q1), .second, .val (.long q2), .second, .val (.ref b120), .val (.ref b124), .val (.ref b130), .unset, .unset, .unset, .unset, .unset, .unset, .unset, .unset, .unset, .unset, .unset] [])) st180 ?_
    have N180 := Fr.snoc X180 N174 ge121
    have F181 := F177.set W180
    replace F181 : oDbls Z h180_ b120 [(dy A0 0), (dy A1 0), (dy A2 0)] := F181
    have K182 := Keep.of_wr W180
    have F183 := F178.keep K182 (ninS (Ne.symm ne125) nin0)
    have F184 := F175.keep K182 (ninS (Ne.symm ne131) nin0)
    have Z185 := Nat.le_trans Z179 K182.1
    refine o_aload (pc' := 231) X180 hx (hb hby at_229) rfl rfl rfl ?_
    refine o_iconst (pc' := 232) (v := (2 : Int32)) X180 hx (hb hby at_231) rfl rfl ?_
    refine o_lload (pc' := 234) X180 hx (hb hby at_232) rfl rfl ?_
    refine o_lload (pc' := 236) X180 hx (hb hby at_234) rfl rfl ?_
    refine o_lsub (pc' := 237) X180 hx (hb hby at_236)  rfl ?_
    refine o_l2d (pc' := 238) (v := (dy B2 0)) X180 hx (hb hby at_237) (dy_l2d hb2) rfl ?_
    obtain ⟨T186, h186_, X186, e186, W186, st186⟩ := o_dastore (x := (dy B2 0)) (j := (2 : Int32)) (Ls := #[.val (.int x0), .val (.long x1), .second, .val (.int x2), .val (.int x3), .val (.int x4), .val (.int (3 : Int32)), .val (.int (((x1 &&& (15 : Int64))).toInt32)), .val (.int ((((XT.ushrL x1 (4 : Int32)) &&& (15 : Int64))).toInt32)), .val (.int ((((XT.ushrL x1 (8 : Int32)) &&& (15 : Int64))).toInt32)), .val (.long d0), .second, .val (.long d1), .second, .val (.long d2), .second, .val (.long q0), .second, .val (.long q1), .second, .val (.long q2), .second, .val (.ref b120), .val (.ref b124), .val (.ref b130), .unset, .unset, .unset, .unset, .unset, .unset, .unset, .unset, .unset, .unset, .unset]) (st := []) X180 hx hZ e180 F183 (hb hby at_238) (by decide) (show _ < 3 by decide) rfl
    refine oGo.step (f' := (mkF m 239 #[.val (.int x0), .val (.long x1), .second, .val (.int x2), .val (.int x3), .val (.int x4), .val (.int (3 : Int32)), .val (.int (((x1 &&& (15 : Int64))).toInt32)), .val (.int ((((XT.ushrL x1 (4 : Int32)) &&& (15 : Int64))).toInt32)), .val (.int ((((XT.ushrL x1 (8 : Int32)) &&& (15 : Int64))).toInt32)), .val (.long d0), .second, .val (.long d1), .second, .val (.long d2), .second, .val (.long q0), .second, .val (.long q1), .second, .val (.long q2), .second, .val (.ref b120), .val (.ref b124), .val (.ref b130), .unset, .unset, .unset, .unset, .unset, .unset, .unset, .unset, .unset, .unset, .unset] [])) st186 ?_
    have N186 := Fr.snoc X186 N180 ge126
    have F187 := F183.set W186
    replace F187 : oDbls Z h186_ b124 [(dy B0 0), (dy B1 0), (dy B2 0)] := F187
    have K188 := Keep.of_wr W186
    have F189 := F184.keep K188 (ninS (Ne.symm ne132) nin0)
    have F190 := F181.keep K188 (ninS ne125 nin0)
    have Z191 := Nat.le_trans Z185 K188.1
    refine o_aload (pc' := 241) X186 hx (hb hby at_239) rfl rfl rfl ?_
    refine o_iconst (pc' := 242) (v := (3 : Int32)) X186 hx (hb hby at_241) rfl rfl ?_
    refine o_ldc2d (pc' := 245) (b := (4619567317775286272 : UInt64)) X186 hx hZ hown (hw _ (List.mem_of_getElem? (i := 3) rfl)) (hb hby at_242) rfl ?_
    obtain ⟨T192, h192_, X192, e192, W192, st192⟩ := o_dastore (x := (4619567317775286272 : UInt64)) (j := (3 : Int32)) (Ls := #[.val (.int x0), .val (.long x1), .second, .val (.int x2), .val (.int x3), .val (.int x4), .val (.int (3 : Int32)), .val (.int (((x1 &&& (15 : Int64))).toInt32)), .val (.int ((((XT.ushrL x1 (4 : Int32)) &&& (15 : Int64))).toInt32)), .val (.int ((((XT.ushrL x1 (8 : Int32)) &&& (15 : Int64))).toInt32)), .val (.long d0), .second, .val (.long d1), .second, .val (.long d2), .second, .val (.long q0), .second, .val (.long q1), .second, .val (.long q2), .second, .val (.ref b120), .val (.ref b124), .val (.ref b130), .unset, .unset, .unset, .unset, .unset, .unset, .unset, .unset, .unset, .unset, .unset]) (st := []) X186 hx hZ e186 F189 (hb hby at_245) (by decide) (show _ < 4 by decide) rfl
    refine oGo.step (f' := (mkF m 246 #[.val (.int x0), .val (.long x1), .second, .val (.int x2), .val (.int x3), .val (.int x4), .val (.int (3 : Int32)), .val (.int (((x1 &&& (15 : Int64))).toInt32)), .val (.int ((((XT.ushrL x1 (4 : Int32)) &&& (15 : Int64))).toInt32)), .val (.int ((((XT.ushrL x1 (8 : Int32)) &&& (15 : Int64))).toInt32)), .val (.long d0), .second, .val (.long d1), .second, .val (.long d2), .second, .val (.long q0), .second, .val (.long q1), .second, .val (.long q2), .second, .val (.ref b120), .val (.ref b124), .val (.ref b130), .unset, .unset, .unset, .unset, .unset, .unset, .unset, .unset, .unset, .unset, .unset] [])) st192 ?_
    have N192 := Fr.snoc X192 N186 ge133
    have F193 := F189.set W192
    replace F193 : oDbls Z h192_ b130 [(4619567317775286272 : UInt64), (4619567317775286272 : UInt64), (4619567317775286272 : UInt64), (4619567317775286272 : UInt64)] := F193
    have K194 := Keep.of_wr W192
    have F195 := F190.keep K194 (ninS ne131 nin0)
    have F196 := F187.keep K194 (ninS ne132 nin0)
    have Z197 := Nat.le_trans Z191 K194.1
    refine o_aload (pc' := 248) X192 hx (hb hby at_246) rfl rfl rfl ?_
    refine o_aload (pc' := 250) X192 hx (hb hby at_248) rfl rfl rfl ?_
    refine o_aload (pc' := 252) X192 hx (hb hby at_250) rfl rfl rfl ?_
    obtain ⟨r198, T198, L198, X198, hq198, st198⟩ := o_callS X192 hx hZ hown (hw _ (List.mem_of_getElem? (i := 4) rfl)) (hw _ (List.mem_of_getElem? (i := 5) rfl)) (hw _ (List.mem_of_getElem? (i := 6) rfl)) (hw _ (List.mem_of_getElem? (i := 7) rfl)) (by decide) (rm1_3 l Z a0 hw b120 b124 b130 A0 A1 A2 B0 B1 B2 M0 M1 M2 (4619567317775286272 : UInt64) (4619567317775286272 : UInt64) (4619567317775286272 : UInt64) (4619567317775286272 : UInt64) h192_ n0 Z197 F195 F196 F193 ge133 ne131 ne132 s0 hM0 hA0 hB0 s1 hM1 hA1 hB1 s2 hM2 hA2 hB2) e192 (pc' := 255) (Ls := #[.val (.int x0), .val (.long x1), .second, .val (.int x2), .val (.int x3), .val (.int x4), .val (.int (3 : Int32)), .val (.int (((x1 &&& (15 : Int64))).toInt32)), .val (.int ((((XT.ushrL x1 (4 : Int32)) &&& (15 : Int64))).toInt32)), .val (.int ((((XT.ushrL x1 (8 : Int32)) &&& (15 : Int64))).toInt32)), .val (.long d0), .second, .val (.long d1), .second, .val (.long d2), .second, .val (.long q0), .second, .val (.long q1), .second, .val (.long q2), .second, .val (.ref b120), .val (.ref b124), .val (.ref b130), .unset, .unset, .unset, .unset, .unset, .unset, .unset, .unset, .unset, .unset, .unset]) (by rw [hml]; rfl) [(.ref b120), (.ref b124), (.ref b130)] [] rfl pd0 rfl rfl 0 (Nat.le_of_eq rfl) (hb hby at_252) rfl (by decide) (by decide) (by decide) (by decide)
    obtain ⟨rfl, N198, Kc198, W198_⟩ := hq198
    refine oGo.step (f' := (mkF m 255 #[.val (.int x0), .val (.long x1), .second, .val (.int x2), .val (.int x3), .val (.int x4), .val (.int (3 : Int32)), .val (.int (((x1 &&& (15 : Int64))).toInt32)), .val (.int ((((XT.ushrL x1 (4 : Int32)) &&& (15 : Int64))).toInt32)), .val (.int ((((XT.ushrL x1 (8 : Int32)) &&& (15 : Int64))).toInt32)), .val (.long d0), .second, .val (.long d1), .second, .val (.long d2), .second, .val (.long q0), .second, .val (.long q1), .second, .val (.long q2), .second, .val (.ref b120), .val (.ref b124), .val (.ref b130), .unset, .unset, .unset, .unset, .unset, .unset, .unset, .unset, .unset, .unset, .unset] [])) st198 ?_
    have N198_ := Fr.app N192 N198
    have K199 := Kc198
    have F200 := F195.keep K199 (ninS ne131 nin0)
    have F201 := F196.keep K199 (ninS ne132 nin0)
    have Z203 := Nat.le_trans Z197 K199.1
    have X198 := o_flat X198 rfl rfl
    refine o_lload (pc' := 257) X198 hx (hb hby at_255) rfl rfl ?_
    refine o_lload (pc' := 259) X198 hx (hb hby at_257) rfl rfl ?_
    refine o_lmul (pc' := 260) X198 hx (hb hby at_259)  rfl ?_
    refine o_lload (pc' := 262) X198 hx (hb hby at_260) rfl rfl ?_
    refine o_lmul (pc' := 263) X198 hx (hb hby at_262)  rfl ?_
    have hSSv := own_m3 hd0 (pw M0 hM0) hd1 (pw M1 hM1) hd2 (pw M2 hM2)
    have hSS := own_p3 (pw M0 hM0) (pw M1 hM1) (pw M2 hM2)
    obtain ⟨SS, hSSe⟩ : ∃ z, z = 2 ^ M0 * 2 ^ M1 * 2 ^ M2 := ⟨_, rfl⟩
    rw [← hSSe] at hSSv hSS
    refine o_l2d (pc' := 264) (v := (dy SS 0)) X198 hx (hb hby at_263) (dy_l2d hSSv) rfl ?_
    refine o_dstore (pc' := 266) (l' := #[.val (.int x0), .val (.long x1), .second, .val (.int x2), .val (.int x3), .val (.int x4), .val (.int (3 : Int32)), .val (.int (((x1 &&& (15 : Int64))).toInt32)), .val (.int ((((XT.ushrL x1 (4 : Int32)) &&& (15 : Int64))).toInt32)), .val (.int ((((XT.ushrL x1 (8 : Int32)) &&& (15 : Int64))).toInt32)), .val (.long d0), .second, .val (.long d1), .second, .val (.long d2), .second, .val (.long q0), .second, .val (.long q1), .second, .val (.long q2), .second, .val (.ref b120), .val (.ref b124), .val (.ref b130), .val (.double (dy SS 0)), .second, .unset, .unset, .unset, .unset, .unset, .unset, .unset, .unset, .unset]) X198 hx (hb hby at_264) rfl rfl ?_
    refine o_lload (pc' := 268) X198 hx (hb hby at_266) rfl rfl ?_
    refine o_lload (pc' := 270) X198 hx (hb hby at_268) rfl rfl ?_
    refine o_lmul (pc' := 271) X198 hx (hb hby at_270)  rfl ?_
    refine o_lload (pc' := 273) X198 hx (hb hby at_271) rfl rfl ?_
    refine o_lmul (pc' := 274) X198 hx (hb hby at_273)  rfl ?_
    refine o_lstore (pc' := 276) (l' := #[.val (.int x0), .val (.long x1), .second, .val (.int x2), .val (.int x3), .val (.int x4), .val (.int (3 : Int32)), .val (.int (((x1 &&& (15 : Int64))).toInt32)), .val (.int ((((XT.ushrL x1 (4 : Int32)) &&& (15 : Int64))).toInt32)), .val (.int ((((XT.ushrL x1 (8 : Int32)) &&& (15 : Int64))).toInt32)), .val (.long d0), .second, .val (.long d1), .second, .val (.long d2), .second, .val (.long q0), .second, .val (.long q1), .second, .val (.long q2), .second, .val (.ref b120), .val (.ref b124), .val (.ref b130), .val (.double (dy SS 0)), .second, .val (.long ((q0 * d1) * d2)), .second, .unset, .unset, .unset, .unset, .unset, .unset, .unset]) X198 hx (hb hby at_274) rfl rfl ?_
    refine o_lload (pc' := 278) X198 hx (hb hby at_276) rfl rfl ?_
    refine o_lload (pc' := 280) X198 hx (hb hby at_278) rfl rfl ?_
    refine o_lsub (pc' := 281) X198 hx (hb hby at_280)  rfl ?_
    refine o_lload (pc' := 283) X198 hx (hb hby at_281) rfl rfl ?_
    refine o_lmul (pc' := 284) X198 hx (hb hby at_283)  rfl ?_
    refine o_lload (pc' := 286) X198 hx (hb hby at_284) rfl rfl ?_
    refine o_lmul (pc' := 287) X198 hx (hb hby at_286)  rfl ?_
    refine o_lstore (pc' := 289) (l' := #[.val (.int x0), .val (.long x1), .second, .val (.int x2), .val (.int x3), .val (.int x4), .val (.int (3 : Int32)), .val (.int (((x1 &&& (15 : Int64))).toInt32)), .val (.int ((((XT.ushrL x1 (4 : Int32)) &&& (15 : Int64))).toInt32)), .val (.int ((((XT.ushrL x1 (8 : Int32)) &&& (15 : Int64))).toInt32)), .val (.long d0), .second, .val (.long d1), .second, .val (.long d2), .second, .val (.long q0), .second, .val (.long q1), .second, .val (.long q2), .second, .val (.ref b120), .val (.ref b124), .val (.ref b130), .val (.double (dy SS 0)), .second, .val (.long ((q0 * d1) * d2)), .second, .val (.long (((d0 - q0) * q1) * d2)), .second, .unset, .unset, .unset, .unset, .unset]) X198 hx (hb hby at_287) rfl rfl ?_
    refine o_lload (pc' := 291) X198 hx (hb hby at_289) rfl rfl ?_
    refine o_lload (pc' := 293) X198 hx (hb hby at_291) rfl rfl ?_
    refine o_lsub (pc' := 294) X198 hx (hb hby at_293)  rfl ?_
    refine o_lload (pc' := 296) X198 hx (hb hby at_294) rfl rfl ?_
    refine o_lload (pc' := 298) X198 hx (hb hby at_296) rfl rfl ?_
    refine o_lsub (pc' := 299) X198 hx (hb hby at_298)  rfl ?_
    refine o_lmul (pc' := 300) X198 hx (hb hby at_299)  rfl ?_
    refine o_lload (pc' := 302) X198 hx (hb hby at_300) rfl rfl ?_
    refine o_lmul (pc' := 303) X198 hx (hb hby at_302)  rfl ?_
    refine o_lstore (pc' := 305) (l' := #[.val (.int x0), .val (.long x1), .second, .val (.int x2), .val (.int x3), .val (.int x4), .val (.int (3 : Int32)), .val (.int (((x1 &&& (15 : Int64))).toInt32)), .val (.int ((((XT.ushrL x1 (4 : Int32)) &&& (15 : Int64))).toInt32)), .val (.int ((((XT.ushrL x1 (8 : Int32)) &&& (15 : Int64))).toInt32)), .val (.long d0), .second, .val (.long d1), .second, .val (.long d2), .second, .val (.long q0), .second, .val (.long q1), .second, .val (.long q2), .second, .val (.ref b120), .val (.ref b124), .val (.ref b130), .val (.double (dy SS 0)), .second, .val (.long ((q0 * d1) * d2)), .second, .val (.long (((d0 - q0) * q1) * d2)), .second, .val (.long (((d0 - q0) * (d1 - q1)) * q2)), .second, .unset, .unset, .unset]) X198 hx (hb hby at_303) rfl rfl ?_
    refine o_lload (pc' := 307) X198 hx (hb hby at_305) rfl rfl ?_
    refine o_lload (pc' := 309) X198 hx (hb hby at_307) rfl rfl ?_
    refine o_lsub (pc' := 310) X198 hx (hb hby at_309)  rfl ?_
    refine o_lload (pc' := 312) X198 hx (hb hby at_310) rfl rfl ?_
    refine o_lload (pc' := 314) X198 hx (hb hby at_312) rfl rfl ?_
    refine o_lsub (pc' := 315) X198 hx (hb hby at_314)  rfl ?_
    refine o_lmul (pc' := 316) X198 hx (hb hby at_315)  rfl ?_
    refine o_lload (pc' := 318) X198 hx (hb hby at_316) rfl rfl ?_
    refine o_lload (pc' := 320) X198 hx (hb hby at_318) rfl rfl ?_
    refine o_lsub (pc' := 321) X198 hx (hb hby at_320)  rfl ?_
    refine o_lmul (pc' := 322) X198 hx (hb hby at_321)  rfl ?_
    refine o_lstore (pc' := 324) (l' := #[.val (.int x0), .val (.long x1), .second, .val (.int x2), .val (.int x3), .val (.int x4), .val (.int (3 : Int32)), .val (.int (((x1 &&& (15 : Int64))).toInt32)), .val (.int ((((XT.ushrL x1 (4 : Int32)) &&& (15 : Int64))).toInt32)), .val (.int ((((XT.ushrL x1 (8 : Int32)) &&& (15 : Int64))).toInt32)), .val (.long d0), .second, .val (.long d1), .second, .val (.long d2), .second, .val (.long q0), .second, .val (.long q1), .second, .val (.long q2), .second, .val (.ref b120), .val (.ref b124), .val (.ref b130), .val (.double (dy SS 0)), .second, .val (.long ((q0 * d1) * d2)), .second, .val (.long (((d0 - q0) * q1) * d2)), .second, .val (.long (((d0 - q0) * (d1 - q1)) * q2)), .second, .val (.long (((d0 - q0) * (d1 - q1)) * (d2 - q2))), .second, .unset]) X198 hx (hb hby at_322) rfl rfl ?_
    refine o_aload (pc' := 326) X198 hx (hb hby at_324) rfl rfl rfl ?_
    refine o_iconst (pc' := 327) (v := (0 : Int32)) X198 hx (hb hby at_326) rfl rfl ?_
    refine o_daload (pc' := 328) (v := (dy (1 * A0) (0 + M0))) X198 hx hZ (rfl : T198.heap = _) W198_ (hb hby at_327) (by decide) rfl rfl ?_
    refine o_dload (pc' := 330) X198 hx (hb hby at_328) rfl rfl ?_
    refine o_lload (pc' := 332) X198 hx (hb hby at_330) rfl rfl ?_
    obtain ⟨r204, T204, L204, X204, hq204, st204⟩ := o_callS X198 hx hZ hown (hw _ (List.mem_of_getElem? (i := 8) rfl)) (hw _ (List.mem_of_getElem? (i := 9) rfl)) (hw _ (List.mem_of_getElem? (i := 10) rfl)) (hw _ (List.mem_of_getElem? (i := 11) rfl)) (by decide) (rm2 l Z a0 hw (1 * A0) (0 + M0) SS (A0 * 2 ^ M1 * 2 ^ M2) ((q0 * d1) * d2) T198.heap n0 Z203 (own_lim (own_lm (own_l1) hA0) (by decide)) hSS (by omega) (own_p3 hA0 (pw M1 hM1) (pw M2 hM2)) (by rw [hSSe]; simp only [Nat.pow_add, Nat.pow_zero, Nat.one_mul, Nat.mul_one, Nat.zero_add] <;> ac_rfl) (own_m3 hq0 hA0 hd1 (pw M1 hM1) hd2 (pw M2 hM2))) (rfl : T198.heap = _) (pc' := 335) (Ls := #[.val (.int x0), .val (.long x1), .second, .val (.int x2), .val (.int x3), .val (.int x4), .val (.int (3 : Int32)), .val (.int (((x1 &&& (15 : Int64))).toInt32)), .val (.int ((((XT.ushrL x1 (4 : Int32)) &&& (15 : Int64))).toInt32)), .val (.int ((((XT.ushrL x1 (8 : Int32)) &&& (15 : Int64))).toInt32)), .val (.long d0), .second, .val (.long d1), .second, .val (.long d2), .second, .val (.long q0), .second, .val (.long q1), .second, .val (.long q2), .second, .val (.ref b120), .val (.ref b124), .val (.ref b130), .val (.double (dy SS 0)), .second, .val (.long ((q0 * d1) * d2)), .second, .val (.long (((d0 - q0) * q1) * d2)), .second, .val (.long (((d0 - q0) * (d1 - q1)) * q2)), .second, .val (.long (((d0 - q0) * (d1 - q1)) * (d2 - q2))), .second, .unset]) (by rw [hml]; rfl) [(.double (dy (1 * A0) (0 + M0))), (.double (dy SS 0)), (.long ((q0 * d1) * d2))] [] rfl pd1 rfl rfl 0 (Nat.le_of_eq rfl) (hb hby at_332) rfl (by decide) (by decide) (by decide) (by decide)
    obtain ⟨rfl, rfl, Kc204⟩ := hq204
    refine oGo.step (f' := (mkF m 335 #[.val (.int x0), .val (.long x1), .second, .val (.int x2), .val (.int x3), .val (.int x4), .val (.int (3 : Int32)), .val (.int (((x1 &&& (15 : Int64))).toInt32)), .val (.int ((((XT.ushrL x1 (4 : Int32)) &&& (15 : Int64))).toInt32)), .val (.int ((((XT.ushrL x1 (8 : Int32)) &&& (15 : Int64))).toInt32)), .val (.long d0), .second, .val (.long d1), .second, .val (.long d2), .second, .val (.long q0), .second, .val (.long q1), .second, .val (.long q2), .second, .val (.ref b120), .val (.ref b124), .val (.ref b130), .val (.double (dy SS 0)), .second, .val (.long ((q0 * d1) * d2)), .second, .val (.long (((d0 - q0) * q1) * d2)), .second, .val (.long (((d0 - q0) * (d1 - q1)) * q2)), .second, .val (.long (((d0 - q0) * (d1 - q1)) * (d2 - q2))), .second, .unset] [(.int (1 : Int32))])) st204 ?_
    have e204 : T204.heap = T198.heap := Kc204
    have X204 := o_same X204 rfl rfl
    refine o_ifF (pc' := 338) X204 hx (hb hby at_335) (XT.i0_eq_f (by decide)) rfl ?_
    refine o_aload (pc' := 340) X204 hx (hb hby at_338) rfl rfl rfl ?_
    refine o_iload (pc' := 342) X204 hx (hb hby at_340) rfl rfl ?_
    refine o_daload (pc' := 343) (v := (dy (((1 * B0) * B1) * B2) (((0 + M0) + M1) + M2))) X204 hx hZ e204 W198_ (hb hby at_342) (by decide) rfl rfl ?_
    refine o_dload (pc' := 345) X204 hx (hb hby at_343) rfl rfl ?_
    refine o_lload (pc' := 347) X204 hx (hb hby at_345) rfl rfl ?_
    obtain ⟨r205, T205, L205, X205, hq205, st205⟩ := o_callS X204 hx hZ hown (hw _ (List.mem_of_getElem? (i := 8) rfl)) (hw _ (List.mem_of_getElem? (i := 9) rfl)) (hw _ (List.mem_of_getElem? (i := 10) rfl)) (hw _ (List.mem_of_getElem? (i := 11) rfl)) (by decide) (rm2 l Z a0 hw (((1 * B0) * B1) * B2) (((0 + M0) + M1) + M2) SS (B0 * B1 * B2) (((d0 - q0) * (d1 - q1)) * (d2 - q2)) T198.heap n0 Z203 (own_lim (own_lm (own_lm (own_lm (own_l1) hB0) hB1) hB2) (by decide)) hSS (by omega) (own_p3 hB0 hB1 hB2) (by rw [hSSe]; simp only [Nat.pow_add, Nat.pow_zero, Nat.one_mul, Nat.mul_one, Nat.zero_add] <;> ac_rfl) (own_m3 hb0 hB0 hb1 hB1 hb2 hB2)) e204 (pc' := 350) (Ls := #[.val (.int x0), .val (.long x1), .second, .val (.int x2), .val (.int x3), .val (.int x4), .val (.int (3 : Int32)), .val (.int (((x1 &&& (15 : Int64))).toInt32)), .val (.int ((((XT.ushrL x1 (4 : Int32)) &&& (15 : Int64))).toInt32)), .val (.int ((((XT.ushrL x1 (8 : Int32)) &&& (15 : Int64))).toInt32)), .val (.long d0), .second, .val (.long d1), .second, .val (.long d2), .second, .val (.long q0), .second, .val (.long q1), .second, .val (.long q2), .second, .val (.ref b120), .val (.ref b124), .val (.ref b130), .val (.double (dy SS 0)), .second, .val (.long ((q0 * d1) * d2)), .second, .val (.long (((d0 - q0) * q1) * d2)), .second, .val (.long (((d0 - q0) * (d1 - q1)) * q2)), .second, .val (.long (((d0 - q0) * (d1 - q1)) * (d2 - q2))), .second, .unset]) (by rw [hml]; rfl) [(.double (dy (((1 * B0) * B1) * B2) (((0 + M0) + M1) + M2))), (.double (dy SS 0)), (.long (((d0 - q0) * (d1 - q1)) * (d2 - q2)))] [] rfl pd1 rfl rfl 0 (Nat.le_of_eq rfl) (hb hby at_347) rfl (by decide) (by decide) (by decide) (by decide)
    obtain ⟨rfl, rfl, Kc205⟩ := hq205
    refine oGo.step (f' := (mkF m 350 #[.val (.int x0), .val (.long x1), .second, .val (.int x2), .val (.int x3), .val (.int x4), .val (.int (3 : Int32)), .val (.int (((x1 &&& (15 : Int64))).toInt32)), .val (.int ((((XT.ushrL x1 (4 : Int32)) &&& (15 : Int64))).toInt32)), .val (.int ((((XT.ushrL x1 (8 : Int32)) &&& (15 : Int64))).toInt32)), .val (.long d0), .second, .val (.long d1), .second, .val (.long d2), .second, .val (.long q0), .second, .val (.long q1), .second, .val (.long q2), .second, .val (.ref b120), .val (.ref b124), .val (.ref b130), .val (.double (dy SS 0)), .second, .val (.long ((q0 * d1) * d2)), .second, .val (.long (((d0 - q0) * q1) * d2)), .second, .val (.long (((d0 - q0) * (d1 - q1)) * q2)), .second, .val (.long (((d0 - q0) * (d1 - q1)) * (d2 - q2))), .second, .unset] [(.int (1 : Int32))])) st205 ?_
    have e205 : T205.heap = T198.heap := Kc205
    have X205 := o_same X205 rfl rfl
    refine o_ifF (pc' := 353) X205 hx (hb hby at_350) (XT.i0_eq_f (by decide)) rfl ?_
    refine o_iconst (pc' := 354) (v := (1 : Int32)) X205 hx (hb hby at_353) rfl rfl ?_
    refine o_goto (pc' := 358) X205 hx (hb hby at_354) (by decide) (by decide) ?_
    refine o_istore (pc' := 360) (l' := #[.val (.int x0), .val (.long x1), .second, .val (.int x2), .val (.int x3), .val (.int x4), .val (.int (3 : Int32)), .val (.int (((x1 &&& (15 : Int64))).toInt32)), .val (.int ((((XT.ushrL x1 (4 : Int32)) &&& (15 : Int64))).toInt32)), .val (.int ((((XT.ushrL x1 (8 : Int32)) &&& (15 : Int64))).toInt32)), .val (.long d0), .second, .val (.long d1), .second, .val (.long d2), .second, .val (.long q0), .second, .val (.long q1), .second, .val (.long q2), .second, .val (.ref b120), .val (.ref b124), .val (.ref b130), .val (.double (dy SS 0)), .second, .val (.long ((q0 * d1) * d2)), .second, .val (.long (((d0 - q0) * q1) * d2)), .second, .val (.long (((d0 - q0) * (d1 - q1)) * q2)), .second, .val (.long (((d0 - q0) * (d1 - q1)) * (d2 - q2))), .second, .val (.int (1 : Int32))]) X205 hx (hb hby at_358) rfl rfl ?_
    refine o_iload (pc' := 362) X205 hx (hb hby at_360) rfl rfl ?_
    refine o_iconst (pc' := 363) (v := (1 : Int32)) X205 hx (hb hby at_362) rfl rfl ?_
    refine o_icmpF (pc' := 366) X205 hx (hb hby at_363) (XT.ii_le_f (by decide)) rfl ?_
    refine o_iload (pc' := 368) X205 hx (hb hby at_366) rfl rfl ?_
    refine o_ifF (pc' := 371) X205 hx (hb hby at_368) (XT.i0_eq_f (by decide)) rfl ?_
    refine o_aload (pc' := 373) X205 hx (hb hby at_371) rfl rfl rfl ?_
    refine o_iconst (pc' := 374) (v := (1 : Int32)) X205 hx (hb hby at_373) rfl rfl ?_
    refine o_daload (pc' := 375) (v := (dy ((1 * B0) * A1) ((0 + M0) + M1))) X205 hx hZ e205 W198_ (hb hby at_374) (by decide) rfl rfl ?_
    refine o_dload (pc' := 377) X205 hx (hb hby at_375) rfl rfl ?_
    refine o_lload (pc' := 379) X205 hx (hb hby at_377) rfl rfl ?_
    obtain ⟨r206, T206, L206, X206, hq206, st206⟩ := o_callS X205 hx hZ hown (hw _ (List.mem_of_getElem? (i := 8) rfl)) (hw _ (List.mem_of_getElem? (i := 9) rfl)) (hw _ (List.mem_of_getElem? (i := 10) rfl)) (hw _ (List.mem_of_getElem? (i := 11) rfl)) (by decide) (rm2 l Z a0 hw ((1 * B0) * A1) ((0 + M0) + M1) SS (B0 * A1 * 2 ^ M2) (((d0 - q0) * q1) * d2) T198.heap n0 Z203 (own_lim (own_lm (own_lm (own_l1) hB0) hA1) (by decide)) hSS (by omega) (own_p3 hB0 hA1 (pw M2 hM2)) (by rw [hSSe]; simp only [Nat.pow_add, Nat.pow_zero, Nat.one_mul, Nat.mul_one, Nat.zero_add] <;> ac_rfl) (own_m3 hb0 hB0 hq1 hA1 hd2 (pw M2 hM2))) e205 (pc' := 382) (Ls := #[.val (.int x0), .val (.long x1), .second, .val (.int x2), .val (.int x3), .val (.int x4), .val (.int (3 : Int32)), .val (.int (((x1 &&& (15 : Int64))).toInt32)), .val (.int ((((XT.ushrL x1 (4 : Int32)) &&& (15 : Int64))).toInt32)), .val (.int ((((XT.ushrL x1 (8 : Int32)) &&& (15 : Int64))).toInt32)), .val (.long d0), .second, .val (.long d1), .second, .val (.long d2), .second, .val (.long q0), .second, .val (.long q1), .second, .val (.long q2), .second, .val (.ref b120), .val (.ref b124), .val (.ref b130), .val (.double (dy SS 0)), .second, .val (.long ((q0 * d1) * d2)), .second, .val (.long (((d0 - q0) * q1) * d2)), .second, .val (.long (((d0 - q0) * (d1 - q1)) * q2)), .second, .val (.long (((d0 - q0) * (d1 - q1)) * (d2 - q2))), .second, .val (.int (1 : Int32))]) (by rw [hml]; rfl) [(.double (dy ((1 * B0) * A1) ((0 + M0) + M1))), (.double (dy SS 0)), (.long (((d0 - q0) * q1) * d2))] [] rfl pd1 rfl rfl 0 (Nat.le_of_eq rfl) (hb hby at_379) rfl (by decide) (by decide) (by decide) (by decide)
    obtain ⟨rfl, rfl, Kc206⟩ := hq206
    refine oGo.step (f' := (mkF m 382 #[.val (.int x0), .val (.long x1), .second, .val (.int x2), .val (.int x3), .val (.int x4), .val (.int (3 : Int32)), .val (.int (((x1 &&& (15 : Int64))).toInt32)), .val (.int ((((XT.ushrL x1 (4 : Int32)) &&& (15 : Int64))).toInt32)), .val (.int ((((XT.ushrL x1 (8 : Int32)) &&& (15 : Int64))).toInt32)), .val (.long d0), .second, .val (.long d1), .second, .val (.long d2), .second, .val (.long q0), .second, .val (.long q1), .second, .val (.long q2), .second, .val (.ref b120), .val (.ref b124), .val (.ref b130), .val (.double (dy SS 0)), .second, .val (.long ((q0 * d1) * d2)), .second, .val (.long (((d0 - q0) * q1) * d2)), .second, .val (.long (((d0 - q0) * (d1 - q1)) * q2)), .second, .val (.long (((d0 - q0) * (d1 - q1)) * (d2 - q2))), .second, .val (.int (1 : Int32))] [(.int (1 : Int32))])) st206 ?_
    have e206 : T206.heap = T198.heap := Kc206
    have X206 := o_same X206 rfl rfl
    refine o_ifF (pc' := 385) X206 hx (hb hby at_382) (XT.i0_eq_f (by decide)) rfl ?_
    refine o_iconst (pc' := 386) (v := (1 : Int32)) X206 hx (hb hby at_385) rfl rfl ?_
    refine o_goto (pc' := 390) X206 hx (hb hby at_386) (by decide) (by decide) ?_
    refine o_istore (pc' := 392) (l' := #[.val (.int x0), .val (.long x1), .second, .val (.int x2), .val (.int x3), .val (.int x4), .val (.int (3 : Int32)), .val (.int (((x1 &&& (15 : Int64))).toInt32)), .val (.int ((((XT.ushrL x1 (4 : Int32)) &&& (15 : Int64))).toInt32)), .val (.int ((((XT.ushrL x1 (8 : Int32)) &&& (15 : Int64))).toInt32)), .val (.long d0), .second, .val (.long d1), .second, .val (.long d2), .second, .val (.long q0), .second, .val (.long q1), .second, .val (.long q2), .second, .val (.ref b120), .val (.ref b124), .val (.ref b130), .val (.double (dy SS 0)), .second, .val (.long ((q0 * d1) * d2)), .second, .val (.long (((d0 - q0) * q1) * d2)), .second, .val (.long (((d0 - q0) * (d1 - q1)) * q2)), .second, .val (.long (((d0 - q0) * (d1 - q1)) * (d2 - q2))), .second, .val (.int (1 : Int32))]) X206 hx (hb hby at_390) rfl rfl ?_
    refine o_iload (pc' := 394) X206 hx (hb hby at_392) rfl rfl ?_
    refine o_iconst (pc' := 395) (v := (2 : Int32)) X206 hx (hb hby at_394) rfl rfl ?_
    refine o_icmpF (pc' := 398) X206 hx (hb hby at_395) (XT.ii_le_f (by decide)) rfl ?_
    refine o_iload (pc' := 400) X206 hx (hb hby at_398) rfl rfl ?_
    refine o_ifF (pc' := 403) X206 hx (hb hby at_400) (XT.i0_eq_f (by decide)) rfl ?_
    refine o_aload (pc' := 405) X206 hx (hb hby at_403) rfl rfl rfl ?_
    refine o_iconst (pc' := 406) (v := (2 : Int32)) X206 hx (hb hby at_405) rfl rfl ?_
    refine o_daload (pc' := 407) (v := (dy (((1 * B0) * B1) * A2) (((0 + M0) + M1) + M2))) X206 hx hZ e206 W198_ (hb hby at_406) (by decide) rfl rfl ?_
    refine o_dload (pc' := 409) X206 hx (hb hby at_407) rfl rfl ?_
    refine o_lload (pc' := 411) X206 hx (hb hby at_409) rfl rfl ?_
    obtain ⟨r207, T207, L207, X207, hq207, st207⟩ := o_callS X206 hx hZ hown (hw _ (List.mem_of_getElem? (i := 8) rfl)) (hw _ (List.mem_of_getElem? (i := 9) rfl)) (hw _ (List.mem_of_getElem? (i := 10) rfl)) (hw _ (List.mem_of_getElem? (i := 11) rfl)) (by decide) (rm2 l Z a0 hw (((1 * B0) * B1) * A2) (((0 + M0) + M1) + M2) SS (B0 * B1 * A2) (((d0 - q0) * (d1 - q1)) * q2) T198.heap n0 Z203 (own_lim (own_lm (own_lm (own_lm (own_l1) hB0) hB1) hA2) (by decide)) hSS (by omega) (own_p3 hB0 hB1 hA2) (by rw [hSSe]; simp only [Nat.pow_add, Nat.pow_zero, Nat.one_mul, Nat.mul_one, Nat.zero_add] <;> ac_rfl) (own_m3 hb0 hB0 hb1 hB1 hq2 hA2)) e206 (pc' := 414) (Ls := #[.val (.int x0), .val (.long x1), .second, .val (.int x2), .val (.int x3), .val (.int x4), .val (.int (3 : Int32)), .val (.int (((x1 &&& (15 : Int64))).toInt32)), .val (.int ((((XT.ushrL x1 (4 : Int32)) &&& (15 : Int64))).toInt32)), .val (.int ((((XT.ushrL x1 (8 : Int32)) &&& (15 : Int64))).toInt32)), .val (.long d0), .second, .val (.long d1), .second, .val (.long d2), .second, .val (.long q0), .second, .val (.long q1), .second, .val (.long q2), .second, .val (.ref b120), .val (.ref b124), .val (.ref b130), .val (.double (dy SS 0)), .second, .val (.long ((q0 * d1) * d2)), .second, .val (.long (((d0 - q0) * q1) * d2)), .second, .val (.long (((d0 - q0) * (d1 - q1)) * q2)), .second, .val (.long (((d0 - q0) * (d1 - q1)) * (d2 - q2))), .second, .val (.int (1 : Int32))]) (by rw [hml]; rfl) [(.double (dy (((1 * B0) * B1) * A2) (((0 + M0) + M1) + M2))), (.double (dy SS 0)), (.long (((d0 - q0) * (d1 - q1)) * q2))] [] rfl pd1 rfl rfl 0 (Nat.le_of_eq rfl) (hb hby at_411) rfl (by decide) (by decide) (by decide) (by decide)
    obtain ⟨rfl, rfl, Kc207⟩ := hq207
    refine oGo.step (f' := (mkF m 414 #[.val (.int x0), .val (.long x1), .second, .val (.int x2), .val (.int x3), .val (.int x4), .val (.int (3 : Int32)), .val (.int (((x1 &&& (15 : Int64))).toInt32)), .val (.int ((((XT.ushrL x1 (4 : Int32)) &&& (15 : Int64))).toInt32)), .val (.int ((((XT.ushrL x1 (8 : Int32)) &&& (15 : Int64))).toInt32)), .val (.long d0), .second, .val (.long d1), .second, .val (.long d2), .second, .val (.long q0), .second, .val (.long q1), .second, .val (.long q2), .second, .val (.ref b120), .val (.ref b124), .val (.ref b130), .val (.double (dy SS 0)), .second, .val (.long ((q0 * d1) * d2)), .second, .val (.long (((d0 - q0) * q1) * d2)), .second, .val (.long (((d0 - q0) * (d1 - q1)) * q2)), .second, .val (.long (((d0 - q0) * (d1 - q1)) * (d2 - q2))), .second, .val (.int (1 : Int32))] [(.int (1 : Int32))])) st207 ?_
    have e207 : T207.heap = T198.heap := Kc207
    have X207 := o_same X207 rfl rfl
    refine o_ifF (pc' := 417) X207 hx (hb hby at_414) (XT.i0_eq_f (by decide)) rfl ?_
    refine o_iconst (pc' := 418) (v := (1 : Int32)) X207 hx (hb hby at_417) rfl rfl ?_
    refine o_goto (pc' := 422) X207 hx (hb hby at_418) (by decide) (by decide) ?_
    refine o_istore (pc' := 424) (l' := #[.val (.int x0), .val (.long x1), .second, .val (.int x2), .val (.int x3), .val (.int x4), .val (.int (3 : Int32)), .val (.int (((x1 &&& (15 : Int64))).toInt32)), .val (.int ((((XT.ushrL x1 (4 : Int32)) &&& (15 : Int64))).toInt32)), .val (.int ((((XT.ushrL x1 (8 : Int32)) &&& (15 : Int64))).toInt32)), .val (.long d0), .second, .val (.long d1), .second, .val (.long d2), .second, .val (.long q0), .second, .val (.long q1), .second, .val (.long q2), .second, .val (.ref b120), .val (.ref b124), .val (.ref b130), .val (.double (dy SS 0)), .second, .val (.long ((q0 * d1) * d2)), .second, .val (.long (((d0 - q0) * q1) * d2)), .second, .val (.long (((d0 - q0) * (d1 - q1)) * q2)), .second, .val (.long (((d0 - q0) * (d1 - q1)) * (d2 - q2))), .second, .val (.int (1 : Int32))]) X207 hx (hb hby at_422) rfl rfl ?_
    refine o_iload (pc' := 426) X207 hx (hb hby at_424) rfl rfl ?_
    refine o_retZ X207 hx hret hlk (hb hby at_426) (by decide) (by decide) (by decide) ?_
    exact ⟨rfl, N198_⟩
set_option maxRecDepth 65536 in
set_option maxHeartbeats 40000000 in
theorem comes_1 {Post : Tables → Env → Array Value → State → Outcome → State → Prop} (hpost : ∀ tb e args s v u, (limb_1_1.after args s (.returned v) u = true ∧ limb_1_2.after args s (.returned v) u = true ∧ True) → FrameEnd s (.returned v) u (Jvm.fieldLocs frame_1_writes args s ++ Jvm.arrayLocs frame_1_arrays args s ++ Jvm.staticLocs frame_1_statics s) 16 128 → Post tb e args s (.returned v) u) :
    ArmFor flags0 classFile x code maxLocals ret World_1 tables_1 room_1 Calls_1 rest_1 Pre_1 Post := by
  intro l hfl _ _ p e ha hc hk s m args below hf hA hF happ hP
  obtain ⟨hcalls, hrest, hpre⟩ := hP
  obtain ⟨-, -, -, hnamed, -, -, -, hat⟩ := (Spec.applies_iff hf).mp happ
  obtain ⟨hg, hn⟩ := and_e (Cond.before_iff.mp (show (Jvm.Cond.and given_1 narrow_1).before args s = true from hpre))
  obtain ⟨hcount, q0⟩ := and_e hg
  obtain ⟨a0, q1⟩ := and_e q0
  obtain ⟨a1, q2⟩ := and_e q1
  obtain ⟨a2, q3⟩ := and_e q2
  obtain ⟨a3, q4⟩ := and_e q3
  obtain ⟨w0, w1, w2, w3, w4, rfl⟩ : ∃ w0 w1 w2 w3 w4 : Value, args = #[w0, w1, w2, w3, w4] := by
    have hs : args.size = 5 := by simpa [Cond.value, given_1] using hcount
    obtain ⟨L⟩ := args
    match L, hs with
    | [w0, w1, w2, w3, w4], _ => exact ⟨w0, w1, w2, w3, w4, rfl⟩
  have hw := fun d (hd : d ∈ tables_1) => atoms_spec (ws := Jvm.Cond.code x code maxLocals ret :: tables_1) hat d (List.mem_cons_of_mem _ hd)
  have hfit : Fit s := fun {y c} hc i hi => by
    obtain ⟨ha, rfl⟩ := Array.getElem?_eq_some_iff.mp hc
    have q := List.all_eq_true.mp ((Array.all_eq_true_iff_forall_mem.mp hF) _ (Array.getElem_mem ha)) i (List.mem_range.mpr hi)
    simpa [Array.getElem?_eq_getElem hi] using q
  obtain ⟨x0, e0⟩ := is_v a0
  obtain rfl : w0 = (.int x0) := Option.some.inj e0
  obtain ⟨x1, e1⟩ := isL_v a1
  obtain rfl : w1 = (.long x1) := Option.some.inj e1
  obtain ⟨x2, e2⟩ := is_v a2
  obtain rfl : w2 = (.int x2) := Option.some.inj e2
  obtain ⟨x3, e3⟩ := is_v a3
  obtain rfl : w3 = (.int x3) := Option.some.inj e3
  obtain ⟨x4, e4⟩ := is_v q4
  obtain rfl : w4 = (.int x4) := Option.some.inj e4
  obtain ⟨n, o, h1, h2, h3, _, L, rfl, ⟨rfl, N⟩, hq⟩ := rm0 l s _ hw x0 x1 x2 x3 x4  s.heap s.heap.size (Nat.le_refl _)  tables_1 p e ha hc hk s m _ below hf ((Spec.applies_iff_loose hf).mp happ).1 ⟨rfl, State.Warmed39.refl s, rfl⟩ trivial
  refine ⟨n, _, h1, h2, h3, hpost _ _ _ _ _ _ ⟨Cond.after_iff.mpr rfl, Cond.after_iff.mpr (eq_i res_at (Term.int_eval (1)) rfl), trivial⟩ ⟨hq.1, hq.2.1, (hq.2.2.sift fun y hy => Or.inr (N y hy)).mono (by decide) (by decide)⟩⟩
theorem main_1_1 : Claimed_1_1 := comes_1 fun _ _ _ _ _ _ h hF => ⟨h.1, hF⟩
theorem main_1_2 : Claimed_1_2 := comes_1 fun _ _ _ _ _ _ h hF => ⟨h.2.1, hF⟩
end Jvm.Pilot.@@N@@
namespace Jvm.Pilot.@@N@@
open Jvm Jvm.ClassFile Sem Op Lib Jvm.Free Jvm.Stand Jvm.Pilot.@@N@@.Jvm.D
/-! MADE BY PROGRAM (witnessworld.py) out of the Statement's table words and the real class files: 12 classes; the members and pool entries that the words name. The judged class is class 1, her method 1. -/
namespace start1
open Jvm.ClassFile
def u (s : String) : CpInfo := .utf8 (stringToUtf16 s)
/-- a pool by its gaps: so many unusable entries, then the entry; so many at the end -/
def gap : Nat → List CpInfo → List CpInfo
  | 0, r => r
  | n + 1, r => .unusable :: gap n r
def poolList (es : List (Nat × CpInfo)) (last : Nat) : List CpInfo := es.foldr (fun e r => gap e.1 (e.2 :: r)) (gap last [])
def pool (es : List (Nat × CpInfo)) (last : Nat) : Array CpInfo := ⟨poolList es last⟩
def fileOf (pool : Array CpInfo) (this : Nat) (attrs : Array Attribute := #[]) (ms : Array MethodInfo := #[]) (fl : Nat := 33) (sup : Nat := 0) (ifs : Array Nat := #[]) (fds : Array FieldInfo := #[]) : ClassFile where
  minorVersion := 0
  majorVersion := 65
  constantPool := pool
  accessFlags := fl
  thisClass := this
  superClass := sup
  interfaces := ifs
  fields := fds
  methods := ms
  attributes := attrs
def plain (name : String) (sup : Option ClassId) : Class where
  name := name
  kind := .ordinary
  loader := none
  accessFlags := 33
  super := sup
  interfaces := #[]
  cf := none
  fields := #[]
  methods := #[]
  instanceTypes := #[]
  staticTypes := #[]
  resolved := #[]
  callSites := []
  init := .initialized
  statics := none
  mirror := none

def pool0 : Array CpInfo := pool [(5, u "<init>"), (0, u "()V"), (1, .class_ 10), (1, u "java/lang/Object")] 113

def k0m0 : Method := { name := "<init>", desc := "()V", sig := { parameters := [], returnType := none }, accessFlags := 1, code := none }
/-- java/lang/Object -/
def k0 : Class := { plain "java/lang/Object" none with
  accessFlags := 33
  interfaces := #[]
  cf := some (fileOf pool0 8 #[] #[{ accessFlags := 1, nameIndex := 5, descriptorIndex := 6, attributes := #[] }] 33 0 #[] #[])
  fields := #[]
  methods := #[k0m0]
  instanceTypes := #[]
  staticTypes := #[]
  resolved := Array.replicate 124 none
  statics := none }

def pool1 : Array CpInfo := pool [(2, .class_ 4), (1, u "java/lang/Object"), (0, u "<init>"), (0, u "()V"), (0, .integer 2147483647), (0, .long 15), (1, .double 4619567317775286272), (1, .methodref 13 14), (0, .class_ 15), (0, .nameAndType 16 17), (0, u "com/example/stickbreak/stickbreak/HdpSampler"), (0, u "breakSticks"), (0, u "([D[D[D)V"), (0, .methodref 19 20), (0, .class_ 21), (0, .nameAndType 22 23), (0, u "com/example/stickbreak/stickbreak/HdpSamplerBreakSticksPinLaw"), (0, u "same"), (0, u "(DDJ)Z"), (2, u "law"), (0, u "(IJIII)Z")] 5

def k1m0 : Method := { name := "<init>", desc := "()V", sig := { parameters := [], returnType := none }, accessFlags := 1, code := none }
def k1c1 : Code := { maxStack := 6, maxLocals := 36, code := code, exceptionTable := #[], attributes := #[] }
def k1m1 : Method := { name := "law", desc := "(IJIII)Z", sig := { parameters := [.int, .long, .int, .int, .int], returnType := some .boolean }, accessFlags := 9, code := some k1c1 }
def k1c2 : Code := { maxStack := 4, maxLocals := 6, code := method_3_code, exceptionTable := #[], attributes := #[] }
def k1m2 : Method := { name := "same", desc := "(DDJ)Z", sig := { parameters := [.double, .double, .long], returnType := some .boolean }, accessFlags := 10, code := some k1c2 }
/-- com/example/stickbreak/stickbreak/HdpSamplerBreakSticksPinLaw -/
def k1 : Class := { plain "com/example/stickbreak/stickbreak/HdpSamplerBreakSticksPinLaw" (some 0) with
  accessFlags := 49
  interfaces := #[]
  cf := some (fileOf pool1 19 #[] #[{ accessFlags := 1, nameIndex := 5, descriptorIndex := 6, attributes := #[] }, { accessFlags := 9, nameIndex := 26, descriptorIndex := 27, attributes := #[] }, { accessFlags := 10, nameIndex := 22, descriptorIndex := 23, attributes := #[] }] 49 2 #[] #[])
  fields := #[]
  methods := #[k1m0, k1m1, k1m2]
  instanceTypes := #[]
  staticTypes := #[]
  resolved := Array.replicate 33 none
  statics := none }

def pool2 : Array CpInfo := pool [(4, .class_ 6), (1, u "java/lang/Object"), (8, .class_ 17), (1, u "com/example/stickbreak/stickbreak/PartiallyCollapsedSampler"), (0, u "workers"), (0, u "Lcom/example/stickbreak/stickbreak/Workers;"), (27, u "corpus"), (0, u "Lcom/example/stickbreak/stickbreak/Corpus;"), (2, u "topics"), (0, u "I"), (2, u "alpha"), (0, u "D"), (2, u "beta"), (2, u "seed"), (0, u "J"), (2, u "kind"), (0, u "Lcom/example/stickbreak/stickbreak/SamplerKind;"), (7, u "streams"), (0, u "Lcom/example/stickbreak/stickbreak/RandomStreams;"), (5, u "assignments"), (0, u "[I"), (7, u "topicWordCounts"), (0, u "Lcom/example/stickbreak/stickbreak/TopicWordCounts;"), (2, u "topicCounts"), (8, u "topicWordStep"), (0, u "Lcom/example/stickbreak/stickbreak/TopicWordStep;"), (7, u "documentProposals"), (0, u "Lcom/example/stickbreak/stickbreak/DocumentProposals;"), (2, u "documentPriors"), (0, u "[D"), (2, u "totalPrior"), (28, u "wordTerms"), (0, u "Lcom/example/stickbreak/stickbreak/LogGammaTable;"), (22, u "longestDocument"), (2, u "documentConstant"), (2, u "iteration"), (70, .class_ 253), (1, u "com/example/stickbreak/stickbreak/PartiallyCollapsedSampler$TopicCounts"), (102, .class_ 358), (1, u "com/example/stickbreak/stickbreak/PartiallyCollapsedSampler$DocumentRun"), (8, u "MAX_TOPIC_WORD_CELLS"), (1, u "DOCUMENT_RUN_LENGTH")] 121

/-- com/example/stickbreak/stickbreak/PartiallyCollapsedSampler -/
def k2 : Class := { plain "com/example/stickbreak/stickbreak/PartiallyCollapsedSampler" (some 0) with
  accessFlags := 1057
  interfaces := #[]
  cf := some (fileOf pool2 15 #[.nestMembers #[356, 251]] #[] 1057 4 #[] #[{ accessFlags := 25, nameIndex := 367, descriptorIndex := 63, attributes := #[] }, { accessFlags := 26, nameIndex := 369, descriptorIndex := 52, attributes := #[] }, { accessFlags := 18, nameIndex := 47, descriptorIndex := 48, attributes := #[] }, { accessFlags := 18, nameIndex := 51, descriptorIndex := 52, attributes := #[] }, { accessFlags := 18, nameIndex := 55, descriptorIndex := 56, attributes := #[] }, { accessFlags := 18, nameIndex := 59, descriptorIndex := 56, attributes := #[] }, { accessFlags := 18, nameIndex := 62, descriptorIndex := 63, attributes := #[] }, { accessFlags := 18, nameIndex := 66, descriptorIndex := 67, attributes := #[] }, { accessFlags := 18, nameIndex := 75, descriptorIndex := 76, attributes := #[] }, { accessFlags := 18, nameIndex := 82, descriptorIndex := 83, attributes := #[] }, { accessFlags := 18, nameIndex := 91, descriptorIndex := 92, attributes := #[] }, { accessFlags := 18, nameIndex := 95, descriptorIndex := 83, attributes := #[] }, { accessFlags := 18, nameIndex := 104, descriptorIndex := 105, attributes := #[] }, { accessFlags := 18, nameIndex := 113, descriptorIndex := 114, attributes := #[] }, { accessFlags := 18, nameIndex := 117, descriptorIndex := 118, attributes := #[] }, { accessFlags := 18, nameIndex := 121, descriptorIndex := 56, attributes := #[] }, { accessFlags := 18, nameIndex := 150, descriptorIndex := 151, attributes := #[] }, { accessFlags := 18, nameIndex := 177, descriptorIndex := 56, attributes := #[] }, { accessFlags := 18, nameIndex := 174, descriptorIndex := 52, attributes := #[] }, { accessFlags := 2, nameIndex := 18, descriptorIndex := 19, attributes := #[] }, { accessFlags := 2, nameIndex := 180, descriptorIndex := 52, attributes := #[] }])
  fields := #[{ name := "MAX_TOPIC_WORD_CELLS", type := .long, accessFlags := 25, slot := 0, constantValue := 0 }, { name := "DOCUMENT_RUN_LENGTH", type := .int, accessFlags := 26, slot := 1, constantValue := 0 }, { name := "corpus", type := (.object "com/example/stickbreak/stickbreak/Corpus"), accessFlags := 18, slot := 0, constantValue := 0 }, { name := "topics", type := .int, accessFlags := 18, slot := 1, constantValue := 0 }, { name := "alpha", type := .double, accessFlags := 18, slot := 2, constantValue := 0 }, { name := "beta", type := .double, accessFlags := 18, slot := 3, constantValue := 0 }, { name := "seed", type := .long, accessFlags := 18, slot := 4, constantValue := 0 }, { name := "kind", type := (.object "com/example/stickbreak/stickbreak/SamplerKind"), accessFlags := 18, slot := 5, constantValue := 0 }, { name := "streams", type := (.object "com/example/stickbreak/stickbreak/RandomStreams"), accessFlags := 18, slot := 6, constantValue := 0 }, { name := "assignments", type := (.array .int), accessFlags := 18, slot := 7, constantValue := 0 }, { name := "topicWordCounts", type := (.object "com/example/stickbreak/stickbreak/TopicWordCounts"), accessFlags := 18, slot := 8, constantValue := 0 }, { name := "topicCounts", type := (.array .int), accessFlags := 18, slot := 9, constantValue := 0 }, { name := "topicWordStep", type := (.object "com/example/stickbreak/stickbreak/TopicWordStep"), accessFlags := 18, slot := 10, constantValue := 0 }, { name := "documentProposals", type := (.object "com/example/stickbreak/stickbreak/DocumentProposals"), accessFlags := 18, slot := 11, constantValue := 0 }, { name := "documentPriors", type := (.array .double), accessFlags := 18, slot := 12, constantValue := 0 }, { name := "totalPrior", type := .double, accessFlags := 18, slot := 13, constantValue := 0 }, { name := "wordTerms", type := (.object "com/example/stickbreak/stickbreak/LogGammaTable"), accessFlags := 18, slot := 14, constantValue := 0 }, { name := "documentConstant", type := .double, accessFlags := 18, slot := 15, constantValue := 0 }, { name := "longestDocument", type := .int, accessFlags := 18, slot := 16, constantValue := 0 }, { name := "workers", type := (.object "com/example/stickbreak/stickbreak/Workers"), accessFlags := 2, slot := 17, constantValue := 0 }, { name := "iteration", type := .int, accessFlags := 2, slot := 18, constantValue := 0 }]
  methods := #[]
  instanceTypes := #[(.object "com/example/stickbreak/stickbreak/Corpus"), .int, .double, .double, .long, (.object "com/example/stickbreak/stickbreak/SamplerKind"), (.object "com/example/stickbreak/stickbreak/RandomStreams"), (.array .int), (.object "com/example/stickbreak/stickbreak/TopicWordCounts"), (.array .int), (.object "com/example/stickbreak/stickbreak/TopicWordStep"), (.object "com/example/stickbreak/stickbreak/DocumentProposals"), (.array .double), .double, (.object "com/example/stickbreak/stickbreak/LogGammaTable"), .double, .int, (.object "com/example/stickbreak/stickbreak/Workers"), .int]
  staticTypes := #[.long, .int]
  resolved := Array.replicate 491 none
  statics := none }

def pool3 : Array CpInfo := pool [(8, .class_ 10), (1, u "com/example/stickbreak/stickbreak/HdpSampler"), (15, .class_ 28), (1, u "com/example/stickbreak/stickbreak/PartiallyCollapsedSampler"), (3, u "gamma"), (0, u "D"), (2, u "weights"), (0, u "[D"), (2, u "lnGammaPriors"), (94, u "breakSticks"), (0, u "([D[D[D)V"), (92, u "MODEL"), (0, u "Ljava/lang/String;"), (1, u "NEGLIGIBLE_PRIOR")] 81

def k3c0 : Code := { maxStack := 8, maxLocals := 9, code := prog_16_method_9_code, exceptionTable := #[], attributes := #[] }
def k3m0 : Method := { name := "breakSticks", desc := "([D[D[D)V", sig := { parameters := [(.array .double), (.array .double), (.array .double)], returnType := none }, accessFlags := 8, code := some k3c0 }
/-- com/example/stickbreak/stickbreak/HdpSampler -/
def k3 : Class := { plain "com/example/stickbreak/stickbreak/HdpSampler" (some 2) with
  accessFlags := 49
  interfaces := #[]
  cf := some (fileOf pool3 8 #[] #[{ accessFlags := 8, nameIndex := 135, descriptorIndex := 136, attributes := #[] }] 49 26 #[] #[{ accessFlags := 25, nameIndex := 229, descriptorIndex := 230, attributes := #[] }, { accessFlags := 26, nameIndex := 232, descriptorIndex := 33, attributes := #[] }, { accessFlags := 18, nameIndex := 32, descriptorIndex := 33, attributes := #[] }, { accessFlags := 18, nameIndex := 36, descriptorIndex := 37, attributes := #[] }, { accessFlags := 18, nameIndex := 40, descriptorIndex := 37, attributes := #[] }])
  fields := #[{ name := "MODEL", type := (.object "java/lang/String"), accessFlags := 25, slot := 0, constantValue := 0 }, { name := "NEGLIGIBLE_PRIOR", type := .double, accessFlags := 26, slot := 1, constantValue := 0 }, { name := "gamma", type := .double, accessFlags := 18, slot := 19, constantValue := 0 }, { name := "weights", type := (.array .double), accessFlags := 18, slot := 20, constantValue := 0 }, { name := "lnGammaPriors", type := (.array .double), accessFlags := 18, slot := 21, constantValue := 0 }]
  methods := #[k3m0]
  instanceTypes := #[(.object "com/example/stickbreak/stickbreak/Corpus"), .int, .double, .double, .long, (.object "com/example/stickbreak/stickbreak/SamplerKind"), (.object "com/example/stickbreak/stickbreak/RandomStreams"), (.array .int), (.object "com/example/stickbreak/stickbreak/TopicWordCounts"), (.array .int), (.object "com/example/stickbreak/stickbreak/TopicWordStep"), (.object "com/example/stickbreak/stickbreak/DocumentProposals"), (.array .double), .double, (.object "com/example/stickbreak/stickbreak/LogGammaTable"), .double, .int, (.object "com/example/stickbreak/stickbreak/Workers"), .int, .double, (.array .double), (.array .double)]
  staticTypes := #[(.object "java/lang/String"), .double]
  resolved := Array.replicate 314 none
  statics := none }

def pool4 : Array CpInfo := pool [(1, u "java/lang/Cloneable"), (0, .class_ 1), (0, u "java/lang/Object"), (0, .class_ 3)] 3

/-- java/lang/Cloneable -/
def k4 : Class := { plain "java/lang/Cloneable" (some 0) with
  accessFlags := 1537
  interfaces := #[]
  cf := some (fileOf pool4 2 #[] #[] 1537 4 #[] #[])
  fields := #[]
  methods := #[]
  instanceTypes := #[]
  staticTypes := #[]
  resolved := Array.replicate 8 none
  statics := none }

def pool5 : Array CpInfo := pool [(1, u "java/io/Serializable"), (0, .class_ 1), (0, u "java/lang/Object"), (0, .class_ 3)] 3

/-- java/io/Serializable -/
def k5 : Class := { plain "java/io/Serializable" (some 0) with
  accessFlags := 1537
  interfaces := #[]
  cf := some (fileOf pool5 2 #[] #[] 1537 4 #[] #[])
  fields := #[]
  methods := #[]
  instanceTypes := #[]
  staticTypes := #[]
  resolved := Array.replicate 8 none
  statics := none }

/-- the primitive byte -/
def k6 : Class := { plain "byte" none with kind := .primitive 'B', accessFlags := 0x411 }
/-- [B -/
def k7 : Class := { plain "[B" (some 0) with kind := .array 6 .byte, interfaces := #[4, 5], accessFlags := 1041 }

/-- the primitive double -/
def k8 : Class := { plain "double" none with kind := .primitive 'D', accessFlags := 0x411 }
/-- [D -/
def k9 : Class := { plain "[D" (some 0) with kind := .array 8 .double, interfaces := #[4, 5], accessFlags := 1041 }

/-- the primitive int -/
def k10 : Class := { plain "int" none with kind := .primitive 'I', accessFlags := 0x411 }
/-- [I -/
def k11 : Class := { plain "[I" (some 0) with kind := .array 10 .int, interfaces := #[4, 5], accessFlags := 1041 }

def heap : Heap := #[]
def classes : Array Class := #[k0, k1, k2, k3, k4, k5, k6, k7, k8, k9, k10, k11]
def interned : List (Array UInt16 × Addr) := []
def slotsUsed : Nat := 0
def theMethod : MethodId := ⟨1, 1⟩
def args0 : Array Value := #[.int 5, .long 5, .int 5, .int 5, .int 5]
def aboutOver (below : List Frame) : State where
  vm := { classes := classes, interned := interned.toArray }
  heap := heap
  slotsUsed := slotsUsed
  threads := #[{ frames := .invoking theMethod args0 :: below }]
def below0 : List Frame := [.native { method := ⟨0, 0⟩, args := #[] }]
def about1 : State := aboutOver below0
def p0 : Program := .bare "" "" ""
def e0 : Env := launch0.env 0 0 0
theorem w_frames : about1.frames = Frame.invoking theMethod args0 :: below0 := rfl
set_option maxRecDepth 65536 in
theorem w_args : argsFit about1.vm theMethod args0 = true := by decide +kernel
set_option maxRecDepth 65536 in
theorem w_heap : heapFits about1 = true := by decide +kernel
set_option maxRecDepth 65536 in
theorem w_runnable : about1.curStatus? = some .runnable := by decide +kernel
set_option maxRecDepth 65536 in
theorem w_alone : about1.alone = true := by decide +kernel
set_option maxRecDepth 65536 in
theorem w_named : about1.methodNamed? x = some theMethod := by decide +kernel
set_option maxRecDepth 65536 in
theorem w_hears : about1.hears theMethod below0 = true := by decide +kernel
set_option maxRecDepth 65536 in
theorem w_ripe : about1.ripe theMethod args0 below0 = true := by decide +kernel
theorem w_running : about1.status = .running := rfl
set_option maxRecDepth 65536 in
theorem w_room : about1.hasRoom e0.platform room_1 = true :=
  launch0.hasRoom_least _ room_1 (by decide +kernel) (by decide +kernel) (by decide +kernel) (by decide +kernel) (by decide +kernel) (by decide +kernel)
theorem allAtoms_all (ts : List Jvm.Cond) (a : Array Jvm.Value) (st : Jvm.State) : (allAtoms ts).before a st = ts.all (fun c => c.before a st) := by
  induction ts with
  | nil => rfl
  | cons c t ih =>
    show (Jvm.Cond.and c (allAtoms t)).before a st = _
    rw [Jvm.Cond.before_and, ih, List.all_cons]
def words1 : List Jvm.Cond := Jvm.Cond.code x code maxLocals ret :: tables_1
/-- a 'code' word, met by the world's own term for the bytes: nothing is compared byte by byte -/
theorem code_word {y : MethodName} {bytes : ByteArray} {mx : Nat} {rt : Option FieldType} {a : Array Value} {s : State} {m : MethodId} {meth : Method} {c : Code} (h1 : s.methodNamed? y = some m) (h2 : s.vm.method? m = some meth) (h3 : meth.code = some c) (h4 : c.code = bytes)
    (h5 : (c.maxLocals == mx && c.exceptionTable.isEmpty && decide (c.maxStack ≤ mostOperands) && decide (meth.sig.returnType = rt) && !meth.locks && decide (parseMethodDescriptor y.desc = some meth.sig)) = true) : (Jvm.Cond.code y bytes mx rt).before a s = true := by
  simp only [Bool.and_eq_true, beq_iff_eq, Bool.not_eq_true', decide_eq_true_eq] at h5
  obtain ⟨⟨⟨⟨⟨g1, g2⟩, g3⟩, g4⟩, g5⟩, g6⟩ := h5
  simp [Cond.before, Cond.holds, Cond.value, h1, h2, h3, h4, g1, g2, g3, g4, g5, g6]
def isCode : Jvm.Cond → Bool
  | .code _ _ _ _ => true
  | _ => false
theorem all_split {L : List Jvm.Cond} {P : Jvm.Cond → Bool} (h1 : L.all (fun c => isCode c || P c) = true) (h2 : ∀ c ∈ L.filter isCode, P c = true) : L.all P = true := by
  refine List.all_eq_true.mpr fun c hc => ?_
  have h := List.all_eq_true.mp h1 c hc
  rcases Bool.eq_false_or_eq_true (isCode c) with hi | hi
  · exact h2 c (List.mem_filter.mpr ⟨hc, hi⟩)
  · simpa [hi] using h
set_option maxRecDepth 65536 in
theorem w_c0 : (Jvm.Cond.code x code maxLocals ret).before args0 about1 = true := code_word (m := ⟨1, 1⟩) (meth := k1m1) (c := k1c1) (by decide +kernel) rfl rfl rfl (by decide +kernel)
set_option maxRecDepth 65536 in
theorem w_c1 : (Jvm.Cond.code ({ cls := "com/example/stickbreak/stickbreak/HdpSampler", name := "breakSticks", desc := "([D[D[D)V" } : Jvm.MethodName) prog_16_method_9_code (9 : Nat) (Option.none : Option Jvm.ClassFile.FieldType)).before args0 about1 = true := code_word (m := ⟨3, 0⟩) (meth := k3m0) (c := k3c0) (by decide +kernel) rfl rfl rfl (by decide +kernel)
set_option maxRecDepth 65536 in
theorem w_c2 : (Jvm.Cond.code ({ cls := "com/example/stickbreak/stickbreak/HdpSamplerBreakSticksPinLaw", name := "same", desc := "(DDJ)Z" } : Jvm.MethodName) method_3_code (6 : Nat) (Option.some Jvm.ClassFile.FieldType.boolean)).before args0 about1 = true := code_word (m := ⟨1, 2⟩) (meth := k1m2) (c := k1c2) (by decide +kernel) rfl rfl rfl (by decide +kernel)
def codes1 : List Jvm.Cond := [Jvm.Cond.code x code maxLocals ret, Jvm.Cond.code ({ cls := "com/example/stickbreak/stickbreak/HdpSampler", name := "breakSticks", desc := "([D[D[D)V" } : Jvm.MethodName) prog_16_method_9_code (9 : Nat) (Option.none : Option Jvm.ClassFile.FieldType), Jvm.Cond.code ({ cls := "com/example/stickbreak/stickbreak/HdpSamplerBreakSticksPinLaw", name := "same", desc := "(DDJ)Z" } : Jvm.MethodName) method_3_code (6 : Nat) (Option.some Jvm.ClassFile.FieldType.boolean)]
set_option maxRecDepth 65536 in
theorem codes_eq : words1.filter isCode = codes1 := rfl
theorem w_codes : ∀ c ∈ words1.filter isCode, c.before args0 about1 = true := by
  rw [codes_eq]
  intro c hc
  simp only [codes1, List.mem_cons, List.not_mem_nil, or_false] at hc
  rcases hc with rfl | rfl | rfl
  · exact w_c0
  · exact w_c1
  · exact w_c2
set_option maxRecDepth 65536 in
theorem w_t1 : words1.all (fun c => isCode c || c.before args0 about1) = true := by decide +kernel
theorem w_tables : (allAtoms (Jvm.Cond.code x code maxLocals ret :: tables_1)).before args0 about1 = true := by
  rw [allAtoms_all]
  show words1.all (fun c => c.before args0 about1) = true
  refine all_split ?_ w_codes
  rw [w_t1]
set_option maxRecDepth 65536 in
theorem w_case : (Jvm.Cond.and given_1 narrow_1).before args0 about1 = true := by decide +kernel
theorem w_applies : (headSpec (Jvm.Cond.code x code maxLocals ret :: tables_1) room_1).applies x e0.platform about1 = true :=
  (Spec.applies_iff w_frames).mpr ⟨w_running, w_runnable, w_alone, w_named, w_hears, w_ripe, w_room, w_tables⟩
theorem atStart : AtStart classFile x code maxLocals ret World_1 tables_1 room_1 Calls_1 rest_1 Pre_1 launch0 p0 e0 about1 theMethod args0 below0 :=
  ⟨lists_1, trivial, launch0.admits_env _ _ _, launch0.least_env, fairChoices_fair.cas, fairChoices_fair.clock, w_frames, w_args, w_heap, w_applies, trivial, trivial, w_case⟩
end start1
theorem witness_1 : WitnessClaimed_1 := ⟨start1.p0, start1.e0, start1.about1, start1.theMethod, start1.args0, start1.below0, start1.atStart⟩
end Jvm.Pilot.@@N@@
