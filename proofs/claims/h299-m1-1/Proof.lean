import JvmDerived
import JvmDerived.Pilot.@@N@@Statement
import JvmDerived.Pilot.@@N@@Code
set_option linter.unusedVariables false
set_option linter.unusedSimpArgs false
namespace Jvm.Pilot.@@N@@
open Jvm Jvm.ClassFile Sem Op Lib Jvm.Free Jvm.Stand Jvm.LawKit Jvm.RoadKit Bundle Jvm.Pilot.@@N@@.Jvm.D
section OwnKit
variable {p : Program} {l : Launch} {e : Env} {R : Room} {s : State} {m : MethodId} {args : Array Value} {below : List Frame} {meth : Method} {c : Code} {T : State} {locs : List Loc} {cells slots : Nat} {Z : State} {a0 : Array Value} {h : Heap} {G : Outcome → State → Prop}
def oGo (p : Program) (e : Env) (below : List Frame) (G : Outcome → State → Prop) (T : State) (f : JFrame) : Prop :=
  ∃ s₂ o, Steps p.tables e below (T.setTop f) s₂ ∧ s₂.status = .running ∧ Ended s₂ below o ∧ G o s₂
theorem oGo.step {T' : State} {f f' : JFrame} (st : ∀ t, Steps p.tables e below (T'.setTop f') t → Steps p.tables e below (T.setTop f) t) (k : oGo p e below G T' f') : oGo p e below G T f := by
  obtain ⟨s₂, o, h1, h2⟩ := k
  exact ⟨s₂, o, st _ h1, h2⟩
def oG (s : State) (Q : Option Value → Heap → List Loc → Prop) (C N : Nat) : Outcome → State → Prop := fun o U' => ∃ v L, o = .returned v ∧ Q v U'.heap L ∧ FrameEnd s o U' L C N
def oCon (l : Launch) (Z : State) (y : MethodName) (bytes : ByteArray) (maxL : Nat) (ret : Option FieldType) (rm : Room) (as' : Array Value) (h : Heap) (Q : Option Value → Heap → List Loc → Prop) : Prop :=
  ∀ ws, MetFree l y (head1 (Jvm.Cond.code y bytes maxL ret :: ws) rm) (fun a U => a = as' ∧ Z.Warmed39 U.vm ∧ U.heap = h) (fun _ _ _ _ _ => True) (fun _ U o U' => ∃ v L, o = .returned v ∧ Q v U'.heap L ∧ FrameEnd U o U' L rm.cells rm.slots)
theorem oCon.of {y : MethodName} {bytes : ByteArray} {maxL : Nat} {ret : Option FieldType} {rm : Room} {as' : Array Value} {Q : Option Value → Heap → List Loc → Prop} (hpn : plainFor y = true)
    (body : ∀ p e s m below meth c s₁, p.tables.exec = Jvm.exec → c.code = bytes → c.maxLocals = maxL → s.vm.findClass y.cls = some m.cls → meth.name = y.name → meth.sig.returnType = ret → meth.locks = false → Z.Warmed39 s.vm → Stand p l e rm s m as' below meth c s₁ [] 0 0 → s₁.heap = h → oGo p e below (oG s Q rm.cells rm.slots) s₁ (entryFrame m as' maxL)) :
    oCon l Z y bytes maxL ret rm as' h Q := by
  intro ws
  refine MetFree.of_bodySF hpn hisR ?_
  intro p e s m args below meth c s₁ Bd hml0 hP hK
  obtain ⟨rfl, hZ, hh⟩ := hP
  exact body p e s m below meth c s₁ Bd.exec Bd.bytes hml0 (findClass_of_methodNamed Bd.named) (name_of_methodNamed Bd.named Bd.method).1 Bd.returns (BodyLoose.notSynchronized Bd) hZ (Stand.of_body Bd) (by rw [← hh, Bd.state]; rfl)
theorem o_iloadN (X : Stand p l e R s m args below meth c T locs cells slots) (hx : p.tables.exec = Jvm.exec) {pc pc' : Nat} {Ls : Array Slot} {st : List Value} {k : Fin 4} {v : Int32} (hd : decode c.code pc = .ok (.iload_n k, 1)) (hl : Ls[k.val]? = some (.val (.int v))) (hp : pc + 1 = pc') (q : oGo p e below G T (mkF m pc' Ls (.int v :: st))) : oGo p e below G T (mkF m pc Ls (st)) := by
  subst hp; exact q.step fun t r => XS.iloadN X.here hx rfl hd hl r
theorem o_iload (X : Stand p l e R s m args below meth c T locs cells slots) (hx : p.tables.exec = Jvm.exec) {pc pc' : Nat} {Ls : Array Slot} {st : List Value} {k : Nat} {v : Int32} (hd : decode c.code pc = .ok (.iload k, 2)) (hl : Ls[k]? = some (.val (.int v))) (hp : pc + 2 = pc') (q : oGo p e below G T (mkF m pc' Ls (.int v :: st))) : oGo p e below G T (mkF m pc Ls (st)) := by
  subst hp; exact q.step fun t r => XS.iload X.here hx rfl hd hl r
theorem o_istoreN (X : Stand p l e R s m args below meth c T locs cells slots) (hx : p.tables.exec = Jvm.exec) {pc pc' : Nat} {Ls : Array Slot} {st : List Value} {k : Fin 4} {v : Int32} {l' : Array Slot} (hd : decode c.code pc = .ok (.istore_n k, 1)) (hl : storeLocals Ls k.val (.int v) = some l') (hp : pc + 1 = pc') (q : oGo p e below G T (mkF m pc' l' (st))) : oGo p e below G T (mkF m pc Ls (.int v :: st)) := by
  subst hp; exact q.step fun t r => XS.istoreN X.here hx rfl hd rfl hl r
theorem o_istore (X : Stand p l e R s m args below meth c T locs cells slots) (hx : p.tables.exec = Jvm.exec) {pc pc' : Nat} {Ls : Array Slot} {st : List Value} {k : Nat} {v : Int32} {l' : Array Slot} (hd : decode c.code pc = .ok (.istore k, 2)) (hl : storeLocals Ls k (.int v) = some l') (hp : pc + 2 = pc') (q : oGo p e below G T (mkF m pc' l' (st))) : oGo p e below G T (mkF m pc Ls (.int v :: st)) := by
  subst hp; exact q.step fun t r => XS.istore X.here hx rfl hd rfl hl r
theorem o_lloadN (X : Stand p l e R s m args below meth c T locs cells slots) (hx : p.tables.exec = Jvm.exec) {pc pc' : Nat} {Ls : Array Slot} {st : List Value} {k : Fin 4} {v : Int64} (hd : decode c.code pc = .ok (.lload_n k, 1)) (hl : Ls[k.val]? = some (.val (.long v))) (hp : pc + 1 = pc') (q : oGo p e below G T (mkF m pc' Ls (.long v :: st))) : oGo p e below G T (mkF m pc Ls (st)) := by
  subst hp; exact q.step fun t r => XT.lloadN X.here hx rfl hd hl r
theorem o_lload (X : Stand p l e R s m args below meth c T locs cells slots) (hx : p.tables.exec = Jvm.exec) {pc pc' : Nat} {Ls : Array Slot} {st : List Value} {k : Nat} {v : Int64} (hd : decode c.code pc = .ok (.lload k, 2)) (hl : Ls[k]? = some (.val (.long v))) (hp : pc + 2 = pc') (q : oGo p e below G T (mkF m pc' Ls (.long v :: st))) : oGo p e below G T (mkF m pc Ls (st)) := by
  subst hp; exact q.step fun t r => XT.lload X.here hx rfl hd hl r
theorem o_lstoreN (X : Stand p l e R s m args below meth c T locs cells slots) (hx : p.tables.exec = Jvm.exec) {pc pc' : Nat} {Ls : Array Slot} {st : List Value} {k : Fin 4} {v : Int64} {l' : Array Slot} (hd : decode c.code pc = .ok (.lstore_n k, 1)) (hl : storeLocals Ls k.val (.long v) = some l') (hp : pc + 1 = pc') (q : oGo p e below G T (mkF m pc' l' (st))) : oGo p e below G T (mkF m pc Ls (.long v :: st)) := by
  subst hp; exact q.step fun t r => XT.lstoreN X.here hx rfl hd rfl hl r
theorem o_lstore (X : Stand p l e R s m args below meth c T locs cells slots) (hx : p.tables.exec = Jvm.exec) {pc pc' : Nat} {Ls : Array Slot} {st : List Value} {k : Nat} {v : Int64} {l' : Array Slot} (hd : decode c.code pc = .ok (.lstore k, 2)) (hl : storeLocals Ls k (.long v) = some l') (hp : pc + 2 = pc') (q : oGo p e below G T (mkF m pc' l' (st))) : oGo p e below G T (mkF m pc Ls (.long v :: st)) := by
  subst hp; exact q.step fun t r => XT.lstore X.here hx rfl hd rfl hl r
theorem o_aloadN (X : Stand p l e R s m args below meth c T locs cells slots) (hx : p.tables.exec = Jvm.exec) {pc pc' : Nat} {Ls : Array Slot} {st : List Value} {k : Fin 4} {v : Value} (hd : decode c.code pc = .ok (.aload_n k, 1)) (hl : Ls[k.val]? = some (.val v)) (hv : v.isRef = true) (hp : pc + 1 = pc') (q : oGo p e below G T (mkF m pc' Ls (v :: st))) : oGo p e below G T (mkF m pc Ls (st)) := by
  subst hp; exact q.step fun t r => XS.aloadN X.here hx rfl hd hl hv r
theorem o_aload (X : Stand p l e R s m args below meth c T locs cells slots) (hx : p.tables.exec = Jvm.exec) {pc pc' : Nat} {Ls : Array Slot} {st : List Value} {k : Nat} {v : Value} (hd : decode c.code pc = .ok (.aload k, 2)) (hl : Ls[k]? = some (.val v)) (hv : v.isRef = true) (hp : pc + 2 = pc') (q : oGo p e below G T (mkF m pc' Ls (v :: st))) : oGo p e below G T (mkF m pc Ls (st)) := by
  subst hp; exact q.step fun t r => XS.aload X.here hx rfl hd hl hv r
theorem o_astoreN (X : Stand p l e R s m args below meth c T locs cells slots) (hx : p.tables.exec = Jvm.exec) {pc pc' : Nat} {Ls : Array Slot} {st : List Value} {k : Fin 4} {v : Value} {l' : Array Slot} (hd : decode c.code pc = .ok (.astore_n k, 1)) (hv : v.isRef = true) (hl : storeLocals Ls k.val v = some l') (hp : pc + 1 = pc') (q : oGo p e below G T (mkF m pc' l' (st))) : oGo p e below G T (mkF m pc Ls (v :: st)) := by
  subst hp; exact q.step fun t r => XS.astoreN X.here hx rfl hd rfl hv hl r
theorem o_astore (X : Stand p l e R s m args below meth c T locs cells slots) (hx : p.tables.exec = Jvm.exec) {pc pc' : Nat} {Ls : Array Slot} {st : List Value} {k : Nat} {v : Value} {l' : Array Slot} (hd : decode c.code pc = .ok (.astore k, 2)) (hv : v.isRef = true) (hl : storeLocals Ls k v = some l') (hp : pc + 2 = pc') (q : oGo p e below G T (mkF m pc' l' (st))) : oGo p e below G T (mkF m pc Ls (v :: st)) := by
  subst hp; exact q.step fun t r => XS.astore X.here hx rfl hd rfl hv hl r
theorem o_iconst (X : Stand p l e R s m args below meth c T locs cells slots) (hx : p.tables.exec = Jvm.exec) {pc pc' : Nat} {Ls : Array Slot} {st : List Value} {i : Int} (v : Int32) (hd : decode c.code pc = .ok (.iconst i, 1)) (hv : Int32.ofInt i = v) (hp : pc + 1 = pc') (q : oGo p e below G T (mkF m pc' Ls (.int v :: st))) : oGo p e below G T (mkF m pc Ls (st)) := by
  subst hp; exact q.step fun t r => XT.iconstV X.here hx rfl v hd hv r
theorem o_bipush (X : Stand p l e R s m args below meth c T locs cells slots) (hx : p.tables.exec = Jvm.exec) {pc pc' : Nat} {Ls : Array Slot} {st : List Value} {i : Int} (v : Int32) (hd : decode c.code pc = .ok (.bipush i, 2)) (hv : (Int8.ofInt i).toInt32 = v) (hp : pc + 2 = pc') (q : oGo p e below G T (mkF m pc' Ls (.int v :: st))) : oGo p e below G T (mkF m pc Ls (st)) := by
  subst hp; exact q.step fun t r => XT.bipushV X.here hx rfl v hd hv r
theorem o_sipush (X : Stand p l e R s m args below meth c T locs cells slots) (hx : p.tables.exec = Jvm.exec) {pc pc' : Nat} {Ls : Array Slot} {st : List Value} {i : Int} (v : Int32) (hd : decode c.code pc = .ok (.sipush i, 3)) (hv : (Int16.ofInt i).toInt32 = v) (hp : pc + 3 = pc') (q : oGo p e below G T (mkF m pc' Ls (.int v :: st))) : oGo p e below G T (mkF m pc Ls (st)) := by
  subst hp; exact q.step fun t r => XT.sipushV X.here hx rfl v hd hv r
theorem o_lconst (X : Stand p l e R s m args below meth c T locs cells slots) (hx : p.tables.exec = Jvm.exec) {pc pc' : Nat} {Ls : Array Slot} {st : List Value} {k : Fin 2} (v : Int64) (hd : decode c.code pc = .ok (.lconst k, 1)) (hv : Int64.ofNat k = v) (hp : pc + 1 = pc') (q : oGo p e below G T (mkF m pc' Ls (.long v :: st))) : oGo p e below G T (mkF m pc Ls (st)) := by
  subst hp; exact q.step fun t r => XT.lconstV X.here hx rfl v hd hv r
theorem o_anull (X : Stand p l e R s m args below meth c T locs cells slots) (hx : p.tables.exec = Jvm.exec) {pc pc' : Nat} {Ls : Array Slot} {st : List Value} (hd : decode c.code pc = .ok (.aconst_null, 1)) (hp : pc + 1 = pc') (q : oGo p e below G T (mkF m pc' Ls (.null :: st))) : oGo p e below G T (mkF m pc Ls (st)) := by
  subst hp; exact q.step fun t r => XS.aconstNull X.here hx rfl hd r
theorem o_ldc (X : Stand p l e R s m args below meth c T locs cells slots) (hx : p.tables.exec = Jvm.exec) {pc pc' : Nat} {Ls : Array Slot} {st : List Value} {own : String} {index : Nat} {v : Int32} (hZ : Z.Warmed39 s.vm) (hown : s.vm.findClass own = some m.cls) (w : (Jvm.Cond.constant own index v).before a0 Z = true) (hd : decode c.code pc = .ok (.ldc index, 2)) (hp : pc + 2 = pc') (q : oGo p e below G T (mkF m pc' Ls (.int v :: st))) : oGo p e below G T (mkF m pc Ls (st)) := by
  subst hp; exact q.step fun t r => X.ldcI hx hown (mvT hZ w) rfl hd r
theorem o_ldcw (X : Stand p l e R s m args below meth c T locs cells slots) (hx : p.tables.exec = Jvm.exec) {pc pc' : Nat} {Ls : Array Slot} {st : List Value} {own : String} {index : Nat} {v : Int32} (hZ : Z.Warmed39 s.vm) (hown : s.vm.findClass own = some m.cls) (w : (Jvm.Cond.constant own index v).before a0 Z = true) (hd : decode c.code pc = .ok (.ldc_w index, 3)) (hp : pc + 3 = pc') (q : oGo p e below G T (mkF m pc' Ls (.int v :: st))) : oGo p e below G T (mkF m pc Ls (st)) := by
  subst hp; exact q.step fun t r => X.ldcWI hx hown (mvT hZ w) rfl hd r
theorem o_ldc2 (X : Stand p l e R s m args below meth c T locs cells slots) (hx : p.tables.exec = Jvm.exec) {pc pc' : Nat} {Ls : Array Slot} {st : List Value} {own : String} {index : Nat} {v : Int64} (hZ : Z.Warmed39 s.vm) (hown : s.vm.findClass own = some m.cls) (w : (Jvm.Cond.constantLong own index v).before a0 Z = true) (hd : decode c.code pc = .ok (.ldc2_w index, 3)) (hp : pc + 3 = pc') (q : oGo p e below G T (mkF m pc' Ls (.long v :: st))) : oGo p e below G T (mkF m pc Ls (st)) := by
  subst hp; exact q.step fun t r => X.ldc2J hx hown (mvT hZ w) rfl hd r
theorem o_iadd (X : Stand p l e R s m args below meth c T locs cells slots) (hx : p.tables.exec = Jvm.exec) {pc pc' : Nat} {Ls : Array Slot} {st : List Value} {x y : Int32} (hd : decode c.code pc = .ok (.iadd, 1)) (hp : pc + 1 = pc') (q : oGo p e below G T (mkF m pc' Ls (.int (x + y) :: st))) : oGo p e below G T (mkF m pc Ls (.int y :: .int x :: st)) := by
  subst hp; exact q.step fun t r => XS.iadd X.here hx rfl hd rfl r
theorem o_isub (X : Stand p l e R s m args below meth c T locs cells slots) (hx : p.tables.exec = Jvm.exec) {pc pc' : Nat} {Ls : Array Slot} {st : List Value} {x y : Int32} (hd : decode c.code pc = .ok (.isub, 1)) (hp : pc + 1 = pc') (q : oGo p e below G T (mkF m pc' Ls (.int (x - y) :: st))) : oGo p e below G T (mkF m pc Ls (.int y :: .int x :: st)) := by
  subst hp; exact q.step fun t r => XS.isub X.here hx rfl hd rfl r
theorem o_imul (X : Stand p l e R s m args below meth c T locs cells slots) (hx : p.tables.exec = Jvm.exec) {pc pc' : Nat} {Ls : Array Slot} {st : List Value} {x y : Int32} (hd : decode c.code pc = .ok (.imul, 1)) (hp : pc + 1 = pc') (q : oGo p e below G T (mkF m pc' Ls (.int (x * y) :: st))) : oGo p e below G T (mkF m pc Ls (.int y :: .int x :: st)) := by
  subst hp; exact q.step fun t r => XS.imul X.here hx rfl hd rfl r
theorem o_iand (X : Stand p l e R s m args below meth c T locs cells slots) (hx : p.tables.exec = Jvm.exec) {pc pc' : Nat} {Ls : Array Slot} {st : List Value} {x y : Int32} (hd : decode c.code pc = .ok (.iand, 1)) (hp : pc + 1 = pc') (q : oGo p e below G T (mkF m pc' Ls (.int (x &&& y) :: st))) : oGo p e below G T (mkF m pc Ls (.int y :: .int x :: st)) := by
  subst hp; exact q.step fun t r => XS.iand X.here hx rfl hd rfl r
theorem o_ior (X : Stand p l e R s m args below meth c T locs cells slots) (hx : p.tables.exec = Jvm.exec) {pc pc' : Nat} {Ls : Array Slot} {st : List Value} {x y : Int32} (hd : decode c.code pc = .ok (.ior, 1)) (hp : pc + 1 = pc') (q : oGo p e below G T (mkF m pc' Ls (.int (x ||| y) :: st))) : oGo p e below G T (mkF m pc Ls (.int y :: .int x :: st)) := by
  subst hp; exact q.step fun t r => XT.ior X.here hx rfl hd rfl r
theorem o_ixor (X : Stand p l e R s m args below meth c T locs cells slots) (hx : p.tables.exec = Jvm.exec) {pc pc' : Nat} {Ls : Array Slot} {st : List Value} {x y : Int32} (hd : decode c.code pc = .ok (.ixor, 1)) (hp : pc + 1 = pc') (q : oGo p e below G T (mkF m pc' Ls (.int (x ^^^ y) :: st))) : oGo p e below G T (mkF m pc Ls (.int y :: .int x :: st)) := by
  subst hp; exact q.step fun t r => XT.ixor X.here hx rfl hd rfl r
theorem o_ishl (X : Stand p l e R s m args below meth c T locs cells slots) (hx : p.tables.exec = Jvm.exec) {pc pc' : Nat} {Ls : Array Slot} {st : List Value} {x y : Int32} (hd : decode c.code pc = .ok (.ishl, 1)) (hp : pc + 1 = pc') (q : oGo p e below G T (mkF m pc' Ls (.int (x <<< (y &&& 31)) :: st))) : oGo p e below G T (mkF m pc Ls (.int y :: .int x :: st)) := by
  subst hp; exact q.step fun t r => XT.ishl X.here hx rfl hd rfl r
theorem o_ishr (X : Stand p l e R s m args below meth c T locs cells slots) (hx : p.tables.exec = Jvm.exec) {pc pc' : Nat} {Ls : Array Slot} {st : List Value} {x y : Int32} (hd : decode c.code pc = .ok (.ishr, 1)) (hp : pc + 1 = pc') (q : oGo p e below G T (mkF m pc' Ls (.int (x >>> (y &&& 31)) :: st))) : oGo p e below G T (mkF m pc Ls (.int y :: .int x :: st)) := by
  subst hp; exact q.step fun t r => XT.ishr X.here hx rfl hd rfl r
theorem o_iushr (X : Stand p l e R s m args below meth c T locs cells slots) (hx : p.tables.exec = Jvm.exec) {pc pc' : Nat} {Ls : Array Slot} {st : List Value} {x y : Int32} (hd : decode c.code pc = .ok (.iushr, 1)) (hp : pc + 1 = pc') (q : oGo p e below G T (mkF m pc' Ls (.int (XT.ushr x y) :: st))) : oGo p e below G T (mkF m pc Ls (.int y :: .int x :: st)) := by
  subst hp; exact q.step fun t r => XT.iushr X.here hx rfl hd rfl r
theorem o_ladd (X : Stand p l e R s m args below meth c T locs cells slots) (hx : p.tables.exec = Jvm.exec) {pc pc' : Nat} {Ls : Array Slot} {st : List Value} {x y : Int64} (hd : decode c.code pc = .ok (.ladd, 1)) (hp : pc + 1 = pc') (q : oGo p e below G T (mkF m pc' Ls (.long (x + y) :: st))) : oGo p e below G T (mkF m pc Ls (.long y :: .long x :: st)) := by
  subst hp; exact q.step fun t r => XT.ladd X.here hx rfl hd rfl r
theorem o_lsub (X : Stand p l e R s m args below meth c T locs cells slots) (hx : p.tables.exec = Jvm.exec) {pc pc' : Nat} {Ls : Array Slot} {st : List Value} {x y : Int64} (hd : decode c.code pc = .ok (.lsub, 1)) (hp : pc + 1 = pc') (q : oGo p e below G T (mkF m pc' Ls (.long (x - y) :: st))) : oGo p e below G T (mkF m pc Ls (.long y :: .long x :: st)) := by
  subst hp; exact q.step fun t r => XT.lsub X.here hx rfl hd rfl r
theorem o_lmul (X : Stand p l e R s m args below meth c T locs cells slots) (hx : p.tables.exec = Jvm.exec) {pc pc' : Nat} {Ls : Array Slot} {st : List Value} {x y : Int64} (hd : decode c.code pc = .ok (.lmul, 1)) (hp : pc + 1 = pc') (q : oGo p e below G T (mkF m pc' Ls (.long (x * y) :: st))) : oGo p e below G T (mkF m pc Ls (.long y :: .long x :: st)) := by
  subst hp; exact q.step fun t r => XT.lmul X.here hx rfl hd rfl r
theorem o_land (X : Stand p l e R s m args below meth c T locs cells slots) (hx : p.tables.exec = Jvm.exec) {pc pc' : Nat} {Ls : Array Slot} {st : List Value} {x y : Int64} (hd : decode c.code pc = .ok (.land, 1)) (hp : pc + 1 = pc') (q : oGo p e below G T (mkF m pc' Ls (.long (x &&& y) :: st))) : oGo p e below G T (mkF m pc Ls (.long y :: .long x :: st)) := by
  subst hp; exact q.step fun t r => XT.land X.here hx rfl hd rfl r
theorem o_lor (X : Stand p l e R s m args below meth c T locs cells slots) (hx : p.tables.exec = Jvm.exec) {pc pc' : Nat} {Ls : Array Slot} {st : List Value} {x y : Int64} (hd : decode c.code pc = .ok (.lor, 1)) (hp : pc + 1 = pc') (q : oGo p e below G T (mkF m pc' Ls (.long (x ||| y) :: st))) : oGo p e below G T (mkF m pc Ls (.long y :: .long x :: st)) := by
  subst hp; exact q.step fun t r => XT.lor X.here hx rfl hd rfl r
theorem o_lxor (X : Stand p l e R s m args below meth c T locs cells slots) (hx : p.tables.exec = Jvm.exec) {pc pc' : Nat} {Ls : Array Slot} {st : List Value} {x y : Int64} (hd : decode c.code pc = .ok (.lxor, 1)) (hp : pc + 1 = pc') (q : oGo p e below G T (mkF m pc' Ls (.long (x ^^^ y) :: st))) : oGo p e below G T (mkF m pc Ls (.long y :: .long x :: st)) := by
  subst hp; exact q.step fun t r => XT.lxor X.here hx rfl hd rfl r
theorem o_lshl (X : Stand p l e R s m args below meth c T locs cells slots) (hx : p.tables.exec = Jvm.exec) {pc pc' : Nat} {Ls : Array Slot} {st : List Value} {x : Int64} {y : Int32} (hd : decode c.code pc = .ok (.lshl, 1)) (hp : pc + 1 = pc') (q : oGo p e below G T (mkF m pc' Ls (.long (x <<< (y.toInt64 &&& 63)) :: st))) : oGo p e below G T (mkF m pc Ls (.int y :: .long x :: st)) := by
  subst hp; exact q.step fun t r => XT.lshl X.here hx rfl hd rfl r
theorem o_lshr (X : Stand p l e R s m args below meth c T locs cells slots) (hx : p.tables.exec = Jvm.exec) {pc pc' : Nat} {Ls : Array Slot} {st : List Value} {x : Int64} {y : Int32} (hd : decode c.code pc = .ok (.lshr, 1)) (hp : pc + 1 = pc') (q : oGo p e below G T (mkF m pc' Ls (.long (x >>> (y.toInt64 &&& 63)) :: st))) : oGo p e below G T (mkF m pc Ls (.int y :: .long x :: st)) := by
  subst hp; exact q.step fun t r => XT.lshr X.here hx rfl hd rfl r
theorem o_lushr (X : Stand p l e R s m args below meth c T locs cells slots) (hx : p.tables.exec = Jvm.exec) {pc pc' : Nat} {Ls : Array Slot} {st : List Value} {x : Int64} {y : Int32} (hd : decode c.code pc = .ok (.lushr, 1)) (hp : pc + 1 = pc') (q : oGo p e below G T (mkF m pc' Ls (.long (XT.ushrL x y) :: st))) : oGo p e below G T (mkF m pc Ls (.int y :: .long x :: st)) := by
  subst hp; exact q.step fun t r => XT.lushr X.here hx rfl hd rfl r
theorem o_lcmp (X : Stand p l e R s m args below meth c T locs cells slots) (hx : p.tables.exec = Jvm.exec) {pc pc' : Nat} {Ls : Array Slot} {st : List Value} {x y : Int64} (hd : decode c.code pc = .ok (.lcmp, 1)) (hp : pc + 1 = pc') (q : oGo p e below G T (mkF m pc' Ls (.int (XT.cmpL x y) :: st))) : oGo p e below G T (mkF m pc Ls (.long y :: .long x :: st)) := by
  subst hp; exact q.step fun t r => XT.lcmp X.here hx rfl hd rfl r
theorem o_irem (X : Stand p l e R s m args below meth c T locs cells slots) (hx : p.tables.exec = Jvm.exec) {pc pc' : Nat} {Ls : Array Slot} {st : List Value} {x y : Int32} (hd : decode c.code pc = .ok (.irem, 1)) (hy : y ≠ 0) (hp : pc + 1 = pc') (q : oGo p e below G T (mkF m pc' Ls (.int (x % y) :: st))) : oGo p e below G T (mkF m pc Ls (.int y :: .int x :: st)) := by
  subst hp; exact q.step fun t r => iremM X hx rfl hd rfl hy r
theorem o_lrem (X : Stand p l e R s m args below meth c T locs cells slots) (hx : p.tables.exec = Jvm.exec) {pc pc' : Nat} {Ls : Array Slot} {st : List Value} {x y : Int64} (hd : decode c.code pc = .ok (.lrem, 1)) (hy : y ≠ 0) (hp : pc + 1 = pc') (q : oGo p e below G T (mkF m pc' Ls (.long (x % y) :: st))) : oGo p e below G T (mkF m pc Ls (.long y :: .long x :: st)) := by
  subst hp; exact q.step fun t r => XT.lrem X.here hx rfl hd rfl hy (by rw [lrem_mod]; exact r)
theorem o_i2l (X : Stand p l e R s m args below meth c T locs cells slots) (hx : p.tables.exec = Jvm.exec) {pc pc' : Nat} {Ls : Array Slot} {st : List Value} {x : Int32} (hd : decode c.code pc = .ok (.i2l, 1)) (hp : pc + 1 = pc') (q : oGo p e below G T (mkF m pc' Ls (.long (x.toInt64) :: st))) : oGo p e below G T (mkF m pc Ls (.int x :: st)) := by
  subst hp; exact q.step fun t r => XT.i2l X.here hx rfl hd rfl r
theorem o_l2i (X : Stand p l e R s m args below meth c T locs cells slots) (hx : p.tables.exec = Jvm.exec) {pc pc' : Nat} {Ls : Array Slot} {st : List Value} {x : Int64} (hd : decode c.code pc = .ok (.l2i, 1)) (hp : pc + 1 = pc') (q : oGo p e below G T (mkF m pc' Ls (.int (x.toInt32) :: st))) : oGo p e below G T (mkF m pc Ls (.long x :: st)) := by
  subst hp; exact q.step fun t r => XT.l2i X.here hx rfl hd rfl r
theorem o_i2c (X : Stand p l e R s m args below meth c T locs cells slots) (hx : p.tables.exec = Jvm.exec) {pc pc' : Nat} {Ls : Array Slot} {st : List Value} {x : Int32} (hd : decode c.code pc = .ok (.i2c, 1)) (hp : pc + 1 = pc') (q : oGo p e below G T (mkF m pc' Ls (.int (x.toUInt32.toUInt16.toUInt32.toInt32) :: st))) : oGo p e below G T (mkF m pc Ls (.int x :: st)) := by
  subst hp; exact q.step fun t r => XT.i2c X.here hx rfl hd rfl r
theorem o_i2b (X : Stand p l e R s m args below meth c T locs cells slots) (hx : p.tables.exec = Jvm.exec) {pc pc' : Nat} {Ls : Array Slot} {st : List Value} {x : Int32} (hd : decode c.code pc = .ok (.i2b, 1)) (hp : pc + 1 = pc') (q : oGo p e below G T (mkF m pc' Ls (.int (x.toInt8.toInt32) :: st))) : oGo p e below G T (mkF m pc Ls (.int x :: st)) := by
  subst hp; exact q.step fun t r => XT.i2b X.here hx rfl hd rfl r
theorem o_iinc (X : Stand p l e R s m args below meth c T locs cells slots) (hx : p.tables.exec = Jvm.exec) {pc pc' : Nat} {Ls : Array Slot} {st : List Value} {k : Nat} {cst : Int} {x : Int32} {l' : Array Slot} (v : Int32) (hd : decode c.code pc = .ok (.iinc k cst, 3)) (hv : Int32.ofInt cst = v) (hl : Ls[k]? = some (.val (.int x))) (hl' : storeLocals Ls k (.int (x + v)) = some l') (hp : pc + 3 = pc') (q : oGo p e below G T (mkF m pc' l' (st))) : oGo p e below G T (mkF m pc Ls (st)) := by
  subst hp; exact q.step fun t r => XT.iincV X.here hx rfl v hd hv hl hl' r
theorem o_dup (X : Stand p l e R s m args below meth c T locs cells slots) (hx : p.tables.exec = Jvm.exec) {pc pc' : Nat} {Ls : Array Slot} {st : List Value} {v : Value} (hd : decode c.code pc = .ok (.dup, 1)) (hc : v.category = 1) (hp : pc + 1 = pc') (q : oGo p e below G T (mkF m pc' Ls (v :: v :: st))) : oGo p e below G T (mkF m pc Ls (v :: st)) := by
  subst hp; exact q.step fun t r => XS.dup X.here hx rfl hd rfl hc r
theorem o_pop (X : Stand p l e R s m args below meth c T locs cells slots) (hx : p.tables.exec = Jvm.exec) {pc pc' : Nat} {Ls : Array Slot} {st : List Value} {v : Value} (hd : decode c.code pc = .ok (.pop, 1)) (hc : v.category = 1) (hp : pc + 1 = pc') (q : oGo p e below G T (mkF m pc' Ls (st))) : oGo p e below G T (mkF m pc Ls (v :: st)) := by
  subst hp; exact q.step fun t r => XT.pop X.here hx rfl hd rfl hc r
theorem o_goto (X : Stand p l e R s m args below meth c T locs cells slots) (hx : p.tables.exec = Jvm.exec) {pc pc' : Nat} {Ls : Array Slot} {st : List Value} {o : Int} (hd : decode c.code pc = .ok (.goto o, 3)) (ho : 0 ≤ (pc : Int) + o) (hp : ((pc : Int) + o).toNat = pc') (q : oGo p e below G T (mkF m pc' Ls (st))) : oGo p e below G T (mkF m pc Ls (st)) :=
  q.step fun t r => XS.goto X.here hx rfl rfl hd ho hp r
theorem o_icmpT (X : Stand p l e R s m args below meth c T locs cells slots) (hx : p.tables.exec = Jvm.exec) {pc pc' : Nat} {Ls : Array Slot} {st : List Value} {o : Int} {cd : ClassFile.Cond} {x y : Int32} (hd : decode c.code pc = .ok (.if_icmp cd o, 3)) (hc : if_icmp.holds cd x y = true) (ho : 0 ≤ (pc : Int) + o) (hp : ((pc : Int) + o).toNat = pc') (q : oGo p e below G T (mkF m pc' Ls (st))) : oGo p e below G T (mkF m pc Ls (.int y :: .int x :: st)) :=
  q.step fun t r => XS.icmpYes X.here hx rfl rfl hd rfl hc ho hp r
theorem o_icmpF (X : Stand p l e R s m args below meth c T locs cells slots) (hx : p.tables.exec = Jvm.exec) {pc pc' : Nat} {Ls : Array Slot} {st : List Value} {o : Int} {cd : ClassFile.Cond} {x y : Int32} (hd : decode c.code pc = .ok (.if_icmp cd o, 3)) (hc : if_icmp.holds cd x y = false) (hp : pc + 3 = pc') (q : oGo p e below G T (mkF m pc' Ls (st))) : oGo p e below G T (mkF m pc Ls (.int y :: .int x :: st)) := by
  subst hp; exact q.step fun t r => XS.icmpNo X.here hx rfl hd rfl hc r
theorem o_ifT (X : Stand p l e R s m args below meth c T locs cells slots) (hx : p.tables.exec = Jvm.exec) {pc pc' : Nat} {Ls : Array Slot} {st : List Value} {o : Int} {cd : ClassFile.Cond} {x : Int32} (hd : decode c.code pc = .ok (.ifCond cd o, 3)) (hc : ifCond.holds cd x = true) (ho : 0 ≤ (pc : Int) + o) (hp : ((pc : Int) + o).toNat = pc') (q : oGo p e below G T (mkF m pc' Ls (st))) : oGo p e below G T (mkF m pc Ls (.int x :: st)) :=
  q.step fun t r => XS.ifYes X.here hx rfl rfl hd rfl hc ho hp r
theorem o_ifF (X : Stand p l e R s m args below meth c T locs cells slots) (hx : p.tables.exec = Jvm.exec) {pc pc' : Nat} {Ls : Array Slot} {st : List Value} {o : Int} {cd : ClassFile.Cond} {x : Int32} (hd : decode c.code pc = .ok (.ifCond cd o, 3)) (hc : ifCond.holds cd x = false) (hp : pc + 3 = pc') (q : oGo p e below G T (mkF m pc' Ls (st))) : oGo p e below G T (mkF m pc Ls (.int x :: st)) := by
  subst hp; exact q.step fun t r => XS.ifNo X.here hx rfl hd rfl hc r
theorem o_acmpT (X : Stand p l e R s m args below meth c T locs cells slots) (hx : p.tables.exec = Jvm.exec) {pc pc' : Nat} {Ls : Array Slot} {st : List Value} {o : Int} {cd : ClassFile.ACond} {x y : Value} (hd : decode c.code pc = .ok (.if_acmp cd o, 3)) (h1 : x.isRef = true) (h2 : y.isRef = true) (hc : XT.acmp cd x y = true) (ho : 0 ≤ (pc : Int) + o) (hp : ((pc : Int) + o).toNat = pc') (q : oGo p e below G T (mkF m pc' Ls (st))) : oGo p e below G T (mkF m pc Ls (y :: x :: st)) :=
  q.step fun t r => XT.acmpYes X.here hx rfl rfl hd rfl h1 h2 hc ho hp r
theorem o_acmpF (X : Stand p l e R s m args below meth c T locs cells slots) (hx : p.tables.exec = Jvm.exec) {pc pc' : Nat} {Ls : Array Slot} {st : List Value} {o : Int} {cd : ClassFile.ACond} {x y : Value} (hd : decode c.code pc = .ok (.if_acmp cd o, 3)) (h1 : x.isRef = true) (h2 : y.isRef = true) (hc : XT.acmp cd x y = false) (hp : pc + 3 = pc') (q : oGo p e below G T (mkF m pc' Ls (st))) : oGo p e below G T (mkF m pc Ls (y :: x :: st)) := by
  subst hp; exact q.step fun t r => XT.acmpNo X.here hx rfl hd rfl h1 h2 hc r
theorem o_retI (X : Stand p l e R s m args below meth c T locs cells slots) (hx : p.tables.exec = Jvm.exec) (hret : meth.sig.returnType = some .int) (hlk : meth.locks = false) {pc : Nat} {Ls : Array Slot} {st : List Value} {z : Int32} (hd : decode c.code pc = .ok (.ireturn, 1)) {Q : Option Value → Heap → List Loc → Prop} {C N : Nat} (hc : cells ≤ C) (hn : slots ≤ N) (hQ : Q (some (.int z)) T.heap locs) : oGo p e below (oG s Q C N) T (mkF m pc Ls (.int z :: st)) := by
  obtain ⟨fs, hr, hrun, hended, hW, hsame⟩ := X.leave (v := some (.int z)) (fun h => by rw [hret] at h; cases h) hlk
  exact ⟨_, _, retOut X hx hret rfl (Or.inl ⟨rfl, Or.inl rfl, _, rfl⟩) hd hr, hrun, hended, _, _, rfl, hQ, ⟨_, rfl⟩, hW, hsame.mono hc hn⟩
theorem o_retJ (X : Stand p l e R s m args below meth c T locs cells slots) (hx : p.tables.exec = Jvm.exec) (hret : meth.sig.returnType = some .long) (hlk : meth.locks = false) {pc : Nat} {Ls : Array Slot} {st : List Value} {z : Int64} (hd : decode c.code pc = .ok (.lreturn, 1)) {Q : Option Value → Heap → List Loc → Prop} {C N : Nat} (hc : cells ≤ C) (hn : slots ≤ N) (hQ : Q (some (.long z)) T.heap locs) : oGo p e below (oG s Q C N) T (mkF m pc Ls (.long z :: st)) := by
  obtain ⟨fs, hr, hrun, hended, hW, hsame⟩ := X.leave (v := some (.long z)) (fun h => by rw [hret] at h; cases h) hlk
  exact ⟨_, _, retOut X hx hret rfl (Or.inr (Or.inl ⟨rfl, rfl, _, rfl⟩)) hd hr, hrun, hended, _, _, rfl, hQ, ⟨_, rfl⟩, hW, hsame.mono hc hn⟩
theorem o_retD (X : Stand p l e R s m args below meth c T locs cells slots) (hx : p.tables.exec = Jvm.exec) (hret : meth.sig.returnType = some .double) (hlk : meth.locks = false) {pc : Nat} {Ls : Array Slot} {st : List Value} {z : UInt64} (hd : decode c.code pc = .ok (.dreturn, 1)) {Q : Option Value → Heap → List Loc → Prop} {C N : Nat} (hc : cells ≤ C) (hn : slots ≤ N) (hQ : Q (some (.double z)) T.heap locs) : oGo p e below (oG s Q C N) T (mkF m pc Ls (.double z :: st)) := by
  obtain ⟨fs, hr, hrun, hended, hW, hsame⟩ := X.leave (v := some (.double z)) (fun h => by rw [hret] at h; cases h) hlk
  exact ⟨_, _, retOut X hx hret rfl (Or.inr (Or.inr (Or.inl ⟨rfl, rfl, _, rfl⟩))) hd hr, hrun, hended, _, _, rfl, hQ, ⟨_, rfl⟩, hW, hsame.mono hc hn⟩
theorem o_retZ (X : Stand p l e R s m args below meth c T locs cells slots) (hx : p.tables.exec = Jvm.exec) (hret : meth.sig.returnType = some .boolean) (hlk : meth.locks = false) {pc : Nat} {Ls : Array Slot} {st : List Value} {z : Int32} (hd : decode c.code pc = .ok (.ireturn, 1)) (hz : z &&& 1 = z) {Q : Option Value → Heap → List Loc → Prop} {C N : Nat} (hc : cells ≤ C) (hn : slots ≤ N) (hQ : Q (some (.int z)) T.heap locs) : oGo p e below (oG s Q C N) T (mkF m pc Ls (.int z :: st)) := by
  obtain ⟨fs, hr, hrun, hended, hW, hsame⟩ := X.leave (v := some (.int z)) (fun h => by rw [hret] at h; cases h) hlk
  have hz' : nar .boolean z = z := hz
  exact ⟨_, _, retN X hx (t := .boolean) hret (Or.inl rfl) hd (by rw [hz']; exact hr), hrun, hended, _, _, rfl, hQ, ⟨_, rfl⟩, hW, hsame.mono hc hn⟩
theorem o_retA (X : Stand p l e R s m args below meth c T locs cells slots) (hx : p.tables.exec = Jvm.exec) {C1 : FieldType} (hret : meth.sig.returnType = some C1) (ht : C1.isReference = true) (hlk : meth.locks = false) {pc : Nat} {Ls : Array Slot} {st : List Value} {z : Value} (hz : z.isRef = true) (hna : narrow C1 z = z) (hd : decode c.code pc = .ok (.areturn, 1)) {Q : Option Value → Heap → List Loc → Prop} {C N : Nat} (hc : cells ≤ C) (hn : slots ≤ N) (hQ : Q (some z) T.heap locs) : oGo p e below (oG s Q C N) T (mkF m pc Ls (z :: st)) := by
  obtain ⟨fs, hr, hrun, hended, hW, hsame⟩ := X.leave (v := some z) (fun h => by rw [hret] at h; cases h) hlk
  exact ⟨_, _, retOut X hx hret hna (Or.inr (Or.inr (Or.inr (Or.inr ⟨rfl, ht, hz⟩)))) hd hr, hrun, hended, _, _, rfl, hQ, ⟨_, rfl⟩, hW, hsame.mono hc hn⟩
theorem o_retV (X : Stand p l e R s m args below meth c T locs cells slots) (hx : p.tables.exec = Jvm.exec) (hret : meth.sig.returnType = none) (hlk : meth.locks = false) {pc : Nat} {Ls : Array Slot} (hd : decode c.code pc = .ok (.return_, 1)) {Q : Option Value → Heap → List Loc → Prop} {C N : Nat} (hc : cells ≤ C) (hn : slots ≤ N) (hQ : Q none T.heap locs) : oGo p e below (oG s Q C N) T (mkF m pc Ls []) := by
  obtain ⟨fs, hr, hrun, hended, hW, hsame⟩ := X.leave (v := none) (fun _ => rfl) hlk
  exact ⟨_, _, X.returnOut hx hret hd hr, hrun, hended, _, _, rfl, hQ, ⟨_, rfl⟩, hW, hsame.mono hc hn⟩
theorem o_callS (X : Stand p l e R s m args below meth c T locs cells slots) (hx : p.tables.exec = Jvm.exec) (hZ : Z.Warmed39 s.vm) {own : String} {index : Nat} {y : MethodName} {bytes : ByteArray} {maxL : Nat} {ret : Option FieldType} (hown : s.vm.findClass own = some m.cls) (w1 : (Jvm.Cond.methodLink own index y).before a0 Z = true) (w2 : (Jvm.Cond.static y).before a0 Z = true) (w3 : (Jvm.Cond.initialized y.cls).before a0 Z = true) (w4 : (Jvm.Cond.code y bytes maxL ret).before a0 Z = true) (hy : y.cls ≠ "java/lang/invoke/MethodHandle" ∧ y.cls ≠ "java/lang/invoke/VarHandle") {rm : Room} {as' : Array Value} {Q : Option Value → Heap → List Loc → Prop} (hM : oCon l Z y bytes maxL ret rm as' h Q) (eT : T.heap = h) {pc pc' : Nat} {Ls : Array Slot} {st : List Value} (hsz : Ls.size = c.maxLocals) (argsL rest : List Value) (has : argsL.toArray = as') {ps : List FieldType} {rr : Option FieldType} (hpd : parseMethodDescriptor y.desc = some ⟨ps, rr⟩) (hlen : argsL.length = ps.length) (hst : st = argsL.reverse ++ rest) (W : Nat) (hW : (rest.map fun v => v.category).sum ≤ W) (hd : decode c.code pc = .ok (.invokestatic index, 3)) (hp : pc + 3 = pc') (hf : rm.frames + 1 ≤ R.frames) (hl : W + (maxL + 11) + rm.locals ≤ R.locals) (hc : cells + rm.cells ≤ R.cells) (hn : slots + rm.slots ≤ R.slots) :
    ∃ v T' L, Stand p l e R s m args below meth c T' (locs ++ L) (cells + rm.cells) (slots + rm.slots) ∧ Q v T'.heap L ∧ ∀ t, Steps p.tables e below (T'.setTop (mkF m pc' Ls (v.toList ++ rest))) t → Steps p.tables e below (T.setTop (mkF m pc Ls st)) t := by
  subst hp has
  obtain ⟨v, vm₁, ⟨T', L', k', n'⟩, -, X', ⟨Lc, hQ, l1, y1, z1⟩, st'⟩ := Jvm.LawKit.callS X hx hown (mvT hZ w1) (mvT hZ w2) (mvT hZ w3) (mvT hZ w4) hy (backOf (W := W) (hM []) hZ w4 w3 hf hl) (g := mkF m pc Ls st) rfl hsz (argsL := argsL) (rest := rest) (lenOf hpd hlen) hst (by show 2 * 0 + _ ≤ _; omega) hd (fun _ _ => ⟨rfl, eT, hc, hn⟩)
  dsimp only [Pt.U, Pt.locs, Pt.cells, Pt.slots] at X' l1 y1 z1 st' hQ
  subst l1 y1 z1
  exact ⟨v, T', Lc, X', hQ, st'⟩
theorem o_callN (X : Stand p l e R s m args below meth c T locs cells slots) (hx : p.tables.exec = Jvm.exec) (hZ : Z.Warmed39 s.vm) {own : String} {index : Nat} {y : MethodName} {bytes : ByteArray} {maxL : Nat} (hown : s.vm.findClass own = some m.cls) (hi : y.name = "<init>") (w1 : (Jvm.Cond.methodLink own index y).before a0 Z = true) (w2 : (Jvm.Cond.instanceMethod y).before a0 Z = true) (w3 : (Jvm.Cond.initialized y.cls).before a0 Z = true) (w4 : (Jvm.Cond.code y bytes maxL none).before a0 Z = true) (hy : y.cls ≠ "java/lang/invoke/MethodHandle" ∧ y.cls ≠ "java/lang/invoke/VarHandle") {rm : Room} {as' : Array Value} {Q : Option Value → Heap → List Loc → Prop} (hM : oCon l Z y bytes maxL none rm as' h Q) (eT : T.heap = h) {pc pc' : Nat} {Ls : Array Slot} {st : List Value} (hsz : Ls.size = c.maxLocals) {a : Addr} (argsL rest : List Value) (has : (Value.ref a :: argsL).toArray = as') {ps : List FieldType} {rr : Option FieldType} (hpd : parseMethodDescriptor y.desc = some ⟨ps, rr⟩) (hlen : argsL.length = ps.length) (hst : st = argsL.reverse ++ .ref a :: rest) (W : Nat) (hW : (rest.map fun v => v.category).sum ≤ W) (hd : decode c.code pc = .ok (.invokespecial index, 3)) (hp : pc + 3 = pc') (hf : rm.frames + 1 ≤ R.frames) (hl : W + (maxL + 11) + rm.locals ≤ R.locals) (hc : cells + rm.cells ≤ R.cells) (hn : slots + rm.slots ≤ R.slots) :
    ∃ v T' L, Stand p l e R s m args below meth c T' (locs ++ L) (cells + rm.cells) (slots + rm.slots) ∧ Q v T'.heap L ∧ ∀ t, Steps p.tables e below (T'.setTop (mkF m pc' Ls (v.toList ++ rest))) t → Steps p.tables e below (T.setTop (mkF m pc Ls st)) t := by
  subst hp has
  obtain ⟨v, vm₁, ⟨T', L', k', n'⟩, -, X', ⟨Lc, hQ, l1, y1, z1⟩, st'⟩ := X.specialBack hx hi hown (mvT hZ w1) (mvT hZ w2) (mvT hZ w4) hy (backOf (W := W) (hM []) hZ w4 w3 hf hl) (g := mkF m pc Ls st) rfl hsz (Steps.refl _) (a := a) (argsL := argsL) (rest := rest) (lenOf hpd hlen) hst (by show 2 * 0 + _ ≤ _; omega) hd (fun _ _ => ⟨rfl, eT, hc, hn⟩)
  dsimp only [Pt.U, Pt.locs, Pt.cells, Pt.slots] at X' l1 y1 z1 st' hQ
  subst l1 y1 z1
  exact ⟨v, T', Lc, X', hQ, fun t r => st'.trans r⟩
theorem o_callV (X : Stand p l e R s m args below meth c T locs cells slots) (hx : p.tables.exec = Jvm.exec) (hZ : Z.Warmed39 s.vm) {own : String} {index : Nat} {y : MethodName} {bytes : ByteArray} {maxL : Nat} {ret : Option FieldType} (hown : s.vm.findClass own = some m.cls) {C : String} (w1 : (Jvm.Cond.methodLink own index y).before a0 Z = true) (w2 : (Jvm.Cond.declares y).before a0 Z = true) (w5 : (Jvm.Cond.selects C y y).before a0 Z = true) (w6 : (Jvm.Cond.instanceMethod y).before a0 Z = true) (w3 : (Jvm.Cond.initialized y.cls).before a0 Z = true) (w4 : (Jvm.Cond.code y bytes maxL ret).before a0 Z = true) (hy : y.cls ≠ "java/lang/invoke/MethodHandle" ∧ y.cls ≠ "java/lang/invoke/VarHandle") {aa : Addr} (E : Exa Z h aa C) {rm : Room} {as' : Array Value} {Q : Option Value → Heap → List Loc → Prop} (hM : oCon l Z y bytes maxL ret rm as' h Q) (eT : T.heap = h) {pc pc' : Nat} {Ls : Array Slot} {st : List Value} (hsz : Ls.size = c.maxLocals) (argsL rest : List Value) (has : (Value.ref aa :: argsL).toArray = as') {ps : List FieldType} {rr : Option FieldType} (hpd : parseMethodDescriptor y.desc = some ⟨ps, rr⟩) (hlen : argsL.length = ps.length) (hst : st = argsL.reverse ++ .ref aa :: rest) (W : Nat) (hW : (rest.map fun v => v.category).sum ≤ W) (hd : decode c.code pc = .ok (.invokevirtual index, 3)) (hp : pc + 3 = pc') (hf : rm.frames + 1 ≤ R.frames) (hl : W + (maxL + 11) + rm.locals ≤ R.locals) (hc : cells + rm.cells ≤ R.cells) (hn : slots + rm.slots ≤ R.slots) :
    ∃ v T' L, Stand p l e R s m args below meth c T' (locs ++ L) (cells + rm.cells) (slots + rm.slots) ∧ Q v T'.heap L ∧ ∀ t, Steps p.tables e below (T'.setTop (mkF m pc' Ls (v.toList ++ rest))) t → Steps p.tables e below (T.setTop (mkF m pc Ls st)) t := by
  subst hp has
  obtain ⟨v, vm₁, ⟨T', L', k', n'⟩, -, X', ⟨Lc, hQ, l1, y1, z1⟩, st'⟩ := X.virtualBack hx hown (mvT hZ w1) (mvT hZ w2) (notFace_of_selects (args := #[]) (mvT hZ w5)) (mvT hZ w5) (mvT hZ w6) hy (backOf (W := W) (hM []) hZ w4 w3 hf hl) (isOf hZ eT E).choose_spec.choose_spec.1 (isOf hZ eT E).choose_spec.choose_spec.2.2 (g := mkF m pc Ls st) rfl hsz (Steps.refl _) (argsL := argsL) (rest := rest) (lenOf hpd hlen) hst (by show 2 * 0 + _ ≤ _; omega) hd (fun _ _ => ⟨rfl, eT, hc, hn⟩)
  dsimp only [Pt.U, Pt.locs, Pt.cells, Pt.slots] at X' l1 y1 z1 st' hQ
  subst l1 y1 z1
  exact ⟨v, T', Lc, X', hQ, fun t r => st'.trans r⟩
theorem o_bz (b : Prop) [Decidable b] : (if b then (1 : Int32) else 0) &&& 1 = if b then 1 else 0 := by by_cases q : b <;> simp [q]
theorem o_same {k n : Nat} (X : Stand p l e R s m args below meth c T (locs ++ []) (cells + k) (slots + n)) (hk : k = 0) (hn : n = 0) : Stand p l e R s m args below meth c T locs cells slots := by subst hk hn; simpa using X
theorem o_flat {k n : Nat} (X : Stand p l e R s m args below meth c T locs (cells + k) (slots + n)) (hk : k = 0) (hn : n = 0) : Stand p l e R s m args below meth c T locs cells slots := by subst hk hn; exact X
theorem o_fldI {a : Addr} {C n d : String} {x y : Int32} (q : y = x) (F : Fld Z h a C n d (.int x)) : Fld Z h a C n d (.int y) := q ▸ F
theorem o_fldJ {a : Addr} {C n d : String} {x y : Int64} (q : y = x) (F : Fld Z h a C n d (.long x)) : Fld Z h a C n d (.long y) := q ▸ F
theorem o_nb {z : Int32} (q : z = 0 ∨ z = 1) : narrow .boolean (.int z) = .int z := by rcases q with rfl | rfl <;> rfl
theorem o_fb {z : Int32} (q : z = 0 ∨ z = 1) : fits .boolean (.int z) = true := by rcases q with rfl | rfl <;> rfl
theorem o_zb {z : Int32} (q : z = 0 ∨ z = 1) : z &&& 1 = z := by rcases q with rfl | rfl <;> rfl
theorem o_or1 {z : Int32} (q : z = 0 ∨ z = 1) : (z ||| 1) = 0 ∨ (z ||| 1) = 1 := by rcases q with rfl | rfl <;> simp
theorem o_or0 {z : Int32} (q : z = 0 ∨ z = 1) : (z ||| 0) = 0 ∨ (z ||| 0) = 1 := by rcases q with rfl | rfl <;> simp
def oInts (Z : State) (h : Heap) (a : Addr) (xs : List Int32) : Prop := ∃ c : Cell, Arr Z h a c .int ∧ c.slots = (xs.map Value.int).toArray ∧ xs.length < 2 ^ 31
theorem oInts.lt {a : Addr} {xs : List Int32} (F : oInts Z h a xs) : a < h.size := by obtain ⟨c, A, -⟩ := F; exact A.lt
theorem oInts.ext {h' : Heap} {a : Addr} {xs : List Int32} (F : oInts Z h a xs) (E : Ext h h') : oInts Z h' a xs := by obtain ⟨c, A, r⟩ := F; exact ⟨c, A.ext E, r⟩
theorem oInts.keep {h' : Heap} {a : Addr} {xs : List Int32} {ws : List Addr} (F : oInts Z h a xs) (K : Keep h h' ws) (q : a ∉ ws) : oInts Z h' a xs := by obtain ⟨c, A, r⟩ := F; exact ⟨c, ⟨K.2.1 a c A.1 q, A.2⟩, r⟩
theorem oInts.set {h' : Heap} {a : Addr} {xs : List Int32} {i : Nat} {v : Int32} (F : oInts Z h a xs) (W : Wr h h' a i (.int v)) : oInts Z h' a (xs.set i v) := by
  obtain ⟨c, A, S, L⟩ := F
  refine ⟨_, A.same W, ?_, by simpa using L⟩
  simp [Cell.setSlot, S, List.map_set]
theorem oInts.new {a : Addr} {k : ClassId} {n : Int32} (A : Arr Z h a (newA k .int n) .int) (q : ¬ n < 0) : oInts Z h a (List.replicate n.toNatClampNeg 0) := by
  refine ⟨_, A, ?_, ?_⟩
  · simp [newA, defaultValue]
  · have := n.toInt_lt; simp only [List.length_replicate]; have h2 : n.toInt = (n.toNatClampNeg : Int) := nat_of q; omega
theorem oInts.at {a : Addr} {xs : List Int32} {j v : Int32} (F : oInts Z h a xs) (q : ¬ j < 0) (hj : xs[j.toNatClampNeg]? = some v) : ∃ c : Cell, Arr Z h a c .int ∧ ¬ (j < 0 ∨ c.slots.size ≤ j.toNatClampNeg) ∧ c.slots[j.toNatClampNeg]? = some (.int v) := by
  obtain ⟨c, A, S, L⟩ := F
  have hl : j.toNatClampNeg < xs.length := by
    rcases Nat.lt_or_ge j.toNatClampNeg xs.length with r | r
    · exact r
    · rw [List.getElem?_eq_none r] at hj; cases hj
  refine ⟨c, A, ?_, ?_⟩
  · rw [S]; simp only [List.size_toArray, List.length_map]; rintro (r | r)
    · exact q r
    · omega
  · rw [S]; simp [hj]
theorem o_iaload (X : Stand p l e R s m args below meth c T locs cells slots) (hx : p.tables.exec = Jvm.exec) (hZ : Z.Warmed39 s.vm) (eT : T.heap = h) {a : Addr} {xs : List Int32} (F : oInts Z h a xs) {pc pc' : Nat} {Ls : Array Slot} {st : List Value} {j v : Int32} (hd : decode c.code pc = .ok (.iaload, 1)) (q0 : ¬ j < 0) (hj : xs[j.toNatClampNeg]? = some v) (hp : pc + 1 = pc') (q : oGo p e below G T (mkF m pc' Ls (.int v :: st))) : oGo p e below G T (mkF m pc Ls (.int j :: .ref a :: st)) := by
  subst hp
  obtain ⟨cl, A, h1, h2⟩ := F.at q0 hj
  exact q.step fun t r => X.iaload (g := mkF m pc Ls (.int j :: .ref a :: st)) (rest := st) hx (by rw [eT]; exact A.1) (State.isArrayOf_alike hZ.alike A.2.1) A.2.2 h1 h2 rfl rfl hd t r
theorem o_alen (X : Stand p l e R s m args below meth c T locs cells slots) (hx : p.tables.exec = Jvm.exec) (hZ : Z.Warmed39 s.vm) (eT : T.heap = h) {a : Addr} {xs : List Int32} (F : oInts Z h a xs) {pc pc' : Nat} {Ls : Array Slot} {st : List Value} (hd : decode c.code pc = .ok (.arraylength, 1)) (hp : pc + 1 = pc') (q : oGo p e below G T (mkF m pc' Ls (.int xs.length.toInt32 :: st))) : oGo p e below G T (mkF m pc Ls (.ref a :: st)) := by
  subst hp
  obtain ⟨cl, A, S, L⟩ := F
  refine q.step fun t r => X.arraylength (g := mkF m pc Ls (.ref a :: st)) (rest := st) hx (by rw [eT]; exact A.1) (State.isArrayOf_alike hZ.alike A.2.1) rfl rfl hd t ?_
  have : cl.slots.size = xs.length := by rw [S]; simp
  rw [this]; exact r
theorem o_iastore (X : Stand p l e R s m args below meth c T locs cells slots) (hx : p.tables.exec = Jvm.exec) (hZ : Z.Warmed39 s.vm) (eT : T.heap = h) {a : Addr} {xs : List Int32} (F : oInts Z h a xs) {pc pc' : Nat} {Ls : Array Slot} {st : List Value} {j x : Int32} (hd : decode c.code pc = .ok (.iastore, 1)) (q0 : ¬ j < 0) (hj : j.toNatClampNeg < xs.length) (hp : pc + 1 = pc') :
    ∃ T' h', Stand p l e R s m args below meth c T' (locs ++ [⟨a, j.toNatClampNeg⟩]) cells slots ∧ T'.heap = h' ∧ Wr h h' a j.toNatClampNeg (.int x) ∧ ∀ t, Steps p.tables e below (T'.setTop (mkF m pc' Ls st)) t → Steps p.tables e below (T.setTop (mkF m pc Ls (.int x :: .int j :: .ref a :: st))) t := by
  subst hp
  obtain ⟨v, hv⟩ : ∃ v, xs[j.toNatClampNeg]? = some v := ⟨_, List.getElem?_eq_getElem hj⟩
  obtain ⟨cl, A, h1, h2⟩ := F.at q0 hv
  obtain ⟨T', h', X', e', W', st'⟩ := stI X hx hZ eT A (x := x) h1 (g := mkF m pc Ls (.int x :: .int j :: .ref a :: st)) (rest := st) rfl rfl hd
  exact ⟨T', h', X', e', W', st'⟩
theorem o_newI (X : Stand p l e R s m args below meth c T locs cells slots) (hx : p.tables.exec = Jvm.exec) (hZ : Z.Warmed39 s.vm) (w : (Jvm.Cond.arrayClass .int).before a0 Z = true) (eT : T.heap = h) {pc pc' : Nat} {Ls : Array Slot} {st : List Value} {n : Int32} (hd : decode c.code pc = .ok (.newarray .int, 2)) (hn : ¬ n < 0) (cap : Nat) (hcap : n.toNatClampNeg ≤ cap) (hb : cap * 8 ≤ 536870912) (hc : cells + 1 ≤ R.cells) (hl : slots + cap ≤ R.slots) (hp : pc + 2 = pc') :
    ∃ T' h', Stand p l e R s m args below meth c T' locs (cells + 1) (slots + cap) ∧ T'.heap = h' ∧ Ext h h' ∧ oInts Z h' h.size (List.replicate n.toNatClampNeg 0) ∧ ∀ t, Steps p.tables e below (T'.setTop (mkF m pc' Ls (.ref h.size :: st))) t → Steps p.tables e below (T.setTop (mkF m pc Ls (.int n :: st))) t := by
  subst hp
  obtain ⟨T', h', cA, X', e', E, A, st'⟩ := newP X hx hZ (aty := .int) w eT (g := mkF m pc Ls (.int n :: st)) rfl hd (n := n) (rest := st) rfl hn hcap hb hc hl
  have A' := oInts.new A hn
  exact ⟨T', h', X', e', E, A', st'⟩
end OwnKit
theorem d1_0 : decode method_3_code 0 = .ok (.iload_n 0, 1) := by decide +kernel
theorem d1_1 : decode method_3_code 1 = .ok (.ifCond .ne 7, 3) := by decide +kernel
theorem d1_4 : decode method_3_code 4 = .ok (.getstatic 28, 3) := by decide +kernel
theorem d1_7 : decode method_3_code 7 = .ok (.areturn, 1) := by decide +kernel
theorem d1_8 : decode method_3_code 8 = .ok (.iload_n 0, 1) := by decide +kernel
theorem d1_9 : decode method_3_code 9 = .ok (.iconst 1, 1) := by decide +kernel
theorem d1_10 : decode method_3_code 10 = .ok (.if_icmp .ne 7, 3) := by decide +kernel
theorem d1_13 : decode method_3_code 13 = .ok (.getstatic 34, 3) := by decide +kernel
theorem d1_16 : decode method_3_code 16 = .ok (.areturn, 1) := by decide +kernel
theorem d1_17 : decode method_3_code 17 = .ok (.getstatic 37, 3) := by decide +kernel
theorem d1_20 : decode method_3_code 20 = .ok (.areturn, 1) := by decide +kernel
theorem pn_1 : plainName "org/kalends/expressions/WrittenDateSlashJoinsPinLaw" = true := by first | (simp [plainName, overriddenIn]; done) | decide +kernel
theorem ef_1 (m : MethodId) (x0 : Int32) : entryFrame m #[(.int x0)] 1 = mkF m 0 #[.val (.int x0)] [] := by first | (simp [entryFrame, mkF, argsToLocals, Value.category]; done) | rfl
def spec1 (x0 : Int32) (r_YEAR_FIRST r_MONTH_FIRST r_OTHER : Addr) : Addr := (if x0 = 0 then r_YEAR_FIRST else (if x0 = (1 : Int32) then r_MONTH_FIRST else r_OTHER))
def room1 : Room := { frames := 0, cells := 0, slots := 0, locals := 0 }
set_option maxRecDepth 65536 in
set_option maxHeartbeats 40000000 in
theorem rm1 (l : Launch) (Z : State) (a0 : Array Value) (hw : ∀ d ∈ tables_1, d.before a0 Z = true) (x0 : Int32) (r_YEAR_FIRST r_MONTH_FIRST r_OTHER : Addr) (h0 : Heap) (n0 : Nat) (Z0 : n0 ≤ h0.size) (O0 : Old Z n0 h0) (S_YEAR_FIRST : Sta Z Z.heap "org/kalends/expressions/WrittenDate$Order" "YEAR_FIRST" "Lorg/kalends/expressions/WrittenDate$Order;" (.ref r_YEAR_FIRST)) (S_MONTH_FIRST : Sta Z Z.heap "org/kalends/expressions/WrittenDate$Order" "MONTH_FIRST" "Lorg/kalends/expressions/WrittenDate$Order;" (.ref r_MONTH_FIRST)) (S_OTHER : Sta Z Z.heap "org/kalends/expressions/WrittenDate$Order" "OTHER" "Lorg/kalends/expressions/WrittenDate$Order;" (.ref r_OTHER)) :
    oCon l Z (⟨"org/kalends/expressions/WrittenDateSlashJoinsPinLaw", "order", "(I)Lorg/kalends/expressions/WrittenDate$Order;"⟩ : MethodName) method_3_code 1 (some (.object "org/kalends/expressions/WrittenDate$Order")) room1 #[(.int x0)] h0 (fun v h L => v = some (.ref (spec1 x0 r_YEAR_FIRST r_MONTH_FIRST r_OTHER)) ∧ L = [] ∧ h = h0) := by
  refine oCon.of (plainFor_of_name pn_1) ?_
  intro p e s m below meth c s₁ hx hby hml hown hnm hret hlk hZ X0 e0
  rw [ef_1 m x0]
  have N0 := Fr.nil n0
  refine o_iloadN (pc' := 1) X0 hx (hb hby d1_0) rfl rfl ?_
  by_cases c1 : x0 = 0
  · refine o_ifF (pc' := 4) X0 hx (hb hby d1_1) (XT.i0_ne_f c1) rfl ?_
    obtain ⟨T2, X2, e2, st2⟩ := getS X0 hx hZ (host := "") hown (hw _ (List.mem_of_getElem? (i := 7) rfl)) Via.refl e0 (S_YEAR_FIRST.ext O0.2) (g := (mkF m 4 #[.val (.int x0)] [])) rfl (hb hby d1_4)
    refine oGo.step (f' := (mkF m 7 #[.val (.int x0)] [(.ref r_YEAR_FIRST)])) st2 ?_
    refine o_retA X2 hx hret rfl hlk rfl rfl (hb hby d1_7) (by decide) (by decide) ?_
    exact ⟨congrArg (fun z => some (Value.ref z)) (show _ = spec1 x0 r_YEAR_FIRST r_MONTH_FIRST r_OTHER from (if_pos c1).symm), rfl, e2⟩
  · refine o_ifT (pc' := 8) X0 hx (hb hby d1_1) (XT.i0_ne_t c1) (by decide) (by decide) ?_
    refine o_iloadN (pc' := 9) X0 hx (hb hby d1_8) rfl rfl ?_
    refine o_iconst (pc' := 10) (v := (1 : Int32)) X0 hx (hb hby d1_9) rfl rfl ?_
    by_cases c3 : x0 = (1 : Int32)
    · refine o_icmpF (pc' := 13) X0 hx (hb hby d1_10) (XT.ii_ne_f c3) rfl ?_
      obtain ⟨T4, X4, e4, st4⟩ := getS X0 hx hZ (host := "") hown (hw _ (List.mem_of_getElem? (i := 65) rfl)) Via.refl e0 (S_MONTH_FIRST.ext O0.2) (g := (mkF m 13 #[.val (.int x0)] [])) rfl (hb hby d1_13)
      refine oGo.step (f' := (mkF m 16 #[.val (.int x0)] [(.ref r_MONTH_FIRST)])) st4 ?_
      refine o_retA X4 hx hret rfl hlk rfl rfl (hb hby d1_16) (by decide) (by decide) ?_
      exact ⟨congrArg (fun z => some (Value.ref z)) (show _ = spec1 x0 r_YEAR_FIRST r_MONTH_FIRST r_OTHER from ((if_neg c1).trans (if_pos c3)).symm), rfl, e4⟩
    · refine o_icmpT (pc' := 17) X0 hx (hb hby d1_10) (XT.ii_ne_t c3) (by decide) (by decide) ?_
      obtain ⟨T5, X5, e5, st5⟩ := getS X0 hx hZ (host := "") hown (hw _ (List.mem_of_getElem? (i := 57) rfl)) Via.refl e0 (S_OTHER.ext O0.2) (g := (mkF m 17 #[.val (.int x0)] [])) rfl (hb hby d1_17)
      refine oGo.step (f' := (mkF m 20 #[.val (.int x0)] [(.ref r_OTHER)])) st5 ?_
      refine o_retA X5 hx hret rfl hlk rfl rfl (hb hby d1_20) (by decide) (by decide) ?_
      exact ⟨congrArg (fun z => some (Value.ref z)) (show _ = spec1 x0 r_YEAR_FIRST r_MONTH_FIRST r_OTHER from ((if_neg c1).trans (if_neg c3)).symm), rfl, e5⟩
theorem d2_0 : decode method_2_code 0 = .ok (.iload_n 0, 1) := by decide +kernel
theorem d2_1 : decode method_2_code 1 = .ok (.ifCond .ne 7, 3) := by decide +kernel
theorem d2_4 : decode method_2_code 4 = .ok (.getstatic 7, 3) := by decide +kernel
theorem d2_7 : decode method_2_code 7 = .ok (.areturn, 1) := by decide +kernel
theorem d2_8 : decode method_2_code 8 = .ok (.iload_n 0, 1) := by decide +kernel
theorem d2_9 : decode method_2_code 9 = .ok (.iconst 1, 1) := by decide +kernel
theorem d2_10 : decode method_2_code 10 = .ok (.if_icmp .ne 7, 3) := by decide +kernel
theorem d2_13 : decode method_2_code 13 = .ok (.getstatic 13, 3) := by decide +kernel
theorem d2_16 : decode method_2_code 16 = .ok (.areturn, 1) := by decide +kernel
theorem d2_17 : decode method_2_code 17 = .ok (.iload_n 0, 1) := by decide +kernel
theorem d2_18 : decode method_2_code 18 = .ok (.iconst 2, 1) := by decide +kernel
theorem d2_19 : decode method_2_code 19 = .ok (.if_icmp .ne 7, 3) := by decide +kernel
theorem d2_22 : decode method_2_code 22 = .ok (.getstatic 16, 3) := by decide +kernel
theorem d2_25 : decode method_2_code 25 = .ok (.areturn, 1) := by decide +kernel
theorem d2_26 : decode method_2_code 26 = .ok (.iload_n 0, 1) := by decide +kernel
theorem d2_27 : decode method_2_code 27 = .ok (.iconst 3, 1) := by decide +kernel
theorem d2_28 : decode method_2_code 28 = .ok (.if_icmp .ne 7, 3) := by decide +kernel
theorem d2_31 : decode method_2_code 31 = .ok (.getstatic 19, 3) := by decide +kernel
theorem d2_34 : decode method_2_code 34 = .ok (.areturn, 1) := by decide +kernel
theorem d2_35 : decode method_2_code 35 = .ok (.iload_n 0, 1) := by decide +kernel
theorem d2_36 : decode method_2_code 36 = .ok (.iconst 4, 1) := by decide +kernel
theorem d2_37 : decode method_2_code 37 = .ok (.if_icmp .ne 7, 3) := by decide +kernel
theorem d2_40 : decode method_2_code 40 = .ok (.getstatic 22, 3) := by decide +kernel
theorem d2_43 : decode method_2_code 43 = .ok (.areturn, 1) := by decide +kernel
theorem d2_44 : decode method_2_code 44 = .ok (.getstatic 25, 3) := by decide +kernel
theorem d2_47 : decode method_2_code 47 = .ok (.areturn, 1) := by decide +kernel
theorem ef_2 (m : MethodId) (x0 : Int32) : entryFrame m #[(.int x0)] 1 = mkF m 0 #[.val (.int x0)] [] := by first | (simp [entryFrame, mkF, argsToLocals, Value.category]; done) | rfl
def spec2 (x0 : Int32) (r_GREGORIAN r_JULIAN r_JULIAN_ANNUNCIATION r_JULIAN_NATAL r_FRENCH_REPUBLICAN r_HIJRI : Addr) : Addr := (if x0 = 0 then r_GREGORIAN else (if x0 = (1 : Int32) then r_JULIAN else (if x0 = (2 : Int32) then r_JULIAN_ANNUNCIATION else (if x0 = (3 : Int32) then r_JULIAN_NATAL else (if x0 = (4 : Int32) then r_FRENCH_REPUBLICAN else r_HIJRI)))))
def room2 : Room := { frames := 0, cells := 0, slots := 0, locals := 0 }
set_option maxRecDepth 65536 in
set_option maxHeartbeats 40000000 in
theorem rm2 (l : Launch) (Z : State) (a0 : Array Value) (hw : ∀ d ∈ tables_1, d.before a0 Z = true) (x0 : Int32) (r_GREGORIAN r_JULIAN r_JULIAN_ANNUNCIATION r_JULIAN_NATAL r_FRENCH_REPUBLICAN r_HIJRI : Addr) (h0 : Heap) (n0 : Nat) (Z0 : n0 ≤ h0.size) (O0 : Old Z n0 h0) (S_GREGORIAN : Sta Z Z.heap "org/kalends/calendars/Calendar" "GREGORIAN" "Lorg/kalends/calendars/Calendar;" (.ref r_GREGORIAN)) (S_JULIAN : Sta Z Z.heap "org/kalends/calendars/Calendar" "JULIAN" "Lorg/kalends/calendars/Calendar;" (.ref r_JULIAN)) (S_JULIAN_ANNUNCIATION : Sta Z Z.heap "org/kalends/calendars/Calendar" "JULIAN_ANNUNCIATION" "Lorg/kalends/calendars/Calendar;" (.ref r_JULIAN_ANNUNCIATION)) (S_JULIAN_NATAL : Sta Z Z.heap "org/kalends/calendars/Calendar" "JULIAN_NATAL" "Lorg/kalends/calendars/Calendar;" (.ref r_JULIAN_NATAL)) (S_FRENCH_REPUBLICAN : Sta Z Z.heap "org/kalends/calendars/Calendar" "FRENCH_REPUBLICAN" "Lorg/kalends/calendars/Calendar;" (.ref r_FRENCH_REPUBLICAN)) (S_HIJRI : Sta Z Z.heap "org/kalends/calendars/Calendar" "HIJRI" "Lorg/kalends/calendars/Calendar;" (.ref r_HIJRI)) :
    oCon l Z (⟨"org/kalends/expressions/WrittenDateSlashJoinsPinLaw", "calendar", "(I)Lorg/kalends/calendars/Calendar;"⟩ : MethodName) method_2_code 1 (some (.object "org/kalends/calendars/Calendar")) room2 #[(.int x0)] h0 (fun v h L => v = some (.ref (spec2 x0 r_GREGORIAN r_JULIAN r_JULIAN_ANNUNCIATION r_JULIAN_NATAL r_FRENCH_REPUBLICAN r_HIJRI)) ∧ L = [] ∧ h = h0) := by
  refine oCon.of (plainFor_of_name pn_1) ?_
  intro p e s m below meth c s₁ hx hby hml hown hnm hret hlk hZ X0 e0
  rw [ef_2 m x0]
  have N0 := Fr.nil n0
  refine o_iloadN (pc' := 1) X0 hx (hb hby d2_0) rfl rfl ?_
  by_cases c1 : x0 = 0
  · refine o_ifF (pc' := 4) X0 hx (hb hby d2_1) (XT.i0_ne_f c1) rfl ?_
    obtain ⟨T2, X2, e2, st2⟩ := getS X0 hx hZ (host := "") hown (hw _ (List.mem_of_getElem? (i := 16) rfl)) Via.refl e0 (S_GREGORIAN.ext O0.2) (g := (mkF m 4 #[.val (.int x0)] [])) rfl (hb hby d2_4)
    refine oGo.step (f' := (mkF m 7 #[.val (.int x0)] [(.ref r_GREGORIAN)])) st2 ?_
    refine o_retA X2 hx hret rfl hlk rfl rfl (hb hby d2_7) (by decide) (by decide) ?_
    exact ⟨congrArg (fun z => some (Value.ref z)) (show _ = spec2 x0 r_GREGORIAN r_JULIAN r_JULIAN_ANNUNCIATION r_JULIAN_NATAL r_FRENCH_REPUBLICAN r_HIJRI from (if_pos c1).symm), rfl, e2⟩
  · refine o_ifT (pc' := 8) X0 hx (hb hby d2_1) (XT.i0_ne_t c1) (by decide) (by decide) ?_
    refine o_iloadN (pc' := 9) X0 hx (hb hby d2_8) rfl rfl ?_
    refine o_iconst (pc' := 10) (v := (1 : Int32)) X0 hx (hb hby d2_9) rfl rfl ?_
    by_cases c3 : x0 = (1 : Int32)
    · refine o_icmpF (pc' := 13) X0 hx (hb hby d2_10) (XT.ii_ne_f c3) rfl ?_
      obtain ⟨T4, X4, e4, st4⟩ := getS X0 hx hZ (host := "") hown (hw _ (List.mem_of_getElem? (i := 59) rfl)) Via.refl e0 (S_JULIAN.ext O0.2) (g := (mkF m 13 #[.val (.int x0)] [])) rfl (hb hby d2_13)
      refine oGo.step (f' := (mkF m 16 #[.val (.int x0)] [(.ref r_JULIAN)])) st4 ?_
      refine o_retA X4 hx hret rfl hlk rfl rfl (hb hby d2_16) (by decide) (by decide) ?_
      exact ⟨congrArg (fun z => some (Value.ref z)) (show _ = spec2 x0 r_GREGORIAN r_JULIAN r_JULIAN_ANNUNCIATION r_JULIAN_NATAL r_FRENCH_REPUBLICAN r_HIJRI from ((if_neg c1).trans (if_pos c3)).symm), rfl, e4⟩
    · refine o_icmpT (pc' := 17) X0 hx (hb hby d2_10) (XT.ii_ne_t c3) (by decide) (by decide) ?_
      refine o_iloadN (pc' := 18) X0 hx (hb hby d2_17) rfl rfl ?_
      refine o_iconst (pc' := 19) (v := (2 : Int32)) X0 hx (hb hby d2_18) rfl rfl ?_
      by_cases c5 : x0 = (2 : Int32)
      · refine o_icmpF (pc' := 22) X0 hx (hb hby d2_19) (XT.ii_ne_f c5) rfl ?_
        obtain ⟨T6, X6, e6, st6⟩ := getS X0 hx hZ (host := "") hown (hw _ (List.mem_of_getElem? (i := 69) rfl)) Via.refl e0 (S_JULIAN_ANNUNCIATION.ext O0.2) (g := (mkF m 22 #[.val (.int x0)] [])) rfl (hb hby d2_22)
        refine oGo.step (f' := (mkF m 25 #[.val (.int x0)] [(.ref r_JULIAN_ANNUNCIATION)])) st6 ?_
        refine o_retA X6 hx hret rfl hlk rfl rfl (hb hby d2_25) (by decide) (by decide) ?_
        exact ⟨congrArg (fun z => some (Value.ref z)) (show _ = spec2 x0 r_GREGORIAN r_JULIAN r_JULIAN_ANNUNCIATION r_JULIAN_NATAL r_FRENCH_REPUBLICAN r_HIJRI from ((if_neg c1).trans ((if_neg c3).trans (if_pos c5))).symm), rfl, e6⟩
      · refine o_icmpT (pc' := 26) X0 hx (hb hby d2_19) (XT.ii_ne_t c5) (by decide) (by decide) ?_
        refine o_iloadN (pc' := 27) X0 hx (hb hby d2_26) rfl rfl ?_
        refine o_iconst (pc' := 28) (v := (3 : Int32)) X0 hx (hb hby d2_27) rfl rfl ?_
        by_cases c7 : x0 = (3 : Int32)
        · refine o_icmpF (pc' := 31) X0 hx (hb hby d2_28) (XT.ii_ne_f c7) rfl ?_
          obtain ⟨T8, X8, e8, st8⟩ := getS X0 hx hZ (host := "") hown (hw _ (List.mem_of_getElem? (i := 53) rfl)) Via.refl e0 (S_JULIAN_NATAL.ext O0.2) (g := (mkF m 31 #[.val (.int x0)] [])) rfl (hb hby d2_31)
          refine oGo.step (f' := (mkF m 34 #[.val (.int x0)] [(.ref r_JULIAN_NATAL)])) st8 ?_
          refine o_retA X8 hx hret rfl hlk rfl rfl (hb hby d2_34) (by decide) (by decide) ?_
          exact ⟨congrArg (fun z => some (Value.ref z)) (show _ = spec2 x0 r_GREGORIAN r_JULIAN r_JULIAN_ANNUNCIATION r_JULIAN_NATAL r_FRENCH_REPUBLICAN r_HIJRI from ((if_neg c1).trans ((if_neg c3).trans ((if_neg c5).trans (if_pos c7)))).symm), rfl, e8⟩
        · refine o_icmpT (pc' := 35) X0 hx (hb hby d2_28) (XT.ii_ne_t c7) (by decide) (by decide) ?_
          refine o_iloadN (pc' := 36) X0 hx (hb hby d2_35) rfl rfl ?_
          refine o_iconst (pc' := 37) (v := (4 : Int32)) X0 hx (hb hby d2_36) rfl rfl ?_
          by_cases c9 : x0 = (4 : Int32)
          · refine o_icmpF (pc' := 40) X0 hx (hb hby d2_37) (XT.ii_ne_f c9) rfl ?_
            obtain ⟨T10, X10, e10, st10⟩ := getS X0 hx hZ (host := "") hown (hw _ (List.mem_of_getElem? (i := 67) rfl)) Via.refl e0 (S_FRENCH_REPUBLICAN.ext O0.2) (g := (mkF m 40 #[.val (.int x0)] [])) rfl (hb hby d2_40)
            refine oGo.step (f' := (mkF m 43 #[.val (.int x0)] [(.ref r_FRENCH_REPUBLICAN)])) st10 ?_
            refine o_retA X10 hx hret rfl hlk rfl rfl (hb hby d2_43) (by decide) (by decide) ?_
            exact ⟨congrArg (fun z => some (Value.ref z)) (show _ = spec2 x0 r_GREGORIAN r_JULIAN r_JULIAN_ANNUNCIATION r_JULIAN_NATAL r_FRENCH_REPUBLICAN r_HIJRI from ((if_neg c1).trans ((if_neg c3).trans ((if_neg c5).trans ((if_neg c7).trans (if_pos c9))))).symm), rfl, e10⟩
          · refine o_icmpT (pc' := 44) X0 hx (hb hby d2_37) (XT.ii_ne_t c9) (by decide) (by decide) ?_
            obtain ⟨T11, X11, e11, st11⟩ := getS X0 hx hZ (host := "") hown (hw _ (List.mem_of_getElem? (i := 55) rfl)) Via.refl e0 (S_HIJRI.ext O0.2) (g := (mkF m 44 #[.val (.int x0)] [])) rfl (hb hby d2_44)
            refine oGo.step (f' := (mkF m 47 #[.val (.int x0)] [(.ref r_HIJRI)])) st11 ?_
            refine o_retA X11 hx hret rfl hlk rfl rfl (hb hby d2_47) (by decide) (by decide) ?_
            exact ⟨congrArg (fun z => some (Value.ref z)) (show _ = spec2 x0 r_GREGORIAN r_JULIAN r_JULIAN_ANNUNCIATION r_JULIAN_NATAL r_FRENCH_REPUBLICAN r_HIJRI from ((if_neg c1).trans ((if_neg c3).trans ((if_neg c5).trans ((if_neg c7).trans (if_neg c9))))).symm), rfl, e11⟩
theorem d4_0 : decode jdk_30_method_1_code 0 = .ok (.aload_n 0, 1) := by decide +kernel
theorem d4_1 : decode jdk_30_method_1_code 1 = .ok (.invokespecial 1, 3) := by decide +kernel
theorem d4_4 : decode jdk_30_method_1_code 4 = .ok (.return_, 1) := by decide +kernel
theorem pn_4 : plainName "java/lang/Record" = true := by first | (simp [plainName, overriddenIn]; done) | decide +kernel
theorem ef4 (m : MethodId) (a1 : Addr) : entryFrame m #[(.ref a1)] 1 = mkF m 0 #[.val (.ref a1)] [] := by first | (simp [entryFrame, mkF, argsToLocals, Value.category]; done) | rfl
def room4 : Room := { frames := 1, cells := 0, slots := 0, locals := 12 }
set_option maxRecDepth 65536 in
set_option maxHeartbeats 40000000 in
theorem rm4 (l : Launch) (Z : State) (a0 : Array Value) (hw : ∀ d ∈ tables_1, d.before a0 Z = true) (a1 : Addr) (h0 : Heap) (n0 : Nat) (Z0 : n0 ≤ h0.size)   :
    oCon l Z (⟨"java/lang/Record", "<init>", "()V"⟩ : MethodName) jdk_30_method_1_code 1 none room4 #[(.ref a1)] h0 (fun v h L => v = none ∧ L = [] ∧ h = h0) := by
  refine oCon.of (plainFor_of_name pn_4) ?_
  intro p e s m below meth c s₁ hx hby hml hown hnm hret hlk hZ X0 e0
  rw [ef4 m a1]
  have N0 := Fr.nil n0
  refine o_aloadN (pc' := 1) X0 hx (hb hby d4_0) rfl rfl rfl ?_
  obtain ⟨T1, X1, e1, st1⟩ := initO X0 hx hZ hown (hw _ (List.mem_of_getElem? (i := 27) rfl)) (hw _ (List.mem_of_getElem? (i := 28) rfl)) (hw _ (List.mem_of_getElem? (i := 29) rfl)) e0 (g := (mkF m 1 #[.val (.ref a1)] [(.ref a1)])) rfl (by rw [hml]; rfl) rfl (hb hby d4_1) (by decide) (W := 0) (by show 2 * 0 + _ ≤ _; exact Nat.le_of_eq rfl) (by decide)
  refine oGo.step (f' := (mkF m 4 #[.val (.ref a1)] [])) st1 ?_
  refine o_retV X1 hx hret hlk (hb hby d4_4) (by decide) (by decide) ?_
  exact ⟨rfl, rfl, e1⟩
theorem d3_0 : decode prog_44_method_3_code 0 = .ok (.aload_n 0, 1) := by decide +kernel
theorem d3_1 : decode prog_44_method_3_code 1 = .ok (.invokespecial 1, 3) := by decide +kernel
theorem d3_4 : decode prog_44_method_3_code 4 = .ok (.aload_n 0, 1) := by decide +kernel
theorem d3_5 : decode prog_44_method_3_code 5 = .ok (.iload_n 1, 1) := by decide +kernel
theorem d3_6 : decode prog_44_method_3_code 6 = .ok (.putfield 7, 3) := by decide +kernel
theorem d3_9 : decode prog_44_method_3_code 9 = .ok (.aload_n 0, 1) := by decide +kernel
theorem d3_10 : decode prog_44_method_3_code 10 = .ok (.iload_n 2, 1) := by decide +kernel
theorem d3_11 : decode prog_44_method_3_code 11 = .ok (.putfield 13, 3) := by decide +kernel
theorem d3_14 : decode prog_44_method_3_code 14 = .ok (.aload_n 0, 1) := by decide +kernel
theorem d3_15 : decode prog_44_method_3_code 15 = .ok (.iload_n 3, 1) := by decide +kernel
theorem d3_16 : decode prog_44_method_3_code 16 = .ok (.putfield 16, 3) := by decide +kernel
theorem d3_19 : decode prog_44_method_3_code 19 = .ok (.aload_n 0, 1) := by decide +kernel
theorem d3_20 : decode prog_44_method_3_code 20 = .ok (.iload 4, 2) := by decide +kernel
theorem d3_22 : decode prog_44_method_3_code 22 = .ok (.putfield 19, 3) := by decide +kernel
theorem d3_25 : decode prog_44_method_3_code 25 = .ok (.aload_n 0, 1) := by decide +kernel
theorem d3_26 : decode prog_44_method_3_code 26 = .ok (.aload 5, 2) := by decide +kernel
theorem d3_28 : decode prog_44_method_3_code 28 = .ok (.putfield 22, 3) := by decide +kernel
theorem d3_31 : decode prog_44_method_3_code 31 = .ok (.aload_n 0, 1) := by decide +kernel
theorem d3_32 : decode prog_44_method_3_code 32 = .ok (.aload 6, 2) := by decide +kernel
theorem d3_34 : decode prog_44_method_3_code 34 = .ok (.putfield 26, 3) := by decide +kernel
theorem d3_37 : decode prog_44_method_3_code 37 = .ok (.aload_n 0, 1) := by decide +kernel
theorem d3_38 : decode prog_44_method_3_code 38 = .ok (.iload 7, 2) := by decide +kernel
theorem d3_40 : decode prog_44_method_3_code 40 = .ok (.putfield 30, 3) := by decide +kernel
theorem d3_43 : decode prog_44_method_3_code 43 = .ok (.aload_n 0, 1) := by decide +kernel
theorem d3_44 : decode prog_44_method_3_code 44 = .ok (.aload 8, 2) := by decide +kernel
theorem d3_46 : decode prog_44_method_3_code 46 = .ok (.putfield 34, 3) := by decide +kernel
theorem d3_49 : decode prog_44_method_3_code 49 = .ok (.aload_n 0, 1) := by decide +kernel
theorem d3_50 : decode prog_44_method_3_code 50 = .ok (.iload 9, 2) := by decide +kernel
theorem d3_52 : decode prog_44_method_3_code 52 = .ok (.putfield 38, 3) := by decide +kernel
theorem d3_55 : decode prog_44_method_3_code 55 = .ok (.return_, 1) := by decide +kernel
theorem pn_3 : plainName "org/kalends/expressions/WrittenDate" = true := by first | (simp [plainName, overriddenIn]; done) | decide +kernel
theorem ef3 (m : MethodId) (a1 : Addr) (x1 : Int32) (x2 : Int32) (x3 : Int32) (x4 : Int32) (x5 : Addr) (x7 : Int32) (x8 : Addr) (x9 : Int32) : entryFrame m #[(.ref a1), (.int x1), (.int x2), (.int x3), (.int x4), (.ref x5), .null, (.int x7), (.ref x8), (.int x9)] 10 = mkF m 0 #[.val (.ref a1), .val (.int x1), .val (.int x2), .val (.int x3), .val (.int x4), .val (.ref x5), .val .null, .val (.int x7), .val (.ref x8), .val (.int x9)] [] := by first | (simp [entryFrame, mkF, argsToLocals, Value.category]; done) | rfl
theorem pd0 : parseMethodDescriptor "()V" = some ⟨[], none⟩ := by decide +kernel
def room3 : Room := { frames := 2, cells := 0, slots := 0, locals := 24 }
set_option maxRecDepth 65536 in
set_option maxHeartbeats 40000000 in
theorem rm3 (l : Launch) (Z : State) (a0 : Array Value) (hw : ∀ d ∈ tables_1, d.before a0 Z = true) (a1 : Addr) (x1 : Int32) (x2 : Int32) (x3 : Int32) (x4 : Int32) (x5 : Addr) (x7 : Int32) (x8 : Addr) (x9 : Int32) (f_year : Int32) (f_month : Int32) (f_day : Int32) (f_length : Int32) (f_mayBeDecade : Int32) (f_namesCalendar : Int32) (h0 : Heap) (n0 : Nat) (Z0 : n0 ≤ h0.size) (E0 : Exa Z h0 a1 "org/kalends/expressions/WrittenDate") (F_year : Fld Z h0 a1 "org/kalends/expressions/WrittenDate" "year" "I" (.int f_year)) (F_month : Fld Z h0 a1 "org/kalends/expressions/WrittenDate" "month" "I" (.int f_month)) (F_day : Fld Z h0 a1 "org/kalends/expressions/WrittenDate" "day" "I" (.int f_day)) (F_length : Fld Z h0 a1 "org/kalends/expressions/WrittenDate" "length" "I" (.int f_length)) (F_order : Fld Z h0 a1 "org/kalends/expressions/WrittenDate" "order" "Lorg/kalends/expressions/WrittenDate$Order;" .null) (F_weekday : Fld Z h0 a1 "org/kalends/expressions/WrittenDate" "weekday" "Ljava/time/DayOfWeek;" .null) (F_mayBeDecade : Fld Z h0 a1 "org/kalends/expressions/WrittenDate" "mayBeDecade" "Z" (.int f_mayBeDecade)) (F_calendar : Fld Z h0 a1 "org/kalends/expressions/WrittenDate" "calendar" "Lorg/kalends/calendars/Calendar;" .null) (F_namesCalendar : Fld Z h0 a1 "org/kalends/expressions/WrittenDate" "namesCalendar" "Z" (.int f_namesCalendar)) (ga : n0 ≤ a1) (z_x7 : x7 = 0 ∨ x7 = 1) (z_x9 : x9 = 0 ∨ x9 = 1) :
    oCon l Z (⟨"org/kalends/expressions/WrittenDate", "<init>", "(IIIILorg/kalends/expressions/WrittenDate$Order;Ljava/time/DayOfWeek;ZLorg/kalends/calendars/Calendar;Z)V"⟩ : MethodName) prog_44_method_3_code 10 none room3 #[(.ref a1), (.int x1), (.int x2), (.int x3), (.int x4), (.ref x5), .null, (.int x7), (.ref x8), (.int x9)] h0 (fun v h L => v = none ∧ Fr n0 L ∧ Keep h0 h [a1] ∧ Exa Z h a1 "org/kalends/expressions/WrittenDate" ∧ Fld Z h a1 "org/kalends/expressions/WrittenDate" "year" "I" (.int x1) ∧ Fld Z h a1 "org/kalends/expressions/WrittenDate" "month" "I" (.int x2) ∧ Fld Z h a1 "org/kalends/expressions/WrittenDate" "day" "I" (.int x3) ∧ Fld Z h a1 "org/kalends/expressions/WrittenDate" "length" "I" (.int x4) ∧ Fld Z h a1 "org/kalends/expressions/WrittenDate" "order" "Lorg/kalends/expressions/WrittenDate$Order;" (.ref x5) ∧ Fld Z h a1 "org/kalends/expressions/WrittenDate" "weekday" "Ljava/time/DayOfWeek;" .null ∧ Fld Z h a1 "org/kalends/expressions/WrittenDate" "mayBeDecade" "Z" (.int x7) ∧ Fld Z h a1 "org/kalends/expressions/WrittenDate" "calendar" "Lorg/kalends/calendars/Calendar;" (.ref x8) ∧ Fld Z h a1 "org/kalends/expressions/WrittenDate" "namesCalendar" "Z" (.int x9)) := by
  refine oCon.of (plainFor_of_name pn_3) ?_
  intro p e s m below meth c s₁ hx hby hml hown hnm hret hlk hZ X0 e0
  rw [ef3 m a1 x1 x2 x3 x4 x5 x7 x8 x9]
  have N0 := Fr.nil n0
  have K0 := Keep.refl h0 [a1]
  refine o_aloadN (pc' := 1) X0 hx (hb hby d3_0) rfl rfl rfl ?_
  obtain ⟨r1, T1, L1, X1, hq1, st1⟩ := o_callN X0 hx hZ hown rfl (hw _ (List.mem_of_getElem? (i := 22) rfl)) (hw _ (List.mem_of_getElem? (i := 23) rfl)) (hw _ (List.mem_of_getElem? (i := 25) rfl)) (hw _ (List.mem_of_getElem? (i := 26) rfl)) (by decide) (rm4 l Z a0 hw a1 h0 n0 Z0 ) e0 (pc' := 4) (Ls := #[.val (.ref a1), .val (.int x1), .val (.int x2), .val (.int x3), .val (.int x4), .val (.ref x5), .val .null, .val (.int x7), .val (.ref x8), .val (.int x9)]) (by rw [hml]; rfl) [] [] rfl pd0 rfl rfl 0 (Nat.le_of_eq rfl) (hb hby d3_1) rfl (by decide) (by decide) (by decide) (by decide)
  obtain ⟨rfl, rfl, Kc1⟩ := hq1
  refine oGo.step (f' := (mkF m 4 #[.val (.ref a1), .val (.int x1), .val (.int x2), .val (.int x3), .val (.int x4), .val (.ref x5), .val .null, .val (.int x7), .val (.ref x8), .val (.int x9)] [])) st1 ?_
  have e1 : T1.heap = h0 := Kc1
  have X1 := o_same X1 rfl rfl
  refine o_aloadN (pc' := 5) X1 hx (hb hby d3_4) rfl rfl rfl ?_
  refine o_iloadN (pc' := 6) X1 hx (hb hby d3_5) rfl rfl ?_
  obtain ⟨T2, h2_, X2, e2, W2, st2⟩ := putF X1 hx hZ hown (host := "") (Or.inl (hw _ (List.mem_of_getElem? (i := 30) rfl))) Via.refl e1 F_year E0 (Or.inr ⟨(hw _ (List.mem_of_getElem? (i := 31) rfl)), rfl, hnm⟩) (hw _ (List.mem_of_getElem? (i := 11) rfl)) (ty := .int) (by decide) rfl rfl (g := (mkF m 6 #[.val (.ref a1), .val (.int x1), .val (.int x2), .val (.int x3), .val (.int x4), .val (.ref x5), .val .null, .val (.int x7), .val (.ref x8), .val (.int x9)] [(.int x1), (.ref a1)])) rfl rfl (hb hby d3_6)
  refine oGo.step (f' := (mkF m 9 #[.val (.ref a1), .val (.int x1), .val (.int x2), .val (.int x3), .val (.int x4), .val (.ref x5), .val .null, .val (.int x7), .val (.ref x8), .val (.int x9)] [])) st2 ?_
  have N2 := Fr.snoc X2 N0 ga
  have F3 := E0.wr W2
  have F4 := F_year.same W2
  have F5 := F_month.other W2 (Or.inr (slot_ne (Or.inr (hw _ (List.mem_of_getElem? (i := 33) rfl))) (Or.inr (hw _ (List.mem_of_getElem? (i := 31) rfl))) (by decide) (t := .int) (t' := .int) (by decide) (by decide)))
  have F6 := F_day.other W2 (Or.inr (slot_ne (Or.inr (hw _ (List.mem_of_getElem? (i := 35) rfl))) (Or.inr (hw _ (List.mem_of_getElem? (i := 31) rfl))) (by decide) (t := .int) (t' := .int) (by decide) (by decide)))
  have F7 := F_length.other W2 (Or.inr (slot_ne (Or.inr (hw _ (List.mem_of_getElem? (i := 37) rfl))) (Or.inr (hw _ (List.mem_of_getElem? (i := 31) rfl))) (by decide) (t := .int) (t' := .int) (by decide) (by decide)))
  have F8 := F_order.other W2 (Or.inr (slot_ne (Or.inr (hw _ (List.mem_of_getElem? (i := 39) rfl))) (Or.inr (hw _ (List.mem_of_getElem? (i := 31) rfl))) (by decide) (t := (.object "org/kalends/expressions/WrittenDate$Order")) (t' := .int) (by decide) (by decide)))
  have F9 := F_weekday.other W2 (Or.inr (slot_ne (Or.inr (hw _ (List.mem_of_getElem? (i := 41) rfl))) (Or.inr (hw _ (List.mem_of_getElem? (i := 31) rfl))) (by decide) (t := (.object "java/time/DayOfWeek")) (t' := .int) (by decide) (by decide)))
  have F10 := F_mayBeDecade.other W2 (Or.inr (slot_ne (Or.inr (hw _ (List.mem_of_getElem? (i := 43) rfl))) (Or.inr (hw _ (List.mem_of_getElem? (i := 31) rfl))) (by decide) (t := .boolean) (t' := .int) (by decide) (by decide)))
  have F11 := F_calendar.other W2 (Or.inr (slot_ne (Or.inr (hw _ (List.mem_of_getElem? (i := 45) rfl))) (Or.inr (hw _ (List.mem_of_getElem? (i := 31) rfl))) (by decide) (t := (.object "org/kalends/calendars/Calendar")) (t' := .int) (by decide) (by decide)))
  have F12 := F_namesCalendar.other W2 (Or.inr (slot_ne (Or.inr (hw _ (List.mem_of_getElem? (i := 47) rfl))) (Or.inr (hw _ (List.mem_of_getElem? (i := 31) rfl))) (by decide) (t := .boolean) (t' := .int) (by decide) (by decide)))
  have K13 := K0.wr W2 (Or.inl (List.mem_of_getElem? (i := 0) rfl))
  refine o_aloadN (pc' := 10) X2 hx (hb hby d3_9) rfl rfl rfl ?_
  refine o_iloadN (pc' := 11) X2 hx (hb hby d3_10) rfl rfl ?_
  obtain ⟨T14, h14_, X14, e14, W14, st14⟩ := putF X2 hx hZ hown (host := "") (Or.inl (hw _ (List.mem_of_getElem? (i := 32) rfl))) Via.refl e2 F5 F3 (Or.inr ⟨(hw _ (List.mem_of_getElem? (i := 33) rfl)), rfl, hnm⟩) (hw _ (List.mem_of_getElem? (i := 11) rfl)) (ty := .int) (by decide) rfl rfl (g := (mkF m 11 #[.val (.ref a1), .val (.int x1), .val (.int x2), .val (.int x3), .val (.int x4), .val (.ref x5), .val .null, .val (.int x7), .val (.ref x8), .val (.int x9)] [(.int x2), (.ref a1)])) rfl rfl (hb hby d3_11)
  refine oGo.step (f' := (mkF m 14 #[.val (.ref a1), .val (.int x1), .val (.int x2), .val (.int x3), .val (.int x4), .val (.ref x5), .val .null, .val (.int x7), .val (.ref x8), .val (.int x9)] [])) st14 ?_
  have N14 := Fr.snoc X14 N2 ga
  have F15 := F3.wr W14
  have F16 := F4.other W14 (Or.inr (slot_ne (Or.inr (hw _ (List.mem_of_getElem? (i := 31) rfl))) (Or.inr (hw _ (List.mem_of_getElem? (i := 33) rfl))) (by decide) (t := .int) (t' := .int) (by decide) (by decide)))
  have F17 := F5.same W14
  have F18 := F6.other W14 (Or.inr (slot_ne (Or.inr (hw _ (List.mem_of_getElem? (i := 35) rfl))) (Or.inr (hw _ (List.mem_of_getElem? (i := 33) rfl))) (by decide) (t := .int) (t' := .int) (by decide) (by decide)))
  have F19 := F7.other W14 (Or.inr (slot_ne (Or.inr (hw _ (List.mem_of_getElem? (i := 37) rfl))) (Or.inr (hw _ (List.mem_of_getElem? (i := 33) rfl))) (by decide) (t := .int) (t' := .int) (by decide) (by decide)))
  have F20 := F8.other W14 (Or.inr (slot_ne (Or.inr (hw _ (List.mem_of_getElem? (i := 39) rfl))) (Or.inr (hw _ (List.mem_of_getElem? (i := 33) rfl))) (by decide) (t := (.object "org/kalends/expressions/WrittenDate$Order")) (t' := .int) (by decide) (by decide)))
  have F21 := F9.other W14 (Or.inr (slot_ne (Or.inr (hw _ (List.mem_of_getElem? (i := 41) rfl))) (Or.inr (hw _ (List.mem_of_getElem? (i := 33) rfl))) (by decide) (t := (.object "java/time/DayOfWeek")) (t' := .int) (by decide) (by decide)))
  have F22 := F10.other W14 (Or.inr (slot_ne (Or.inr (hw _ (List.mem_of_getElem? (i := 43) rfl))) (Or.inr (hw _ (List.mem_of_getElem? (i := 33) rfl))) (by decide) (t := .boolean) (t' := .int) (by decide) (by decide)))
  have F23 := F11.other W14 (Or.inr (slot_ne (Or.inr (hw _ (List.mem_of_getElem? (i := 45) rfl))) (Or.inr (hw _ (List.mem_of_getElem? (i := 33) rfl))) (by decide) (t := (.object "org/kalends/calendars/Calendar")) (t' := .int) (by decide) (by decide)))
  have F24 := F12.other W14 (Or.inr (slot_ne (Or.inr (hw _ (List.mem_of_getElem? (i := 47) rfl))) (Or.inr (hw _ (List.mem_of_getElem? (i := 33) rfl))) (by decide) (t := .boolean) (t' := .int) (by decide) (by decide)))
  have K25 := K13.wr W14 (Or.inl (List.mem_of_getElem? (i := 0) rfl))
  refine o_aloadN (pc' := 15) X14 hx (hb hby d3_14) rfl rfl rfl ?_
  refine o_iloadN (pc' := 16) X14 hx (hb hby d3_15) rfl rfl ?_
  obtain ⟨T26, h26_, X26, e26, W26, st26⟩ := putF X14 hx hZ hown (host := "") (Or.inl (hw _ (List.mem_of_getElem? (i := 34) rfl))) Via.refl e14 F18 F15 (Or.inr ⟨(hw _ (List.mem_of_getElem? (i := 35) rfl)), rfl, hnm⟩) (hw _ (List.mem_of_getElem? (i := 11) rfl)) (ty := .int) (by decide) rfl rfl (g := (mkF m 16 #[.val (.ref a1), .val (.int x1), .val (.int x2), .val (.int x3), .val (.int x4), .val (.ref x5), .val .null, .val (.int x7), .val (.ref x8), .val (.int x9)] [(.int x3), (.ref a1)])) rfl rfl (hb hby d3_16)
  refine oGo.step (f' := (mkF m 19 #[.val (.ref a1), .val (.int x1), .val (.int x2), .val (.int x3), .val (.int x4), .val (.ref x5), .val .null, .val (.int x7), .val (.ref x8), .val (.int x9)] [])) st26 ?_
  have N26 := Fr.snoc X26 N14 ga
  have F27 := F15.wr W26
  have F28 := F16.other W26 (Or.inr (slot_ne (Or.inr (hw _ (List.mem_of_getElem? (i := 31) rfl))) (Or.inr (hw _ (List.mem_of_getElem? (i := 35) rfl))) (by decide) (t := .int) (t' := .int) (by decide) (by decide)))
  have F29 := F17.other W26 (Or.inr (slot_ne (Or.inr (hw _ (List.mem_of_getElem? (i := 33) rfl))) (Or.inr (hw _ (List.mem_of_getElem? (i := 35) rfl))) (by decide) (t := .int) (t' := .int) (by decide) (by decide)))
  have F30 := F18.same W26
  have F31 := F19.other W26 (Or.inr (slot_ne (Or.inr (hw _ (List.mem_of_getElem? (i := 37) rfl))) (Or.inr (hw _ (List.mem_of_getElem? (i := 35) rfl))) (by decide) (t := .int) (t' := .int) (by decide) (by decide)))
  have F32 := F20.other W26 (Or.inr (slot_ne (Or.inr (hw _ (List.mem_of_getElem? (i := 39) rfl))) (Or.inr (hw _ (List.mem_of_getElem? (i := 35) rfl))) (by decide) (t := (.object "org/kalends/expressions/WrittenDate$Order")) (t' := .int) (by decide) (by decide)))
  have F33 := F21.other W26 (Or.inr (slot_ne (Or.inr (hw _ (List.mem_of_getElem? (i := 41) rfl))) (Or.inr (hw _ (List.mem_of_getElem? (i := 35) rfl))) (by decide) (t := (.object "java/time/DayOfWeek")) (t' := .int) (by decide) (by decide)))
  have F34 := F22.other W26 (Or.inr (slot_ne (Or.inr (hw _ (List.mem_of_getElem? (i := 43) rfl))) (Or.inr (hw _ (List.mem_of_getElem? (i := 35) rfl))) (by decide) (t := .boolean) (t' := .int) (by decide) (by decide)))
  have F35 := F23.other W26 (Or.inr (slot_ne (Or.inr (hw _ (List.mem_of_getElem? (i := 45) rfl))) (Or.inr (hw _ (List.mem_of_getElem? (i := 35) rfl))) (by decide) (t := (.object "org/kalends/calendars/Calendar")) (t' := .int) (by decide) (by decide)))
  have F36 := F24.other W26 (Or.inr (slot_ne (Or.inr (hw _ (List.mem_of_getElem? (i := 47) rfl))) (Or.inr (hw _ (List.mem_of_getElem? (i := 35) rfl))) (by decide) (t := .boolean) (t' := .int) (by decide) (by decide)))
  have K37 := K25.wr W26 (Or.inl (List.mem_of_getElem? (i := 0) rfl))
  refine o_aloadN (pc' := 20) X26 hx (hb hby d3_19) rfl rfl rfl ?_
  refine o_iload (pc' := 22) X26 hx (hb hby d3_20) rfl rfl ?_
  obtain ⟨T38, h38_, X38, e38, W38, st38⟩ := putF X26 hx hZ hown (host := "") (Or.inl (hw _ (List.mem_of_getElem? (i := 36) rfl))) Via.refl e26 F31 F27 (Or.inr ⟨(hw _ (List.mem_of_getElem? (i := 37) rfl)), rfl, hnm⟩) (hw _ (List.mem_of_getElem? (i := 11) rfl)) (ty := .int) (by decide) rfl rfl (g := (mkF m 22 #[.val (.ref a1), .val (.int x1), .val (.int x2), .val (.int x3), .val (.int x4), .val (.ref x5), .val .null, .val (.int x7), .val (.ref x8), .val (.int x9)] [(.int x4), (.ref a1)])) rfl rfl (hb hby d3_22)
  refine oGo.step (f' := (mkF m 25 #[.val (.ref a1), .val (.int x1), .val (.int x2), .val (.int x3), .val (.int x4), .val (.ref x5), .val .null, .val (.int x7), .val (.ref x8), .val (.int x9)] [])) st38 ?_
  have N38 := Fr.snoc X38 N26 ga
  have F39 := F27.wr W38
  have F40 := F28.other W38 (Or.inr (slot_ne (Or.inr (hw _ (List.mem_of_getElem? (i := 31) rfl))) (Or.inr (hw _ (List.mem_of_getElem? (i := 37) rfl))) (by decide) (t := .int) (t' := .int) (by decide) (by decide)))
  have F41 := F29.other W38 (Or.inr (slot_ne (Or.inr (hw _ (List.mem_of_getElem? (i := 33) rfl))) (Or.inr (hw _ (List.mem_of_getElem? (i := 37) rfl))) (by decide) (t := .int) (t' := .int) (by decide) (by decide)))
  have F42 := F30.other W38 (Or.inr (slot_ne (Or.inr (hw _ (List.mem_of_getElem? (i := 35) rfl))) (Or.inr (hw _ (List.mem_of_getElem? (i := 37) rfl))) (by decide) (t := .int) (t' := .int) (by decide) (by decide)))
  have F43 := F31.same W38
  have F44 := F32.other W38 (Or.inr (slot_ne (Or.inr (hw _ (List.mem_of_getElem? (i := 39) rfl))) (Or.inr (hw _ (List.mem_of_getElem? (i := 37) rfl))) (by decide) (t := (.object "org/kalends/expressions/WrittenDate$Order")) (t' := .int) (by decide) (by decide)))
  have F45 := F33.other W38 (Or.inr (slot_ne (Or.inr (hw _ (List.mem_of_getElem? (i := 41) rfl))) (Or.inr (hw _ (List.mem_of_getElem? (i := 37) rfl))) (by decide) (t := (.object "java/time/DayOfWeek")) (t' := .int) (by decide) (by decide)))
  have F46 := F34.other W38 (Or.inr (slot_ne (Or.inr (hw _ (List.mem_of_getElem? (i := 43) rfl))) (Or.inr (hw _ (List.mem_of_getElem? (i := 37) rfl))) (by decide) (t := .boolean) (t' := .int) (by decide) (by decide)))
  have F47 := F35.other W38 (Or.inr (slot_ne (Or.inr (hw _ (List.mem_of_getElem? (i := 45) rfl))) (Or.inr (hw _ (List.mem_of_getElem? (i := 37) rfl))) (by decide) (t := (.object "org/kalends/calendars/Calendar")) (t' := .int) (by decide) (by decide)))
  have F48 := F36.other W38 (Or.inr (slot_ne (Or.inr (hw _ (List.mem_of_getElem? (i := 47) rfl))) (Or.inr (hw _ (List.mem_of_getElem? (i := 37) rfl))) (by decide) (t := .boolean) (t' := .int) (by decide) (by decide)))
  have K49 := K37.wr W38 (Or.inl (List.mem_of_getElem? (i := 0) rfl))
  refine o_aloadN (pc' := 26) X38 hx (hb hby d3_25) rfl rfl rfl ?_
  refine o_aload (pc' := 28) X38 hx (hb hby d3_26) rfl rfl rfl ?_
  obtain ⟨T50, h50_, X50, e50, W50, st50⟩ := putF X38 hx hZ hown (host := "") (Or.inl (hw _ (List.mem_of_getElem? (i := 38) rfl))) Via.refl e38 F44 F39 (Or.inr ⟨(hw _ (List.mem_of_getElem? (i := 39) rfl)), rfl, hnm⟩) (hw _ (List.mem_of_getElem? (i := 11) rfl)) (ty := (.object "org/kalends/expressions/WrittenDate$Order")) (by decide) rfl rfl (g := (mkF m 28 #[.val (.ref a1), .val (.int x1), .val (.int x2), .val (.int x3), .val (.int x4), .val (.ref x5), .val .null, .val (.int x7), .val (.ref x8), .val (.int x9)] [(.ref x5), (.ref a1)])) rfl rfl (hb hby d3_28)
  refine oGo.step (f' := (mkF m 31 #[.val (.ref a1), .val (.int x1), .val (.int x2), .val (.int x3), .val (.int x4), .val (.ref x5), .val .null, .val (.int x7), .val (.ref x8), .val (.int x9)] [])) st50 ?_
  have N50 := Fr.snoc X50 N38 ga
  have F51 := F39.wr W50
  have F52 := F40.other W50 (Or.inr (slot_ne (Or.inr (hw _ (List.mem_of_getElem? (i := 31) rfl))) (Or.inr (hw _ (List.mem_of_getElem? (i := 39) rfl))) (by decide) (t := .int) (t' := (.object "org/kalends/expressions/WrittenDate$Order")) (by decide) (by decide)))
  have F53 := F41.other W50 (Or.inr (slot_ne (Or.inr (hw _ (List.mem_of_getElem? (i := 33) rfl))) (Or.inr (hw _ (List.mem_of_getElem? (i := 39) rfl))) (by decide) (t := .int) (t' := (.object "org/kalends/expressions/WrittenDate$Order")) (by decide) (by decide)))
  have F54 := F42.other W50 (Or.inr (slot_ne (Or.inr (hw _ (List.mem_of_getElem? (i := 35) rfl))) (Or.inr (hw _ (List.mem_of_getElem? (i := 39) rfl))) (by decide) (t := .int) (t' := (.object "org/kalends/expressions/WrittenDate$Order")) (by decide) (by decide)))
  have F55 := F43.other W50 (Or.inr (slot_ne (Or.inr (hw _ (List.mem_of_getElem? (i := 37) rfl))) (Or.inr (hw _ (List.mem_of_getElem? (i := 39) rfl))) (by decide) (t := .int) (t' := (.object "org/kalends/expressions/WrittenDate$Order")) (by decide) (by decide)))
  have F56 := F44.same W50
  have F57 := F45.other W50 (Or.inr (slot_ne (Or.inr (hw _ (List.mem_of_getElem? (i := 41) rfl))) (Or.inr (hw _ (List.mem_of_getElem? (i := 39) rfl))) (by decide) (t := (.object "java/time/DayOfWeek")) (t' := (.object "org/kalends/expressions/WrittenDate$Order")) (by decide) (by decide)))
  have F58 := F46.other W50 (Or.inr (slot_ne (Or.inr (hw _ (List.mem_of_getElem? (i := 43) rfl))) (Or.inr (hw _ (List.mem_of_getElem? (i := 39) rfl))) (by decide) (t := .boolean) (t' := (.object "org/kalends/expressions/WrittenDate$Order")) (by decide) (by decide)))
  have F59 := F47.other W50 (Or.inr (slot_ne (Or.inr (hw _ (List.mem_of_getElem? (i := 45) rfl))) (Or.inr (hw _ (List.mem_of_getElem? (i := 39) rfl))) (by decide) (t := (.object "org/kalends/calendars/Calendar")) (t' := (.object "org/kalends/expressions/WrittenDate$Order")) (by decide) (by decide)))
  have F60 := F48.other W50 (Or.inr (slot_ne (Or.inr (hw _ (List.mem_of_getElem? (i := 47) rfl))) (Or.inr (hw _ (List.mem_of_getElem? (i := 39) rfl))) (by decide) (t := .boolean) (t' := (.object "org/kalends/expressions/WrittenDate$Order")) (by decide) (by decide)))
  have K61 := K49.wr W50 (Or.inl (List.mem_of_getElem? (i := 0) rfl))
  refine o_aloadN (pc' := 32) X50 hx (hb hby d3_31) rfl rfl rfl ?_
  refine o_aload (pc' := 34) X50 hx (hb hby d3_32) rfl rfl rfl ?_
  obtain ⟨T62, h62_, X62, e62, W62, st62⟩ := putF X50 hx hZ hown (host := "") (Or.inl (hw _ (List.mem_of_getElem? (i := 40) rfl))) Via.refl e50 F57 F51 (Or.inr ⟨(hw _ (List.mem_of_getElem? (i := 41) rfl)), rfl, hnm⟩) (hw _ (List.mem_of_getElem? (i := 11) rfl)) (ty := (.object "java/time/DayOfWeek")) (by decide) rfl rfl (g := (mkF m 34 #[.val (.ref a1), .val (.int x1), .val (.int x2), .val (.int x3), .val (.int x4), .val (.ref x5), .val .null, .val (.int x7), .val (.ref x8), .val (.int x9)] [.null, (.ref a1)])) rfl rfl (hb hby d3_34)
  refine oGo.step (f' := (mkF m 37 #[.val (.ref a1), .val (.int x1), .val (.int x2), .val (.int x3), .val (.int x4), .val (.ref x5), .val .null, .val (.int x7), .val (.ref x8), .val (.int x9)] [])) st62 ?_
  have N62 := Fr.snoc X62 N50 ga
  have F63 := F51.wr W62
  have F64 := F52.other W62 (Or.inr (slot_ne (Or.inr (hw _ (List.mem_of_getElem? (i := 31) rfl))) (Or.inr (hw _ (List.mem_of_getElem? (i := 41) rfl))) (by decide) (t := .int) (t' := (.object "java/time/DayOfWeek")) (by decide) (by decide)))
  have F65 := F53.other W62 (Or.inr (slot_ne (Or.inr (hw _ (List.mem_of_getElem? (i := 33) rfl))) (Or.inr (hw _ (List.mem_of_getElem? (i := 41) rfl))) (by decide) (t := .int) (t' := (.object "java/time/DayOfWeek")) (by decide) (by decide)))
  have F66 := F54.other W62 (Or.inr (slot_ne (Or.inr (hw _ (List.mem_of_getElem? (i := 35) rfl))) (Or.inr (hw _ (List.mem_of_getElem? (i := 41) rfl))) (by decide) (t := .int) (t' := (.object "java/time/DayOfWeek")) (by decide) (by decide)))
  have F67 := F55.other W62 (Or.inr (slot_ne (Or.inr (hw _ (List.mem_of_getElem? (i := 37) rfl))) (Or.inr (hw _ (List.mem_of_getElem? (i := 41) rfl))) (by decide) (t := .int) (t' := (.object "java/time/DayOfWeek")) (by decide) (by decide)))
  have F68 := F56.other W62 (Or.inr (slot_ne (Or.inr (hw _ (List.mem_of_getElem? (i := 39) rfl))) (Or.inr (hw _ (List.mem_of_getElem? (i := 41) rfl))) (by decide) (t := (.object "org/kalends/expressions/WrittenDate$Order")) (t' := (.object "java/time/DayOfWeek")) (by decide) (by decide)))
  have F69 := F57.same W62
  have F70 := F58.other W62 (Or.inr (slot_ne (Or.inr (hw _ (List.mem_of_getElem? (i := 43) rfl))) (Or.inr (hw _ (List.mem_of_getElem? (i := 41) rfl))) (by decide) (t := .boolean) (t' := (.object "java/time/DayOfWeek")) (by decide) (by decide)))
  have F71 := F59.other W62 (Or.inr (slot_ne (Or.inr (hw _ (List.mem_of_getElem? (i := 45) rfl))) (Or.inr (hw _ (List.mem_of_getElem? (i := 41) rfl))) (by decide) (t := (.object "org/kalends/calendars/Calendar")) (t' := (.object "java/time/DayOfWeek")) (by decide) (by decide)))
  have F72 := F60.other W62 (Or.inr (slot_ne (Or.inr (hw _ (List.mem_of_getElem? (i := 47) rfl))) (Or.inr (hw _ (List.mem_of_getElem? (i := 41) rfl))) (by decide) (t := .boolean) (t' := (.object "java/time/DayOfWeek")) (by decide) (by decide)))
  have K73 := K61.wr W62 (Or.inl (List.mem_of_getElem? (i := 0) rfl))
  refine o_aloadN (pc' := 38) X62 hx (hb hby d3_37) rfl rfl rfl ?_
  refine o_iload (pc' := 40) X62 hx (hb hby d3_38) rfl rfl ?_
  obtain ⟨T74, h74_, X74, e74, W74, st74⟩ := putF X62 hx hZ hown (host := "") (Or.inl (hw _ (List.mem_of_getElem? (i := 42) rfl))) Via.refl e62 F70 F63 (Or.inr ⟨(hw _ (List.mem_of_getElem? (i := 43) rfl)), rfl, hnm⟩) (hw _ (List.mem_of_getElem? (i := 11) rfl)) (ty := .boolean) (by decide) (o_nb z_x7) (o_fb z_x7) (g := (mkF m 40 #[.val (.ref a1), .val (.int x1), .val (.int x2), .val (.int x3), .val (.int x4), .val (.ref x5), .val .null, .val (.int x7), .val (.ref x8), .val (.int x9)] [(.int x7), (.ref a1)])) rfl rfl (hb hby d3_40)
  refine oGo.step (f' := (mkF m 43 #[.val (.ref a1), .val (.int x1), .val (.int x2), .val (.int x3), .val (.int x4), .val (.ref x5), .val .null, .val (.int x7), .val (.ref x8), .val (.int x9)] [])) st74 ?_
  have N74 := Fr.snoc X74 N62 ga
  have F75 := F63.wr W74
  have F76 := F64.other W74 (Or.inr (slot_ne (Or.inr (hw _ (List.mem_of_getElem? (i := 31) rfl))) (Or.inr (hw _ (List.mem_of_getElem? (i := 43) rfl))) (by decide) (t := .int) (t' := .boolean) (by decide) (by decide)))
  have F77 := F65.other W74 (Or.inr (slot_ne (Or.inr (hw _ (List.mem_of_getElem? (i := 33) rfl))) (Or.inr (hw _ (List.mem_of_getElem? (i := 43) rfl))) (by decide) (t := .int) (t' := .boolean) (by decide) (by decide)))
  have F78 := F66.other W74 (Or.inr (slot_ne (Or.inr (hw _ (List.mem_of_getElem? (i := 35) rfl))) (Or.inr (hw _ (List.mem_of_getElem? (i := 43) rfl))) (by decide) (t := .int) (t' := .boolean) (by decide) (by decide)))
  have F79 := F67.other W74 (Or.inr (slot_ne (Or.inr (hw _ (List.mem_of_getElem? (i := 37) rfl))) (Or.inr (hw _ (List.mem_of_getElem? (i := 43) rfl))) (by decide) (t := .int) (t' := .boolean) (by decide) (by decide)))
  have F80 := F68.other W74 (Or.inr (slot_ne (Or.inr (hw _ (List.mem_of_getElem? (i := 39) rfl))) (Or.inr (hw _ (List.mem_of_getElem? (i := 43) rfl))) (by decide) (t := (.object "org/kalends/expressions/WrittenDate$Order")) (t' := .boolean) (by decide) (by decide)))
  have F81 := F69.other W74 (Or.inr (slot_ne (Or.inr (hw _ (List.mem_of_getElem? (i := 41) rfl))) (Or.inr (hw _ (List.mem_of_getElem? (i := 43) rfl))) (by decide) (t := (.object "java/time/DayOfWeek")) (t' := .boolean) (by decide) (by decide)))
  have F82 := F70.same W74
  have F83 := F71.other W74 (Or.inr (slot_ne (Or.inr (hw _ (List.mem_of_getElem? (i := 45) rfl))) (Or.inr (hw _ (List.mem_of_getElem? (i := 43) rfl))) (by decide) (t := (.object "org/kalends/calendars/Calendar")) (t' := .boolean) (by decide) (by decide)))
  have F84 := F72.other W74 (Or.inr (slot_ne (Or.inr (hw _ (List.mem_of_getElem? (i := 47) rfl))) (Or.inr (hw _ (List.mem_of_getElem? (i := 43) rfl))) (by decide) (t := .boolean) (t' := .boolean) (by decide) (by decide)))
  have K85 := K73.wr W74 (Or.inl (List.mem_of_getElem? (i := 0) rfl))
  refine o_aloadN (pc' := 44) X74 hx (hb hby d3_43) rfl rfl rfl ?_
  refine o_aload (pc' := 46) X74 hx (hb hby d3_44) rfl rfl rfl ?_
  obtain ⟨T86, h86_, X86, e86, W86, st86⟩ := putF X74 hx hZ hown (host := "") (Or.inl (hw _ (List.mem_of_getElem? (i := 44) rfl))) Via.refl e74 F83 F75 (Or.inr ⟨(hw _ (List.mem_of_getElem? (i := 45) rfl)), rfl, hnm⟩) (hw _ (List.mem_of_getElem? (i := 11) rfl)) (ty := (.object "org/kalends/calendars/Calendar")) (by decide) rfl rfl (g := (mkF m 46 #[.val (.ref a1), .val (.int x1), .val (.int x2), .val (.int x3), .val (.int x4), .val (.ref x5), .val .null, .val (.int x7), .val (.ref x8), .val (.int x9)] [(.ref x8), (.ref a1)])) rfl rfl (hb hby d3_46)
  refine oGo.step (f' := (mkF m 49 #[.val (.ref a1), .val (.int x1), .val (.int x2), .val (.int x3), .val (.int x4), .val (.ref x5), .val .null, .val (.int x7), .val (.ref x8), .val (.int x9)] [])) st86 ?_
  have N86 := Fr.snoc X86 N74 ga
  have F87 := F75.wr W86
  have F88 := F76.other W86 (Or.inr (slot_ne (Or.inr (hw _ (List.mem_of_getElem? (i := 31) rfl))) (Or.inr (hw _ (List.mem_of_getElem? (i := 45) rfl))) (by decide) (t := .int) (t' := (.object "org/kalends/calendars/Calendar")) (by decide) (by decide)))
  have F89 := F77.other W86 (Or.inr (slot_ne (Or.inr (hw _ (List.mem_of_getElem? (i := 33) rfl))) (Or.inr (hw _ (List.mem_of_getElem? (i := 45) rfl))) (by decide) (t := .int) (t' := (.object "org/kalends/calendars/Calendar")) (by decide) (by decide)))
  have F90 := F78.other W86 (Or.inr (slot_ne (Or.inr (hw _ (List.mem_of_getElem? (i := 35) rfl))) (Or.inr (hw _ (List.mem_of_getElem? (i := 45) rfl))) (by decide) (t := .int) (t' := (.object "org/kalends/calendars/Calendar")) (by decide) (by decide)))
  have F91 := F79.other W86 (Or.inr (slot_ne (Or.inr (hw _ (List.mem_of_getElem? (i := 37) rfl))) (Or.inr (hw _ (List.mem_of_getElem? (i := 45) rfl))) (by decide) (t := .int) (t' := (.object "org/kalends/calendars/Calendar")) (by decide) (by decide)))
  have F92 := F80.other W86 (Or.inr (slot_ne (Or.inr (hw _ (List.mem_of_getElem? (i := 39) rfl))) (Or.inr (hw _ (List.mem_of_getElem? (i := 45) rfl))) (by decide) (t := (.object "org/kalends/expressions/WrittenDate$Order")) (t' := (.object "org/kalends/calendars/Calendar")) (by decide) (by decide)))
  have F93 := F81.other W86 (Or.inr (slot_ne (Or.inr (hw _ (List.mem_of_getElem? (i := 41) rfl))) (Or.inr (hw _ (List.mem_of_getElem? (i := 45) rfl))) (by decide) (t := (.object "java/time/DayOfWeek")) (t' := (.object "org/kalends/calendars/Calendar")) (by decide) (by decide)))
  have F94 := F82.other W86 (Or.inr (slot_ne (Or.inr (hw _ (List.mem_of_getElem? (i := 43) rfl))) (Or.inr (hw _ (List.mem_of_getElem? (i := 45) rfl))) (by decide) (t := .boolean) (t' := (.object "org/kalends/calendars/Calendar")) (by decide) (by decide)))
  have F95 := F83.same W86
  have F96 := F84.other W86 (Or.inr (slot_ne (Or.inr (hw _ (List.mem_of_getElem? (i := 47) rfl))) (Or.inr (hw _ (List.mem_of_getElem? (i := 45) rfl))) (by decide) (t := .boolean) (t' := (.object "org/kalends/calendars/Calendar")) (by decide) (by decide)))
  have K97 := K85.wr W86 (Or.inl (List.mem_of_getElem? (i := 0) rfl))
  refine o_aloadN (pc' := 50) X86 hx (hb hby d3_49) rfl rfl rfl ?_
  refine o_iload (pc' := 52) X86 hx (hb hby d3_50) rfl rfl ?_
  obtain ⟨T98, h98_, X98, e98, W98, st98⟩ := putF X86 hx hZ hown (host := "") (Or.inl (hw _ (List.mem_of_getElem? (i := 46) rfl))) Via.refl e86 F96 F87 (Or.inr ⟨(hw _ (List.mem_of_getElem? (i := 47) rfl)), rfl, hnm⟩) (hw _ (List.mem_of_getElem? (i := 11) rfl)) (ty := .boolean) (by decide) (o_nb z_x9) (o_fb z_x9) (g := (mkF m 52 #[.val (.ref a1), .val (.int x1), .val (.int x2), .val (.int x3), .val (.int x4), .val (.ref x5), .val .null, .val (.int x7), .val (.ref x8), .val (.int x9)] [(.int x9), (.ref a1)])) rfl rfl (hb hby d3_52)
  refine oGo.step (f' := (mkF m 55 #[.val (.ref a1), .val (.int x1), .val (.int x2), .val (.int x3), .val (.int x4), .val (.ref x5), .val .null, .val (.int x7), .val (.ref x8), .val (.int x9)] [])) st98 ?_
  have N98 := Fr.snoc X98 N86 ga
  have F99 := F87.wr W98
  have F100 := F88.other W98 (Or.inr (slot_ne (Or.inr (hw _ (List.mem_of_getElem? (i := 31) rfl))) (Or.inr (hw _ (List.mem_of_getElem? (i := 47) rfl))) (by decide) (t := .int) (t' := .boolean) (by decide) (by decide)))
  have F101 := F89.other W98 (Or.inr (slot_ne (Or.inr (hw _ (List.mem_of_getElem? (i := 33) rfl))) (Or.inr (hw _ (List.mem_of_getElem? (i := 47) rfl))) (by decide) (t := .int) (t' := .boolean) (by decide) (by decide)))
  have F102 := F90.other W98 (Or.inr (slot_ne (Or.inr (hw _ (List.mem_of_getElem? (i := 35) rfl))) (Or.inr (hw _ (List.mem_of_getElem? (i := 47) rfl))) (by decide) (t := .int) (t' := .boolean) (by decide) (by decide)))
  have F103 := F91.other W98 (Or.inr (slot_ne (Or.inr (hw _ (List.mem_of_getElem? (i := 37) rfl))) (Or.inr (hw _ (List.mem_of_getElem? (i := 47) rfl))) (by decide) (t := .int) (t' := .boolean) (by decide) (by decide)))
  have F104 := F92.other W98 (Or.inr (slot_ne (Or.inr (hw _ (List.mem_of_getElem? (i := 39) rfl))) (Or.inr (hw _ (List.mem_of_getElem? (i := 47) rfl))) (by decide) (t := (.object "org/kalends/expressions/WrittenDate$Order")) (t' := .boolean) (by decide) (by decide)))
  have F105 := F93.other W98 (Or.inr (slot_ne (Or.inr (hw _ (List.mem_of_getElem? (i := 41) rfl))) (Or.inr (hw _ (List.mem_of_getElem? (i := 47) rfl))) (by decide) (t := (.object "java/time/DayOfWeek")) (t' := .boolean) (by decide) (by decide)))
  have F106 := F94.other W98 (Or.inr (slot_ne (Or.inr (hw _ (List.mem_of_getElem? (i := 43) rfl))) (Or.inr (hw _ (List.mem_of_getElem? (i := 47) rfl))) (by decide) (t := .boolean) (t' := .boolean) (by decide) (by decide)))
  have F107 := F95.other W98 (Or.inr (slot_ne (Or.inr (hw _ (List.mem_of_getElem? (i := 45) rfl))) (Or.inr (hw _ (List.mem_of_getElem? (i := 47) rfl))) (by decide) (t := (.object "org/kalends/calendars/Calendar")) (t' := .boolean) (by decide) (by decide)))
  have F108 := F96.same W98
  have K109 := K97.wr W98 (Or.inl (List.mem_of_getElem? (i := 0) rfl))
  refine o_retV X98 hx hret hlk (hb hby d3_55) (by decide) (by decide) ?_
  rw [e98]
  exact ⟨rfl, N98, K109, F99, F100, F101, F102, F103, F104, F105, F106, F107, F108⟩
theorem d7_0 : decode prog_44_method_2_code 0 = .ok (.aload_n 0, 1) := by decide +kernel
theorem d7_1 : decode prog_44_method_2_code 1 = .ok (.iload_n 1, 1) := by decide +kernel
theorem d7_2 : decode prog_44_method_2_code 2 = .ok (.iload_n 2, 1) := by decide +kernel
theorem d7_3 : decode prog_44_method_2_code 3 = .ok (.iload_n 3, 1) := by decide +kernel
theorem d7_4 : decode prog_44_method_2_code 4 = .ok (.iconst 1, 1) := by decide +kernel
theorem d7_5 : decode prog_44_method_2_code 5 = .ok (.aload 4, 2) := by decide +kernel
theorem d7_7 : decode prog_44_method_2_code 7 = .ok (.aconst_null, 1) := by decide +kernel
theorem d7_8 : decode prog_44_method_2_code 8 = .ok (.iconst 0, 1) := by decide +kernel
theorem d7_9 : decode prog_44_method_2_code 9 = .ok (.aload 5, 2) := by decide +kernel
theorem d7_11 : decode prog_44_method_2_code 11 = .ok (.iconst 0, 1) := by decide +kernel
theorem d7_12 : decode prog_44_method_2_code 12 = .ok (.invokespecial 49, 3) := by decide +kernel
theorem d7_15 : decode prog_44_method_2_code 15 = .ok (.return_, 1) := by decide +kernel
theorem ef7 (m : MethodId) (a1 : Addr) (x1 : Int32) (x2 : Int32) (x3 : Int32) (x4 : Addr) (x5 : Addr) : entryFrame m #[(.ref a1), (.int x1), (.int x2), (.int x3), (.ref x4), (.ref x5)] 6 = mkF m 0 #[.val (.ref a1), .val (.int x1), .val (.int x2), .val (.int x3), .val (.ref x4), .val (.ref x5)] [] := by first | (simp [entryFrame, mkF, argsToLocals, Value.category]; done) | rfl
theorem pd1 : parseMethodDescriptor "(IIIILorg/kalends/expressions/WrittenDate$Order;Ljava/time/DayOfWeek;ZLorg/kalends/calendars/Calendar;Z)V" = some ⟨[.int, .int, .int, .int, (.object "org/kalends/expressions/WrittenDate$Order"), (.object "java/time/DayOfWeek"), .boolean, (.object "org/kalends/calendars/Calendar"), .boolean], none⟩ := by decide +kernel
def room7 : Room := { frames := 3, cells := 0, slots := 0, locals := 45 }
set_option maxRecDepth 65536 in
set_option maxHeartbeats 40000000 in
theorem rm7 (l : Launch) (Z : State) (a0 : Array Value) (hw : ∀ d ∈ tables_1, d.before a0 Z = true) (a1 : Addr) (x1 : Int32) (x2 : Int32) (x3 : Int32) (x4 : Addr) (x5 : Addr) (f_year : Int32) (f_month : Int32) (f_day : Int32) (f_length : Int32) (f_mayBeDecade : Int32) (f_namesCalendar : Int32) (h0 : Heap) (n0 : Nat) (Z0 : n0 ≤ h0.size) (E0 : Exa Z h0 a1 "org/kalends/expressions/WrittenDate") (F_year : Fld Z h0 a1 "org/kalends/expressions/WrittenDate" "year" "I" (.int f_year)) (F_month : Fld Z h0 a1 "org/kalends/expressions/WrittenDate" "month" "I" (.int f_month)) (F_day : Fld Z h0 a1 "org/kalends/expressions/WrittenDate" "day" "I" (.int f_day)) (F_length : Fld Z h0 a1 "org/kalends/expressions/WrittenDate" "length" "I" (.int f_length)) (F_order : Fld Z h0 a1 "org/kalends/expressions/WrittenDate" "order" "Lorg/kalends/expressions/WrittenDate$Order;" .null) (F_weekday : Fld Z h0 a1 "org/kalends/expressions/WrittenDate" "weekday" "Ljava/time/DayOfWeek;" .null) (F_mayBeDecade : Fld Z h0 a1 "org/kalends/expressions/WrittenDate" "mayBeDecade" "Z" (.int f_mayBeDecade)) (F_calendar : Fld Z h0 a1 "org/kalends/expressions/WrittenDate" "calendar" "Lorg/kalends/calendars/Calendar;" .null) (F_namesCalendar : Fld Z h0 a1 "org/kalends/expressions/WrittenDate" "namesCalendar" "Z" (.int f_namesCalendar)) (ga : n0 ≤ a1)  :
    oCon l Z (⟨"org/kalends/expressions/WrittenDate", "<init>", "(IIILorg/kalends/expressions/WrittenDate$Order;Lorg/kalends/calendars/Calendar;)V"⟩ : MethodName) prog_44_method_2_code 6 none room7 #[(.ref a1), (.int x1), (.int x2), (.int x3), (.ref x4), (.ref x5)] h0 (fun v h L => v = none ∧ Fr n0 L ∧ Keep h0 h [a1] ∧ Exa Z h a1 "org/kalends/expressions/WrittenDate" ∧ Fld Z h a1 "org/kalends/expressions/WrittenDate" "year" "I" (.int x1) ∧ Fld Z h a1 "org/kalends/expressions/WrittenDate" "month" "I" (.int x2) ∧ Fld Z h a1 "org/kalends/expressions/WrittenDate" "day" "I" (.int x3) ∧ Fld Z h a1 "org/kalends/expressions/WrittenDate" "length" "I" (.int (1 : Int32)) ∧ Fld Z h a1 "org/kalends/expressions/WrittenDate" "order" "Lorg/kalends/expressions/WrittenDate$Order;" (.ref x4) ∧ Fld Z h a1 "org/kalends/expressions/WrittenDate" "weekday" "Ljava/time/DayOfWeek;" .null ∧ Fld Z h a1 "org/kalends/expressions/WrittenDate" "mayBeDecade" "Z" (.int (0 : Int32)) ∧ Fld Z h a1 "org/kalends/expressions/WrittenDate" "calendar" "Lorg/kalends/calendars/Calendar;" (.ref x5) ∧ Fld Z h a1 "org/kalends/expressions/WrittenDate" "namesCalendar" "Z" (.int (0 : Int32))) := by
  refine oCon.of (plainFor_of_name pn_3) ?_
  intro p e s m below meth c s₁ hx hby hml hown hnm hret hlk hZ X0 e0
  rw [ef7 m a1 x1 x2 x3 x4 x5]
  have N0 := Fr.nil n0
  have K0 := Keep.refl h0 [a1]
  refine o_aloadN (pc' := 1) X0 hx (hb hby d7_0) rfl rfl rfl ?_
  refine o_iloadN (pc' := 2) X0 hx (hb hby d7_1) rfl rfl ?_
  refine o_iloadN (pc' := 3) X0 hx (hb hby d7_2) rfl rfl ?_
  refine o_iloadN (pc' := 4) X0 hx (hb hby d7_3) rfl rfl ?_
  refine o_iconst (pc' := 5) (v := (1 : Int32)) X0 hx (hb hby d7_4) rfl rfl ?_
  refine o_aload (pc' := 7) X0 hx (hb hby d7_5) rfl rfl rfl ?_
  refine o_anull (pc' := 8) X0 hx (hb hby d7_7)  rfl ?_
  refine o_iconst (pc' := 9) (v := (0 : Int32)) X0 hx (hb hby d7_8) rfl rfl ?_
  refine o_aload (pc' := 11) X0 hx (hb hby d7_9) rfl rfl rfl ?_
  refine o_iconst (pc' := 12) (v := (0 : Int32)) X0 hx (hb hby d7_11) rfl rfl ?_
  obtain ⟨r1, T1, L1, X1, hq1, st1⟩ := o_callN X0 hx hZ hown rfl (hw _ (List.mem_of_getElem? (i := 64) rfl)) (hw _ (List.mem_of_getElem? (i := 20) rfl)) (hw _ (List.mem_of_getElem? (i := 12) rfl)) (hw _ (List.mem_of_getElem? (i := 21) rfl)) (by decide) (rm3 l Z a0 hw a1 x1 x2 x3 (1 : Int32) x4 (0 : Int32) x5 (0 : Int32) f_year f_month f_day f_length f_mayBeDecade f_namesCalendar h0 n0 Z0 E0 F_year F_month F_day F_length F_order F_weekday F_mayBeDecade F_calendar F_namesCalendar ga (Or.inl rfl) (Or.inl rfl)) e0 (pc' := 15) (Ls := #[.val (.ref a1), .val (.int x1), .val (.int x2), .val (.int x3), .val (.ref x4), .val (.ref x5)]) (by rw [hml]; rfl) [(.int x1), (.int x2), (.int x3), (.int (1 : Int32)), (.ref x4), .null, (.int (0 : Int32)), (.ref x5), (.int (0 : Int32))] [] rfl pd1 rfl rfl 0 (Nat.le_of_eq rfl) (hb hby d7_12) rfl (by decide) (by decide) (by decide) (by decide)
  obtain ⟨rfl, N1, Kc1, E1_, F1_year, F1_month, F1_day, F1_length, F1_order, F1_weekday, F1_mayBeDecade, F1_calendar, F1_namesCalendar⟩ := hq1
  refine oGo.step (f' := (mkF m 15 #[.val (.ref a1), .val (.int x1), .val (.int x2), .val (.int x3), .val (.ref x4), .val (.ref x5)] [])) st1 ?_
  have N1_ := Fr.app N0 N1
  have K2 := Kc1
  have F3 := E0.keep K2
  have Z13 := Nat.le_trans Z0 K2.1
  have K14 := K0.trans K2 (allS (Or.inl (List.mem_of_getElem? (i := 0) rfl)) all0)
  have X1 := o_flat X1 rfl rfl
  refine o_retV X1 hx hret hlk (hb hby d7_15) (by decide) (by decide) ?_
  skip
  exact ⟨rfl, N1_, K14, E1_, F1_year, F1_month, F1_day, F1_length, F1_order, F1_weekday, F1_mayBeDecade, F1_calendar, F1_namesCalendar⟩
theorem d6_0 : decode prog_44_method_19_code 0 = .ok (.aload_n 0, 1) := by decide +kernel
theorem d6_1 : decode prog_44_method_19_code 1 = .ok (.getfield 16, 3) := by decide +kernel
theorem d6_4 : decode prog_44_method_19_code 4 = .ok (.iconst (-1), 1) := by decide +kernel
theorem d6_5 : decode prog_44_method_19_code 5 = .ok (.if_icmp .ne 66, 3) := by decide +kernel
theorem d6_8 : decode prog_44_method_19_code 8 = .ok (.aload_n 1, 1) := by decide +kernel
theorem d6_9 : decode prog_44_method_19_code 9 = .ok (.getfield 16, 3) := by decide +kernel
theorem d6_12 : decode prog_44_method_19_code 12 = .ok (.iconst (-1), 1) := by decide +kernel
theorem d6_13 : decode prog_44_method_19_code 13 = .ok (.if_icmp .ne 58, 3) := by decide +kernel
theorem d6_16 : decode prog_44_method_19_code 16 = .ok (.aload_n 0, 1) := by decide +kernel
theorem d6_17 : decode prog_44_method_19_code 17 = .ok (.getfield 13, 3) := by decide +kernel
theorem d6_20 : decode prog_44_method_19_code 20 = .ok (.iconst (-1), 1) := by decide +kernel
theorem d6_21 : decode prog_44_method_19_code 21 = .ok (.if_icmp .ne 7, 3) := by decide +kernel
theorem d6_24 : decode prog_44_method_19_code 24 = .ok (.iconst 1, 1) := by decide +kernel
theorem d6_25 : decode prog_44_method_19_code 25 = .ok (.goto 4, 3) := by decide +kernel
theorem d6_28 : decode prog_44_method_19_code 28 = .ok (.iconst 0, 1) := by decide +kernel
theorem d6_29 : decode prog_44_method_19_code 29 = .ok (.aload_n 1, 1) := by decide +kernel
theorem d6_30 : decode prog_44_method_19_code 30 = .ok (.getfield 13, 3) := by decide +kernel
theorem d6_33 : decode prog_44_method_19_code 33 = .ok (.iconst (-1), 1) := by decide +kernel
theorem d6_34 : decode prog_44_method_19_code 34 = .ok (.if_icmp .ne 7, 3) := by decide +kernel
theorem d6_37 : decode prog_44_method_19_code 37 = .ok (.iconst 1, 1) := by decide +kernel
theorem d6_38 : decode prog_44_method_19_code 38 = .ok (.goto 4, 3) := by decide +kernel
theorem d6_41 : decode prog_44_method_19_code 41 = .ok (.iconst 0, 1) := by decide +kernel
theorem d6_42 : decode prog_44_method_19_code 42 = .ok (.if_icmp .ne 29, 3) := by decide +kernel
theorem d6_45 : decode prog_44_method_19_code 45 = .ok (.aload_n 0, 1) := by decide +kernel
theorem d6_46 : decode prog_44_method_19_code 46 = .ok (.getfield 19, 3) := by decide +kernel
theorem d6_49 : decode prog_44_method_19_code 49 = .ok (.aload_n 1, 1) := by decide +kernel
theorem d6_50 : decode prog_44_method_19_code 50 = .ok (.getfield 19, 3) := by decide +kernel
theorem d6_53 : decode prog_44_method_19_code 53 = .ok (.if_icmp .ne 18, 3) := by decide +kernel
theorem d6_56 : decode prog_44_method_19_code 56 = .ok (.aload_n 0, 1) := by decide +kernel
theorem d6_57 : decode prog_44_method_19_code 57 = .ok (.getfield 34, 3) := by decide +kernel
theorem d6_60 : decode prog_44_method_19_code 60 = .ok (.aload_n 1, 1) := by decide +kernel
theorem d6_61 : decode prog_44_method_19_code 61 = .ok (.getfield 34, 3) := by decide +kernel
theorem d6_64 : decode prog_44_method_19_code 64 = .ok (.if_acmp .ne 7, 3) := by decide +kernel
theorem d6_67 : decode prog_44_method_19_code 67 = .ok (.iconst 1, 1) := by decide +kernel
theorem d6_68 : decode prog_44_method_19_code 68 = .ok (.goto 4, 3) := by decide +kernel
theorem d6_71 : decode prog_44_method_19_code 71 = .ok (.iconst 0, 1) := by decide +kernel
theorem d6_72 : decode prog_44_method_19_code 72 = .ok (.ireturn, 1) := by decide +kernel
theorem ef6 (m : MethodId) (a1 : Addr) (x1 : Addr) : entryFrame m #[(.ref a1), (.ref x1)] 2 = mkF m 0 #[.val (.ref a1), .val (.ref x1)] [] := by first | (simp [entryFrame, mkF, argsToLocals, Value.category]; done) | rfl
def spec6 (f_day : Int32) (f_month : Int32) (f_length : Int32) (f_calendar : Addr) (g_day : Int32) (g_month : Int32) (g_length : Int32) (g_calendar : Addr) : Int32 := (if f_day = (-1 : Int32) then (if g_day = (-1 : Int32) then (if (if f_month = (-1 : Int32) then (1 : Int32) else (0 : Int32)) = (if g_month = (-1 : Int32) then (1 : Int32) else (0 : Int32)) then (if f_length = g_length then (if Value.ref f_calendar = Value.ref g_calendar then (1 : Int32) else (0 : Int32)) else (0 : Int32)) else (0 : Int32)) else (0 : Int32)) else (0 : Int32))
def room6 : Room := { frames := 0, cells := 0, slots := 0, locals := 0 }
set_option maxRecDepth 65536 in
set_option maxHeartbeats 40000000 in
theorem rm6 (l : Launch) (Z : State) (a0 : Array Value) (hw : ∀ d ∈ tables_1, d.before a0 Z = true) (a1 : Addr) (x1 : Addr) (f_day : Int32) (f_month : Int32) (f_length : Int32) (f_calendar : Addr) (g_day : Int32) (g_month : Int32) (g_length : Int32) (g_calendar : Addr) (h0 : Heap) (n0 : Nat) (Z0 : n0 ≤ h0.size) (E0 : Exa Z h0 a1 "org/kalends/expressions/WrittenDate") (F_day : Fld Z h0 a1 "org/kalends/expressions/WrittenDate" "day" "I" (.int f_day)) (F_month : Fld Z h0 a1 "org/kalends/expressions/WrittenDate" "month" "I" (.int f_month)) (F_length : Fld Z h0 a1 "org/kalends/expressions/WrittenDate" "length" "I" (.int f_length)) (F_calendar : Fld Z h0 a1 "org/kalends/expressions/WrittenDate" "calendar" "Lorg/kalends/calendars/Calendar;" (.ref f_calendar)) (G_day : Fld Z h0 x1 "org/kalends/expressions/WrittenDate" "day" "I" (.int g_day)) (G_month : Fld Z h0 x1 "org/kalends/expressions/WrittenDate" "month" "I" (.int g_month)) (G_length : Fld Z h0 x1 "org/kalends/expressions/WrittenDate" "length" "I" (.int g_length)) (G_calendar : Fld Z h0 x1 "org/kalends/expressions/WrittenDate" "calendar" "Lorg/kalends/calendars/Calendar;" (.ref g_calendar)) :
    oCon l Z (⟨"org/kalends/expressions/WrittenDate", "slashJoins", "(Lorg/kalends/expressions/WrittenDate;)Z"⟩ : MethodName) prog_44_method_19_code 2 (some .boolean) room6 #[(.ref a1), (.ref x1)] h0 (fun v h L => v = some (.int (spec6 f_day f_month f_length f_calendar g_day g_month g_length g_calendar)) ∧ L = [] ∧ h = h0) := by
  refine oCon.of (plainFor_of_name pn_3) ?_
  intro p e s m below meth c s₁ hx hby hml hown hnm hret hlk hZ X0 e0
  rw [ef6 m a1 x1]
  have N0 := Fr.nil n0
  refine o_aloadN (pc' := 1) X0 hx (hb hby d6_0) rfl rfl rfl ?_
  obtain ⟨T1, X1, e1, st1⟩ := getF X0 hx hZ hown (host := "") (Or.inl (hw _ (List.mem_of_getElem? (i := 34) rfl))) Via.refl e0 F_day (g := (mkF m 1 #[.val (.ref a1), .val (.ref x1)] [(.ref a1)])) rfl rfl (hb hby d6_1)
  refine oGo.step (f' := (mkF m 4 #[.val (.ref a1), .val (.ref x1)] [(.int f_day)])) st1 ?_
  refine o_iconst (pc' := 5) (v := (-1 : Int32)) X1 hx (hb hby d6_4) rfl rfl ?_
  have J3 : ∀ (T22 : State) (X22 : Stand p l e room6 s m #[(.ref a1), (.ref x1)] below meth c T22 [] (0) (0)) (e22 : T22.heap = h0) (v21 : Int32), v21 = (if f_day = (-1 : Int32) then (if g_day = (-1 : Int32) then (if (if f_month = (-1 : Int32) then (1 : Int32) else (0 : Int32)) = (if g_month = (-1 : Int32) then (1 : Int32) else (0 : Int32)) then (if f_length = g_length then (if Value.ref f_calendar = Value.ref g_calendar then (1 : Int32) else (0 : Int32)) else (0 : Int32)) else (0 : Int32)) else (0 : Int32)) else (0 : Int32)) → oGo p e below (oG s (fun v h L => v = some (.int (spec6 f_day f_month f_length f_calendar g_day g_month g_length g_calendar)) ∧ L = [] ∧ h = h0) room6.cells room6.slots) T22 (mkF m 72 #[.val (.ref a1), .val (.ref x1)] [(.int v21)]) := by
    intro T22 X22 e22 v21 hv21
    refine o_retZ X22 hx hret hlk (hb hby d6_72) (by rw [hv21]; (repeat' split) <;> (first | rfl | assumption)) (by decide) (by decide) ?_
    subst hv21
    exact ⟨rfl, rfl, e22⟩
  by_cases c2 : f_day = (-1 : Int32)
  · refine o_icmpF (pc' := 8) X1 hx (hb hby d6_5) (XT.ii_ne_f c2) rfl ?_
    refine o_aloadN (pc' := 9) X1 hx (hb hby d6_8) rfl rfl rfl ?_
    obtain ⟨T4, X4, e4, st4⟩ := getF X1 hx hZ hown (host := "") (Or.inl (hw _ (List.mem_of_getElem? (i := 34) rfl))) Via.refl e1 G_day (g := (mkF m 9 #[.val (.ref a1), .val (.ref x1)] [(.ref x1)])) rfl rfl (hb hby d6_9)
    refine oGo.step (f' := (mkF m 12 #[.val (.ref a1), .val (.ref x1)] [(.int g_day)])) st4 ?_
    refine o_iconst (pc' := 13) (v := (-1 : Int32)) X4 hx (hb hby d6_12) rfl rfl ?_
    by_cases c5 : g_day = (-1 : Int32)
    · refine o_icmpF (pc' := 16) X4 hx (hb hby d6_13) (XT.ii_ne_f c5) rfl ?_
      refine o_aloadN (pc' := 17) X4 hx (hb hby d6_16) rfl rfl rfl ?_
      obtain ⟨T6, X6, e6, st6⟩ := getF X4 hx hZ hown (host := "") (Or.inl (hw _ (List.mem_of_getElem? (i := 32) rfl))) Via.refl e4 F_month (g := (mkF m 17 #[.val (.ref a1), .val (.ref x1)] [(.ref a1)])) rfl rfl (hb hby d6_17)
      refine oGo.step (f' := (mkF m 20 #[.val (.ref a1), .val (.ref x1)] [(.int f_month)])) st6 ?_
      refine o_iconst (pc' := 21) (v := (-1 : Int32)) X6 hx (hb hby d6_20) rfl rfl ?_
      have J8 : ∀ (v9 : Int32), v9 = (if f_month = (-1 : Int32) then (1 : Int32) else (0 : Int32)) → oGo p e below (oG s (fun v h L => v = some (.int (spec6 f_day f_month f_length f_calendar g_day g_month g_length g_calendar)) ∧ L = [] ∧ h = h0) room6.cells room6.slots) T6 (mkF m 29 #[.val (.ref a1), .val (.ref x1)] [(.int v9)]) := by
        intro v9 hv9
        refine o_aloadN (pc' := 30) X6 hx (hb hby d6_29) rfl rfl rfl ?_
        obtain ⟨T10, X10, e10, st10⟩ := getF X6 hx hZ hown (host := "") (Or.inl (hw _ (List.mem_of_getElem? (i := 32) rfl))) Via.refl e6 G_month (g := (mkF m 30 #[.val (.ref a1), .val (.ref x1)] [(.ref x1), (.int v9)])) rfl rfl (hb hby d6_30)
        refine oGo.step (f' := (mkF m 33 #[.val (.ref a1), .val (.ref x1)] [(.int g_month), (.int v9)])) st10 ?_
        refine o_iconst (pc' := 34) (v := (-1 : Int32)) X10 hx (hb hby d6_33) rfl rfl ?_
        have J12 : ∀ (v13 : Int32), v13 = (if g_month = (-1 : Int32) then (1 : Int32) else (0 : Int32)) → oGo p e below (oG s (fun v h L => v = some (.int (spec6 f_day f_month f_length f_calendar g_day g_month g_length g_calendar)) ∧ L = [] ∧ h = h0) room6.cells room6.slots) T10 (mkF m 42 #[.val (.ref a1), .val (.ref x1)] [(.int v13), (.int v9)]) := by
          intro v13 hv13
          by_cases c14 : v9 = v13
          · refine o_icmpF (pc' := 45) X10 hx (hb hby d6_42) (XT.ii_ne_f c14) rfl ?_
            refine o_aloadN (pc' := 46) X10 hx (hb hby d6_45) rfl rfl rfl ?_
            obtain ⟨T15, X15, e15, st15⟩ := getF X10 hx hZ hown (host := "") (Or.inl (hw _ (List.mem_of_getElem? (i := 36) rfl))) Via.refl e10 F_length (g := (mkF m 46 #[.val (.ref a1), .val (.ref x1)] [(.ref a1)])) rfl rfl (hb hby d6_46)
            refine oGo.step (f' := (mkF m 49 #[.val (.ref a1), .val (.ref x1)] [(.int f_length)])) st15 ?_
            refine o_aloadN (pc' := 50) X15 hx (hb hby d6_49) rfl rfl rfl ?_
            obtain ⟨T16, X16, e16, st16⟩ := getF X15 hx hZ hown (host := "") (Or.inl (hw _ (List.mem_of_getElem? (i := 36) rfl))) Via.refl e15 G_length (g := (mkF m 50 #[.val (.ref a1), .val (.ref x1)] [(.ref x1), (.int f_length)])) rfl rfl (hb hby d6_50)
            refine oGo.step (f' := (mkF m 53 #[.val (.ref a1), .val (.ref x1)] [(.int g_length), (.int f_length)])) st16 ?_
            by_cases c17 : f_length = g_length
            · refine o_icmpF (pc' := 56) X16 hx (hb hby d6_53) (XT.ii_ne_f c17) rfl ?_
              refine o_aloadN (pc' := 57) X16 hx (hb hby d6_56) rfl rfl rfl ?_
              obtain ⟨T18, X18, e18, st18⟩ := getF X16 hx hZ hown (host := "") (Or.inl (hw _ (List.mem_of_getElem? (i := 44) rfl))) Via.refl e16 F_calendar (g := (mkF m 57 #[.val (.ref a1), .val (.ref x1)] [(.ref a1)])) rfl rfl (hb hby d6_57)
              refine oGo.step (f' := (mkF m 60 #[.val (.ref a1), .val (.ref x1)] [(.ref f_calendar)])) st18 ?_
              refine o_aloadN (pc' := 61) X18 hx (hb hby d6_60) rfl rfl rfl ?_
              obtain ⟨T19, X19, e19, st19⟩ := getF X18 hx hZ hown (host := "") (Or.inl (hw _ (List.mem_of_getElem? (i := 44) rfl))) Via.refl e18 G_calendar (g := (mkF m 61 #[.val (.ref a1), .val (.ref x1)] [(.ref x1), (.ref f_calendar)])) rfl rfl (hb hby d6_61)
              refine oGo.step (f' := (mkF m 64 #[.val (.ref a1), .val (.ref x1)] [(.ref g_calendar), (.ref f_calendar)])) st19 ?_
              by_cases c20 : Value.ref f_calendar = Value.ref g_calendar
              · refine o_acmpF (pc' := 67) X19 hx (hb hby d6_64) rfl rfl (XT.aa_ne_f c20) rfl ?_
                refine o_iconst (pc' := 68) (v := (1 : Int32)) X19 hx (hb hby d6_67) rfl rfl ?_
                refine o_goto (pc' := 72) X19 hx (hb hby d6_68) (by decide) (by decide) ?_
                subst hv13 hv9
                exact J3 T19 X19 e19 _ ((if_pos c2).trans ((if_pos c5).trans ((if_pos c14).trans ((if_pos c17).trans (if_pos c20))))).symm
              · refine o_acmpT (pc' := 71) X19 hx (hb hby d6_64) rfl rfl (XT.aa_ne_t c20) (by decide) (by decide) ?_
                refine o_iconst (pc' := 72) (v := (0 : Int32)) X19 hx (hb hby d6_71) rfl rfl ?_
                subst hv13 hv9
                exact J3 T19 X19 e19 _ ((if_pos c2).trans ((if_pos c5).trans ((if_pos c14).trans ((if_pos c17).trans (if_neg c20))))).symm
            · refine o_icmpT (pc' := 71) X16 hx (hb hby d6_53) (XT.ii_ne_t c17) (by decide) (by decide) ?_
              refine o_iconst (pc' := 72) (v := (0 : Int32)) X16 hx (hb hby d6_71) rfl rfl ?_
              subst hv13 hv9
              exact J3 T16 X16 e16 _ ((if_pos c2).trans ((if_pos c5).trans ((if_pos c14).trans (if_neg c17)))).symm
          · refine o_icmpT (pc' := 71) X10 hx (hb hby d6_42) (XT.ii_ne_t c14) (by decide) (by decide) ?_
            refine o_iconst (pc' := 72) (v := (0 : Int32)) X10 hx (hb hby d6_71) rfl rfl ?_
            subst hv13 hv9
            exact J3 T10 X10 e10 _ ((if_pos c2).trans ((if_pos c5).trans (if_neg c14))).symm
        by_cases c11 : g_month = (-1 : Int32)
        · refine o_icmpF (pc' := 37) X10 hx (hb hby d6_34) (XT.ii_ne_f c11) rfl ?_
          refine o_iconst (pc' := 38) (v := (1 : Int32)) X10 hx (hb hby d6_37) rfl rfl ?_
          refine o_goto (pc' := 42) X10 hx (hb hby d6_38) (by decide) (by decide) ?_
          exact J12 _ (if_pos c11).symm
        · refine o_icmpT (pc' := 41) X10 hx (hb hby d6_34) (XT.ii_ne_t c11) (by decide) (by decide) ?_
          refine o_iconst (pc' := 42) (v := (0 : Int32)) X10 hx (hb hby d6_41) rfl rfl ?_
          exact J12 _ (if_neg c11).symm
      by_cases c7 : f_month = (-1 : Int32)
      · refine o_icmpF (pc' := 24) X6 hx (hb hby d6_21) (XT.ii_ne_f c7) rfl ?_
        refine o_iconst (pc' := 25) (v := (1 : Int32)) X6 hx (hb hby d6_24) rfl rfl ?_
        refine o_goto (pc' := 29) X6 hx (hb hby d6_25) (by decide) (by decide) ?_
        exact J8 _ (if_pos c7).symm
      · refine o_icmpT (pc' := 28) X6 hx (hb hby d6_21) (XT.ii_ne_t c7) (by decide) (by decide) ?_
        refine o_iconst (pc' := 29) (v := (0 : Int32)) X6 hx (hb hby d6_28) rfl rfl ?_
        exact J8 _ (if_neg c7).symm
    · refine o_icmpT (pc' := 71) X4 hx (hb hby d6_13) (XT.ii_ne_t c5) (by decide) (by decide) ?_
      refine o_iconst (pc' := 72) (v := (0 : Int32)) X4 hx (hb hby d6_71) rfl rfl ?_
      exact J3 T4 X4 e4 _ ((if_pos c2).trans (if_neg c5)).symm
  · refine o_icmpT (pc' := 71) X1 hx (hb hby d6_5) (XT.ii_ne_t c2) (by decide) (by decide) ?_
    refine o_iconst (pc' := 72) (v := (0 : Int32)) X1 hx (hb hby d6_71) rfl rfl ?_
    exact J3 T1 X1 e1 _ (if_neg c2).symm
def oDist (r_GREGORIAN r_JULIAN r_JULIAN_ANNUNCIATION r_JULIAN_NATAL r_FRENCH_REPUBLICAN r_HIJRI : Addr) : Prop := r_GREGORIAN ≠ r_JULIAN ∧ r_GREGORIAN ≠ r_JULIAN_ANNUNCIATION ∧ r_GREGORIAN ≠ r_JULIAN_NATAL ∧ r_GREGORIAN ≠ r_FRENCH_REPUBLICAN ∧ r_GREGORIAN ≠ r_HIJRI ∧ r_JULIAN ≠ r_JULIAN_ANNUNCIATION ∧ r_JULIAN ≠ r_JULIAN_NATAL ∧ r_JULIAN ≠ r_FRENCH_REPUBLICAN ∧ r_JULIAN ≠ r_HIJRI ∧ r_JULIAN_ANNUNCIATION ≠ r_JULIAN_NATAL ∧ r_JULIAN_ANNUNCIATION ≠ r_FRENCH_REPUBLICAN ∧ r_JULIAN_ANNUNCIATION ≠ r_HIJRI ∧ r_JULIAN_NATAL ≠ r_FRENCH_REPUBLICAN ∧ r_JULIAN_NATAL ≠ r_HIJRI ∧ r_FRENCH_REPUBLICAN ≠ r_HIJRI
def oC (c : Int32) : Prop := c = 0 ∨ c = 1 ∨ c = 2 ∨ c = 3 ∨ c = 4 ∨ c = 5
theorem own_c6 (u : Int64) : oC ((((u &&& (7 : Int64)) % (6 : Int64))).toInt32) := by
  have h1 := c_maskL u 7 3 (by decide) (by decide)
  have k := (c_lrem (u &&& (7 : Int64)) 6 6 rfl).1 (by omega)
  rw [lrem_mod] at k
  generalize ((u &&& (7 : Int64)) % (6 : Int64)) = y at *
  have q := c_l2i y
  have r := rng32 y.toInt32
  generalize y.toInt32 = z at *
  unfold oC
  have o0 : (0 : Int32).toInt = 0 := rfl
  have o1 : (1 : Int32).toInt = 1 := rfl
  have o2 : (2 : Int32).toInt = 2 := rfl
  have o3 : (3 : Int32).toInt = 3 := rfl
  have o4 : (4 : Int32).toInt = 4 := rfl
  have o5 : (5 : Int32).toInt = 5 := rfl
  simp only [← Int32.toInt_inj]
  omega
theorem own_inj {c1 c2 : Int32} (h1 : oC c1) (h2 : oC c2) {r_GREGORIAN r_JULIAN r_JULIAN_ANNUNCIATION r_JULIAN_NATAL r_FRENCH_REPUBLICAN r_HIJRI : Addr} (hne : oDist r_GREGORIAN r_JULIAN r_JULIAN_ANNUNCIATION r_JULIAN_NATAL r_FRENCH_REPUBLICAN r_HIJRI) : (Value.ref (spec2 c1 r_GREGORIAN r_JULIAN r_JULIAN_ANNUNCIATION r_JULIAN_NATAL r_FRENCH_REPUBLICAN r_HIJRI) = Value.ref (spec2 c2 r_GREGORIAN r_JULIAN r_JULIAN_ANNUNCIATION r_JULIAN_NATAL r_FRENCH_REPUBLICAN r_HIJRI)) ↔ c1 = c2 := by
  constructor
  · intro q
    have q' := Value.ref.inj q
    obtain ⟨n01, n02, n03, n04, n05, n12, n13, n14, n15, n23, n24, n25, n34, n35, n45⟩ := hne
    rcases h1 with rfl | rfl | rfl | rfl | rfl | rfl <;> rcases h2 with rfl | rfl | rfl | rfl | rfl | rfl <;> first | rfl | (exfalso; first | exact absurd q' (by assumption) | exact absurd q'.symm (by assumption))
  · intro q; rw [q]
theorem own_law (d1 m1 l1 d2 m2 l2 c1 c2 : Int32) {r_GREGORIAN r_JULIAN r_JULIAN_ANNUNCIATION r_JULIAN_NATAL r_FRENCH_REPUBLICAN r_HIJRI : Addr} (h1 : oC c1) (h2 : oC c2) (hne : oDist r_GREGORIAN r_JULIAN r_JULIAN_ANNUNCIATION r_JULIAN_NATAL r_FRENCH_REPUBLICAN r_HIJRI) : (if (spec6 d1 m1 l1 (spec2 c1 r_GREGORIAN r_JULIAN r_JULIAN_ANNUNCIATION r_JULIAN_NATAL r_FRENCH_REPUBLICAN r_HIJRI) d2 m2 l2 (spec2 c2 r_GREGORIAN r_JULIAN r_JULIAN_ANNUNCIATION r_JULIAN_NATAL r_FRENCH_REPUBLICAN r_HIJRI)) = (if (if d1 = (-1 : Int32) then (if d2 = (-1 : Int32) then (1 : Int32) else (0 : Int32)) else (0 : Int32)) = 0 then (0 : Int32) else (if (if (if m1 = (-1 : Int32) then (1 : Int32) else (0 : Int32)) = (if m2 = (-1 : Int32) then (1 : Int32) else (0 : Int32)) then (1 : Int32) else (0 : Int32)) = 0 then (0 : Int32) else (if l1 = l2 then (if c1 = c2 then (1 : Int32) else (0 : Int32)) else (0 : Int32)))) then (if (spec6 d2 m2 l2 (spec2 c2 r_GREGORIAN r_JULIAN r_JULIAN_ANNUNCIATION r_JULIAN_NATAL r_FRENCH_REPUBLICAN r_HIJRI) d1 m1 l1 (spec2 c1 r_GREGORIAN r_JULIAN r_JULIAN_ANNUNCIATION r_JULIAN_NATAL r_FRENCH_REPUBLICAN r_HIJRI)) = (if (if d1 = (-1 : Int32) then (if d2 = (-1 : Int32) then (1 : Int32) else (0 : Int32)) else (0 : Int32)) = 0 then (0 : Int32) else (if (if (if m1 = (-1 : Int32) then (1 : Int32) else (0 : Int32)) = (if m2 = (-1 : Int32) then (1 : Int32) else (0 : Int32)) then (1 : Int32) else (0 : Int32)) = 0 then (0 : Int32) else (if l1 = l2 then (if c1 = c2 then (1 : Int32) else (0 : Int32)) else (0 : Int32)))) then (1 : Int32) else (0 : Int32)) else (0 : Int32)) = 1 := by
  have k := own_inj h1 h2 hne
  have k' := own_inj h2 h1 hne
  unfold spec6
  by_cases a1 : d1 = (-1 : Int32) <;> by_cases a2 : d2 = (-1 : Int32) <;> by_cases a3 : m1 = (-1 : Int32) <;> by_cases a4 : m2 = (-1 : Int32) <;> by_cases a5 : l1 = l2 <;> by_cases a6 : c1 = c2 <;> simp [a1, a2, a3, a4, a5, a6, k, k', eq_comm (a := l2) (b := l1), eq_comm (a := c2) (b := c1)]
theorem ef_0 (m : MethodId) (x0 : Int32) (x1 : Int32) (x2 : Int32) (x3 : Int32) (x4 : Int32) (x5 : Int64) : entryFrame m #[(.int x0), (.int x1), (.int x2), (.int x3), (.int x4), (.long x5)] maxLocals = mkF m 0 #[.val (.int x0), .val (.int x1), .val (.int x2), .val (.int x3), .val (.int x4), .val (.long x5), .second, .unset, .unset, .unset, .unset, .unset, .unset, .unset, .unset, .unset, .unset, .unset, .unset, .unset, .unset, .unset, .unset, .unset, .unset, .unset, .unset, .unset, .unset, .unset] [] := by first | (simp [entryFrame, mkF, argsToLocals, Value.category, maxLocals]; done) | rfl
theorem pd2 : parseMethodDescriptor "(I)Lorg/kalends/expressions/WrittenDate$Order;" = some ⟨[.int], (some (.object "org/kalends/expressions/WrittenDate$Order"))⟩ := by decide +kernel
theorem pd3 : parseMethodDescriptor "(I)Lorg/kalends/calendars/Calendar;" = some ⟨[.int], (some (.object "org/kalends/calendars/Calendar"))⟩ := by decide +kernel
theorem pd4 : parseMethodDescriptor "(Lorg/kalends/expressions/WrittenDate;)Z" = some ⟨[(.object "org/kalends/expressions/WrittenDate")], (some .boolean)⟩ := by decide +kernel
theorem pd5 : parseMethodDescriptor "(IIILorg/kalends/expressions/WrittenDate$Order;Lorg/kalends/calendars/Calendar;)V" = some ⟨[.int, .int, .int, (.object "org/kalends/expressions/WrittenDate$Order"), (.object "org/kalends/calendars/Calendar")], none⟩ := by decide +kernel

set_option maxRecDepth 65536 in
set_option maxHeartbeats 40000000 in
theorem rm0 (l : Launch) (Z : State) (a0 : Array Value) (hw : ∀ d ∈ tables_1, d.before a0 Z = true) (x0 : Int32) (x1 : Int32) (x2 : Int32) (x3 : Int32) (x4 : Int32) (x5 : Int64) (r_YEAR_FIRST r_MONTH_FIRST r_OTHER r_GREGORIAN r_JULIAN r_JULIAN_ANNUNCIATION r_JULIAN_NATAL r_FRENCH_REPUBLICAN r_HIJRI : Addr) (h0 : Heap) (n0 : Nat) (Z0 : n0 ≤ h0.size) (O0 : Old Z n0 h0) (S_YEAR_FIRST : Sta Z Z.heap "org/kalends/expressions/WrittenDate$Order" "YEAR_FIRST" "Lorg/kalends/expressions/WrittenDate$Order;" (.ref r_YEAR_FIRST)) (S_MONTH_FIRST : Sta Z Z.heap "org/kalends/expressions/WrittenDate$Order" "MONTH_FIRST" "Lorg/kalends/expressions/WrittenDate$Order;" (.ref r_MONTH_FIRST)) (S_OTHER : Sta Z Z.heap "org/kalends/expressions/WrittenDate$Order" "OTHER" "Lorg/kalends/expressions/WrittenDate$Order;" (.ref r_OTHER)) (S_GREGORIAN : Sta Z Z.heap "org/kalends/calendars/Calendar" "GREGORIAN" "Lorg/kalends/calendars/Calendar;" (.ref r_GREGORIAN)) (S_JULIAN : Sta Z Z.heap "org/kalends/calendars/Calendar" "JULIAN" "Lorg/kalends/calendars/Calendar;" (.ref r_JULIAN)) (S_JULIAN_ANNUNCIATION : Sta Z Z.heap "org/kalends/calendars/Calendar" "JULIAN_ANNUNCIATION" "Lorg/kalends/calendars/Calendar;" (.ref r_JULIAN_ANNUNCIATION)) (S_JULIAN_NATAL : Sta Z Z.heap "org/kalends/calendars/Calendar" "JULIAN_NATAL" "Lorg/kalends/calendars/Calendar;" (.ref r_JULIAN_NATAL)) (S_FRENCH_REPUBLICAN : Sta Z Z.heap "org/kalends/calendars/Calendar" "FRENCH_REPUBLICAN" "Lorg/kalends/calendars/Calendar;" (.ref r_FRENCH_REPUBLICAN)) (S_HIJRI : Sta Z Z.heap "org/kalends/calendars/Calendar" "HIJRI" "Lorg/kalends/calendars/Calendar;" (.ref r_HIJRI)) (hne : oDist r_GREGORIAN r_JULIAN r_JULIAN_ANNUNCIATION r_JULIAN_NATAL r_FRENCH_REPUBLICAN r_HIJRI) :
    oCon l Z x code maxLocals ret room_1 #[(.int x0), (.int x1), (.int x2), (.int x3), (.int x4), (.long x5)] h0 (fun v h L => v = some (.int 1) ∧ Fr n0 L) := by
  refine oCon.of (plainFor_of_name pn_1) ?_
  intro p e s m below meth c s₁ hx hby hml hown hnm hret hlk hZ X0 e0
  replace hml : c.maxLocals = 30 := hml
  rw [ef_0 m x0 x1 x2 x3 x4 x5]
  have N0 := Fr.nil n0
  refine o_lload (pc' := 2) X0 hx (hb hby at_0) rfl rfl ?_
  refine o_ldc2 (pc' := 5) (v := (7 : Int64)) X0 hx hZ hown (hw _ (List.mem_of_getElem? (i := 0) rfl)) (hb hby at_2) rfl ?_
  refine o_land (pc' := 6) X0 hx (hb hby at_5)  rfl ?_
  refine o_ldc2 (pc' := 9) (v := (6 : Int64)) X0 hx hZ hown (hw _ (List.mem_of_getElem? (i := 1) rfl)) (hb hby at_6) rfl ?_
  refine o_lrem (pc' := 10) X0 hx (hb hby at_9) (by decide) rfl ?_
  refine o_l2i (pc' := 11) X0 hx (hb hby at_10)  rfl ?_
  refine o_istore (pc' := 13) (l' := #[.val (.int x0), .val (.int x1), .val (.int x2), .val (.int x3), .val (.int x4), .val (.long x5), .second, .val (.int ((((x5 &&& (7 : Int64)) % (6 : Int64))).toInt32)), .unset, .unset, .unset, .unset, .unset, .unset, .unset, .unset, .unset, .unset, .unset, .unset, .unset, .unset, .unset, .unset, .unset, .unset, .unset, .unset, .unset, .unset]) X0 hx (hb hby at_11) rfl rfl ?_
  refine o_lload (pc' := 15) X0 hx (hb hby at_13) rfl rfl ?_
  refine o_iconst (pc' := 16) (v := (3 : Int32)) X0 hx (hb hby at_15) rfl rfl ?_
  refine o_lshr (pc' := 17) X0 hx (hb hby at_16)  rfl ?_
  refine o_lconst (pc' := 18) (v := (1 : Int64)) X0 hx (hb hby at_17) rfl rfl ?_
  refine o_land (pc' := 19) X0 hx (hb hby at_18)  rfl ?_
  refine o_lconst (pc' := 20) (v := (0 : Int64)) X0 hx (hb hby at_19) rfl rfl ?_
  refine o_lcmp (pc' := 21) X0 hx (hb hby at_20)  rfl ?_
  have J2 : ∀ (v3 : Int32), v3 = (if ((x5 >>> (((3 : Int32)).toInt64 &&& 63)) &&& (1 : Int64)) = (0 : Int64) then ((((x5 &&& (7 : Int64)) % (6 : Int64))).toInt32) else (((((x5 >>> (((4 : Int32)).toInt64 &&& 63)) &&& (7 : Int64)) % (6 : Int64))).toInt32)) → oGo p e below (oG s (fun v h L => v = some (.int 1) ∧ Fr n0 L) room_1.cells room_1.slots) s₁ (mkF m 42 #[.val (.int x0), .val (.int x1), .val (.int x2), .val (.int x3), .val (.int x4), .val (.long x5), .second, .val (.int ((((x5 &&& (7 : Int64)) % (6 : Int64))).toInt32)), .unset, .unset, .unset, .unset, .unset, .unset, .unset, .unset, .unset, .unset, .unset, .unset, .unset, .unset, .unset, .unset, .unset, .unset, .unset, .unset, .unset, .unset] [(.int v3)]) := by
    intro v3 hv3
    refine o_istore (pc' := 44) (l' := #[.val (.int x0), .val (.int x1), .val (.int x2), .val (.int x3), .val (.int x4), .val (.long x5), .second, .val (.int ((((x5 &&& (7 : Int64)) % (6 : Int64))).toInt32)), .val (.int v3), .unset, .unset, .unset, .unset, .unset, .unset, .unset, .unset, .unset, .unset, .unset, .unset, .unset, .unset, .unset, .unset, .unset, .unset, .unset, .unset, .unset]) X0 hx (hb hby at_42) rfl rfl ?_
    refine o_lload (pc' := 46) X0 hx (hb hby at_44) rfl rfl ?_
    refine o_bipush (pc' := 48) (v := (7 : Int32)) X0 hx (hb hby at_46) rfl rfl ?_
    refine o_lshr (pc' := 49) X0 hx (hb hby at_48)  rfl ?_
    refine o_ldc2 (pc' := 52) (v := (3 : Int64)) X0 hx hZ hown (hw _ (List.mem_of_getElem? (i := 2) rfl)) (hb hby at_49) rfl ?_
    refine o_land (pc' := 53) X0 hx (hb hby at_52)  rfl ?_
    refine o_l2i (pc' := 54) X0 hx (hb hby at_53)  rfl ?_
    obtain ⟨r4, T4, L4, X4, hq4, st4⟩ := o_callS X0 hx hZ hown (hw _ (List.mem_of_getElem? (i := 3) rfl)) (hw _ (List.mem_of_getElem? (i := 4) rfl)) (hw _ (List.mem_of_getElem? (i := 5) rfl)) (hw _ (List.mem_of_getElem? (i := 6) rfl)) (by decide) (rm1 l Z a0 hw ((((x5 >>> (((7 : Int32)).toInt64 &&& 63)) &&& (3 : Int64))).toInt32) r_YEAR_FIRST r_MONTH_FIRST r_OTHER h0 n0 Z0 O0 S_YEAR_FIRST S_MONTH_FIRST S_OTHER) e0 (pc' := 57) (Ls := #[.val (.int x0), .val (.int x1), .val (.int x2), .val (.int x3), .val (.int x4), .val (.long x5), .second, .val (.int ((((x5 &&& (7 : Int64)) % (6 : Int64))).toInt32)), .val (.int v3), .unset, .unset, .unset, .unset, .unset, .unset, .unset, .unset, .unset, .unset, .unset, .unset, .unset, .unset, .unset, .unset, .unset, .unset, .unset, .unset, .unset]) (by rw [hml]; rfl) [(.int ((((x5 >>> (((7 : Int32)).toInt64 &&& 63)) &&& (3 : Int64))).toInt32))] [] rfl pd2 rfl rfl 0 (Nat.le_of_eq rfl) (hb hby at_54) rfl (by decide) (by decide) (by decide) (by decide)
    obtain ⟨rfl, rfl, Kc4⟩ := hq4
    refine oGo.step (f' := (mkF m 57 #[.val (.int x0), .val (.int x1), .val (.int x2), .val (.int x3), .val (.int x4), .val (.long x5), .second, .val (.int ((((x5 &&& (7 : Int64)) % (6 : Int64))).toInt32)), .val (.int v3), .unset, .unset, .unset, .unset, .unset, .unset, .unset, .unset, .unset, .unset, .unset, .unset, .unset, .unset, .unset, .unset, .unset, .unset, .unset, .unset, .unset] [(.ref (spec1 ((((x5 >>> (((7 : Int32)).toInt64 &&& 63)) &&& (3 : Int64))).toInt32) r_YEAR_FIRST r_MONTH_FIRST r_OTHER))])) st4 ?_
    have e4 : T4.heap = h0 := Kc4
    have X4 := o_same X4 rfl rfl
    refine o_astore (pc' := 59) (l' := #[.val (.int x0), .val (.int x1), .val (.int x2), .val (.int x3), .val (.int x4), .val (.long x5), .second, .val (.int ((((x5 &&& (7 : Int64)) % (6 : Int64))).toInt32)), .val (.int v3), .val (.ref (spec1 ((((x5 >>> (((7 : Int32)).toInt64 &&& 63)) &&& (3 : Int64))).toInt32) r_YEAR_FIRST r_MONTH_FIRST r_OTHER)), .unset, .unset, .unset, .unset, .unset, .unset, .unset, .unset, .unset, .unset, .unset, .unset, .unset, .unset, .unset, .unset, .unset, .unset, .unset, .unset]) X4 hx (hb hby at_57) rfl rfl rfl ?_
    refine o_lload (pc' := 61) X4 hx (hb hby at_59) rfl rfl ?_
    refine o_bipush (pc' := 63) (v := (9 : Int32)) X4 hx (hb hby at_61) rfl rfl ?_
    refine o_lshr (pc' := 64) X4 hx (hb hby at_63)  rfl ?_
    refine o_ldc2 (pc' := 67) (v := (3 : Int64)) X4 hx hZ hown (hw _ (List.mem_of_getElem? (i := 2) rfl)) (hb hby at_64) rfl ?_
    refine o_land (pc' := 68) X4 hx (hb hby at_67)  rfl ?_
    refine o_l2i (pc' := 69) X4 hx (hb hby at_68)  rfl ?_
    obtain ⟨r5, T5, L5, X5, hq5, st5⟩ := o_callS X4 hx hZ hown (hw _ (List.mem_of_getElem? (i := 3) rfl)) (hw _ (List.mem_of_getElem? (i := 4) rfl)) (hw _ (List.mem_of_getElem? (i := 5) rfl)) (hw _ (List.mem_of_getElem? (i := 6) rfl)) (by decide) (rm1 l Z a0 hw ((((x5 >>> (((9 : Int32)).toInt64 &&& 63)) &&& (3 : Int64))).toInt32) r_YEAR_FIRST r_MONTH_FIRST r_OTHER h0 n0 Z0 O0 S_YEAR_FIRST S_MONTH_FIRST S_OTHER) e4 (pc' := 72) (Ls := #[.val (.int x0), .val (.int x1), .val (.int x2), .val (.int x3), .val (.int x4), .val (.long x5), .second, .val (.int ((((x5 &&& (7 : Int64)) % (6 : Int64))).toInt32)), .val (.int v3), .val (.ref (spec1 ((((x5 >>> (((7 : Int32)).toInt64 &&& 63)) &&& (3 : Int64))).toInt32) r_YEAR_FIRST r_MONTH_FIRST r_OTHER)), .unset, .unset, .unset, .unset, .unset, .unset, .unset, .unset, .unset, .unset, .unset, .unset, .unset, .unset, .unset, .unset, .unset, .unset, .unset, .unset]) (by rw [hml]; rfl) [(.int ((((x5 >>> (((9 : Int32)).toInt64 &&& 63)) &&& (3 : Int64))).toInt32))] [] rfl pd2 rfl rfl 0 (Nat.le_of_eq rfl) (hb hby at_69) rfl (by decide) (by decide) (by decide) (by decide)
    obtain ⟨rfl, rfl, Kc5⟩ := hq5
    refine oGo.step (f' := (mkF m 72 #[.val (.int x0), .val (.int x1), .val (.int x2), .val (.int x3), .val (.int x4), .val (.long x5), .second, .val (.int ((((x5 &&& (7 : Int64)) % (6 : Int64))).toInt32)), .val (.int v3), .val (.ref (spec1 ((((x5 >>> (((7 : Int32)).toInt64 &&& 63)) &&& (3 : Int64))).toInt32) r_YEAR_FIRST r_MONTH_FIRST r_OTHER)), .unset, .unset, .unset, .unset, .unset, .unset, .unset, .unset, .unset, .unset, .unset, .unset, .unset, .unset, .unset, .unset, .unset, .unset, .unset, .unset] [(.ref (spec1 ((((x5 >>> (((9 : Int32)).toInt64 &&& 63)) &&& (3 : Int64))).toInt32) r_YEAR_FIRST r_MONTH_FIRST r_OTHER))])) st5 ?_
    have e5 : T5.heap = h0 := Kc5
    have X5 := o_same X5 rfl rfl
    refine o_astore (pc' := 74) (l' := #[.val (.int x0), .val (.int x1), .val (.int x2), .val (.int x3), .val (.int x4), .val (.long x5), .second, .val (.int ((((x5 &&& (7 : Int64)) % (6 : Int64))).toInt32)), .val (.int v3), .val (.ref (spec1 ((((x5 >>> (((7 : Int32)).toInt64 &&& 63)) &&& (3 : Int64))).toInt32) r_YEAR_FIRST r_MONTH_FIRST r_OTHER)), .val (.ref (spec1 ((((x5 >>> (((9 : Int32)).toInt64 &&& 63)) &&& (3 : Int64))).toInt32) r_YEAR_FIRST r_MONTH_FIRST r_OTHER)), .unset, .unset, .unset, .unset, .unset, .unset, .unset, .unset, .unset, .unset, .unset, .unset, .unset, .unset, .unset, .unset, .unset, .unset, .unset]) X5 hx (hb hby at_72) rfl rfl rfl ?_
    refine o_lload (pc' := 76) X5 hx (hb hby at_74) rfl rfl ?_
    refine o_bipush (pc' := 78) (v := (11 : Int32)) X5 hx (hb hby at_76) rfl rfl ?_
    refine o_lshr (pc' := 79) X5 hx (hb hby at_78)  rfl ?_
    refine o_lconst (pc' := 80) (v := (1 : Int64)) X5 hx (hb hby at_79) rfl rfl ?_
    refine o_land (pc' := 81) X5 hx (hb hby at_80)  rfl ?_
    refine o_lconst (pc' := 82) (v := (0 : Int64)) X5 hx (hb hby at_81) rfl rfl ?_
    refine o_lcmp (pc' := 83) X5 hx (hb hby at_82)  rfl ?_
    have J7 : ∀ (v8 : Int32), v8 = (if ((x5 >>> (((11 : Int32)).toInt64 &&& 63)) &&& (1 : Int64)) = (0 : Int64) then (0 : Int32) else (1 : Int32)) → oGo p e below (oG s (fun v h L => v = some (.int 1) ∧ Fr n0 L) room_1.cells room_1.slots) T5 (mkF m 91 #[.val (.int x0), .val (.int x1), .val (.int x2), .val (.int x3), .val (.int x4), .val (.long x5), .second, .val (.int ((((x5 &&& (7 : Int64)) % (6 : Int64))).toInt32)), .val (.int v3), .val (.ref (spec1 ((((x5 >>> (((7 : Int32)).toInt64 &&& 63)) &&& (3 : Int64))).toInt32) r_YEAR_FIRST r_MONTH_FIRST r_OTHER)), .val (.ref (spec1 ((((x5 >>> (((9 : Int32)).toInt64 &&& 63)) &&& (3 : Int64))).toInt32) r_YEAR_FIRST r_MONTH_FIRST r_OTHER)), .unset, .unset, .unset, .unset, .unset, .unset, .unset, .unset, .unset, .unset, .unset, .unset, .unset, .unset, .unset, .unset, .unset, .unset, .unset] [(.int v8)]) := by
      intro v8 hv8
      refine o_istore (pc' := 93) (l' := #[.val (.int x0), .val (.int x1), .val (.int x2), .val (.int x3), .val (.int x4), .val (.long x5), .second, .val (.int ((((x5 &&& (7 : Int64)) % (6 : Int64))).toInt32)), .val (.int v3), .val (.ref (spec1 ((((x5 >>> (((7 : Int32)).toInt64 &&& 63)) &&& (3 : Int64))).toInt32) r_YEAR_FIRST r_MONTH_FIRST r_OTHER)), .val (.ref (spec1 ((((x5 >>> (((9 : Int32)).toInt64 &&& 63)) &&& (3 : Int64))).toInt32) r_YEAR_FIRST r_MONTH_FIRST r_OTHER)), .val (.int v8), .unset, .unset, .unset, .unset, .unset, .unset, .unset, .unset, .unset, .unset, .unset, .unset, .unset, .unset, .unset, .unset, .unset, .unset]) X5 hx (hb hby at_91) rfl rfl ?_
      refine o_lload (pc' := 95) X5 hx (hb hby at_93) rfl rfl ?_
      refine o_bipush (pc' := 97) (v := (12 : Int32)) X5 hx (hb hby at_95) rfl rfl ?_
      refine o_lshr (pc' := 98) X5 hx (hb hby at_97)  rfl ?_
      refine o_lconst (pc' := 99) (v := (1 : Int64)) X5 hx (hb hby at_98) rfl rfl ?_
      refine o_land (pc' := 100) X5 hx (hb hby at_99)  rfl ?_
      refine o_lconst (pc' := 101) (v := (0 : Int64)) X5 hx (hb hby at_100) rfl rfl ?_
      refine o_lcmp (pc' := 102) X5 hx (hb hby at_101)  rfl ?_
      have J10 : ∀ (v11 : Int32), v11 = (if ((x5 >>> (((12 : Int32)).toInt64 &&& 63)) &&& (1 : Int64)) = (0 : Int64) then (0 : Int32) else (1 : Int32)) → oGo p e below (oG s (fun v h L => v = some (.int 1) ∧ Fr n0 L) room_1.cells room_1.slots) T5 (mkF m 110 #[.val (.int x0), .val (.int x1), .val (.int x2), .val (.int x3), .val (.int x4), .val (.long x5), .second, .val (.int ((((x5 &&& (7 : Int64)) % (6 : Int64))).toInt32)), .val (.int v3), .val (.ref (spec1 ((((x5 >>> (((7 : Int32)).toInt64 &&& 63)) &&& (3 : Int64))).toInt32) r_YEAR_FIRST r_MONTH_FIRST r_OTHER)), .val (.ref (spec1 ((((x5 >>> (((9 : Int32)).toInt64 &&& 63)) &&& (3 : Int64))).toInt32) r_YEAR_FIRST r_MONTH_FIRST r_OTHER)), .val (.int v8), .unset, .unset, .unset, .unset, .unset, .unset, .unset, .unset, .unset, .unset, .unset, .unset, .unset, .unset, .unset, .unset, .unset, .unset] [(.int v11)]) := by
        intro v11 hv11
        refine o_istore (pc' := 112) (l' := #[.val (.int x0), .val (.int x1), .val (.int x2), .val (.int x3), .val (.int x4), .val (.long x5), .second, .val (.int ((((x5 &&& (7 : Int64)) % (6 : Int64))).toInt32)), .val (.int v3), .val (.ref (spec1 ((((x5 >>> (((7 : Int32)).toInt64 &&& 63)) &&& (3 : Int64))).toInt32) r_YEAR_FIRST r_MONTH_FIRST r_OTHER)), .val (.ref (spec1 ((((x5 >>> (((9 : Int32)).toInt64 &&& 63)) &&& (3 : Int64))).toInt32) r_YEAR_FIRST r_MONTH_FIRST r_OTHER)), .val (.int v8), .val (.int v11), .unset, .unset, .unset, .unset, .unset, .unset, .unset, .unset, .unset, .unset, .unset, .unset, .unset, .unset, .unset, .unset, .unset]) X5 hx (hb hby at_110) rfl rfl ?_
        refine o_lload (pc' := 114) X5 hx (hb hby at_112) rfl rfl ?_
        refine o_bipush (pc' := 116) (v := (13 : Int32)) X5 hx (hb hby at_114) rfl rfl ?_
        refine o_lshr (pc' := 117) X5 hx (hb hby at_116)  rfl ?_
        refine o_lconst (pc' := 118) (v := (1 : Int64)) X5 hx (hb hby at_117) rfl rfl ?_
        refine o_land (pc' := 119) X5 hx (hb hby at_118)  rfl ?_
        refine o_lconst (pc' := 120) (v := (0 : Int64)) X5 hx (hb hby at_119) rfl rfl ?_
        refine o_lcmp (pc' := 121) X5 hx (hb hby at_120)  rfl ?_
        have J13 : ∀ (v14 : Int32), v14 = (if ((x5 >>> (((13 : Int32)).toInt64 &&& 63)) &&& (1 : Int64)) = (0 : Int64) then x0 else (-1 : Int32)) → oGo p e below (oG s (fun v h L => v = some (.int 1) ∧ Fr n0 L) room_1.cells room_1.slots) T5 (mkF m 129 #[.val (.int x0), .val (.int x1), .val (.int x2), .val (.int x3), .val (.int x4), .val (.long x5), .second, .val (.int ((((x5 &&& (7 : Int64)) % (6 : Int64))).toInt32)), .val (.int v3), .val (.ref (spec1 ((((x5 >>> (((7 : Int32)).toInt64 &&& 63)) &&& (3 : Int64))).toInt32) r_YEAR_FIRST r_MONTH_FIRST r_OTHER)), .val (.ref (spec1 ((((x5 >>> (((9 : Int32)).toInt64 &&& 63)) &&& (3 : Int64))).toInt32) r_YEAR_FIRST r_MONTH_FIRST r_OTHER)), .val (.int v8), .val (.int v11), .unset, .unset, .unset, .unset, .unset, .unset, .unset, .unset, .unset, .unset, .unset, .unset, .unset, .unset, .unset, .unset, .unset] [(.int v14)]) := by
          intro v14 hv14
          refine o_istore (pc' := 131) (l' := #[.val (.int x0), .val (.int x1), .val (.int x2), .val (.int x3), .val (.int x4), .val (.long x5), .second, .val (.int ((((x5 &&& (7 : Int64)) % (6 : Int64))).toInt32)), .val (.int v3), .val (.ref (spec1 ((((x5 >>> (((7 : Int32)).toInt64 &&& 63)) &&& (3 : Int64))).toInt32) r_YEAR_FIRST r_MONTH_FIRST r_OTHER)), .val (.ref (spec1 ((((x5 >>> (((9 : Int32)).toInt64 &&& 63)) &&& (3 : Int64))).toInt32) r_YEAR_FIRST r_MONTH_FIRST r_OTHER)), .val (.int v8), .val (.int v11), .val (.int v14), .unset, .unset, .unset, .unset, .unset, .unset, .unset, .unset, .unset, .unset, .unset, .unset, .unset, .unset, .unset, .unset]) X5 hx (hb hby at_129) rfl rfl ?_
          refine o_lload (pc' := 133) X5 hx (hb hby at_131) rfl rfl ?_
          refine o_bipush (pc' := 135) (v := (14 : Int32)) X5 hx (hb hby at_133) rfl rfl ?_
          refine o_lshr (pc' := 136) X5 hx (hb hby at_135)  rfl ?_
          refine o_lconst (pc' := 137) (v := (1 : Int64)) X5 hx (hb hby at_136) rfl rfl ?_
          refine o_land (pc' := 138) X5 hx (hb hby at_137)  rfl ?_
          refine o_lconst (pc' := 139) (v := (0 : Int64)) X5 hx (hb hby at_138) rfl rfl ?_
          refine o_lcmp (pc' := 140) X5 hx (hb hby at_139)  rfl ?_
          have J16 : ∀ (v17 : Int32), v17 = (if ((x5 >>> (((14 : Int32)).toInt64 &&& 63)) &&& (1 : Int64)) = (0 : Int64) then x1 else (-1 : Int32)) → oGo p e below (oG s (fun v h L => v = some (.int 1) ∧ Fr n0 L) room_1.cells room_1.slots) T5 (mkF m 148 #[.val (.int x0), .val (.int x1), .val (.int x2), .val (.int x3), .val (.int x4), .val (.long x5), .second, .val (.int ((((x5 &&& (7 : Int64)) % (6 : Int64))).toInt32)), .val (.int v3), .val (.ref (spec1 ((((x5 >>> (((7 : Int32)).toInt64 &&& 63)) &&& (3 : Int64))).toInt32) r_YEAR_FIRST r_MONTH_FIRST r_OTHER)), .val (.ref (spec1 ((((x5 >>> (((9 : Int32)).toInt64 &&& 63)) &&& (3 : Int64))).toInt32) r_YEAR_FIRST r_MONTH_FIRST r_OTHER)), .val (.int v8), .val (.int v11), .val (.int v14), .unset, .unset, .unset, .unset, .unset, .unset, .unset, .unset, .unset, .unset, .unset, .unset, .unset, .unset, .unset, .unset] [(.int v17)]) := by
            intro v17 hv17
            refine o_istore (pc' := 150) (l' := #[.val (.int x0), .val (.int x1), .val (.int x2), .val (.int x3), .val (.int x4), .val (.long x5), .second, .val (.int ((((x5 &&& (7 : Int64)) % (6 : Int64))).toInt32)), .val (.int v3), .val (.ref (spec1 ((((x5 >>> (((7 : Int32)).toInt64 &&& 63)) &&& (3 : Int64))).toInt32) r_YEAR_FIRST r_MONTH_FIRST r_OTHER)), .val (.ref (spec1 ((((x5 >>> (((9 : Int32)).toInt64 &&& 63)) &&& (3 : Int64))).toInt32) r_YEAR_FIRST r_MONTH_FIRST r_OTHER)), .val (.int v8), .val (.int v11), .val (.int v14), .val (.int v17), .unset, .unset, .unset, .unset, .unset, .unset, .unset, .unset, .unset, .unset, .unset, .unset, .unset, .unset, .unset]) X5 hx (hb hby at_148) rfl rfl ?_
            refine o_lload (pc' := 152) X5 hx (hb hby at_150) rfl rfl ?_
            refine o_bipush (pc' := 154) (v := (15 : Int32)) X5 hx (hb hby at_152) rfl rfl ?_
            refine o_lshr (pc' := 155) X5 hx (hb hby at_154)  rfl ?_
            refine o_lconst (pc' := 156) (v := (1 : Int64)) X5 hx (hb hby at_155) rfl rfl ?_
            refine o_land (pc' := 157) X5 hx (hb hby at_156)  rfl ?_
            refine o_lconst (pc' := 158) (v := (0 : Int64)) X5 hx (hb hby at_157) rfl rfl ?_
            refine o_lcmp (pc' := 159) X5 hx (hb hby at_158)  rfl ?_
            have J19 : ∀ (v20 : Int32), v20 = (if ((x5 >>> (((15 : Int32)).toInt64 &&& 63)) &&& (1 : Int64)) = (0 : Int64) then x2 else (-1 : Int32)) → oGo p e below (oG s (fun v h L => v = some (.int 1) ∧ Fr n0 L) room_1.cells room_1.slots) T5 (mkF m 167 #[.val (.int x0), .val (.int x1), .val (.int x2), .val (.int x3), .val (.int x4), .val (.long x5), .second, .val (.int ((((x5 &&& (7 : Int64)) % (6 : Int64))).toInt32)), .val (.int v3), .val (.ref (spec1 ((((x5 >>> (((7 : Int32)).toInt64 &&& 63)) &&& (3 : Int64))).toInt32) r_YEAR_FIRST r_MONTH_FIRST r_OTHER)), .val (.ref (spec1 ((((x5 >>> (((9 : Int32)).toInt64 &&& 63)) &&& (3 : Int64))).toInt32) r_YEAR_FIRST r_MONTH_FIRST r_OTHER)), .val (.int v8), .val (.int v11), .val (.int v14), .val (.int v17), .unset, .unset, .unset, .unset, .unset, .unset, .unset, .unset, .unset, .unset, .unset, .unset, .unset, .unset, .unset] [(.int v20)]) := by
              intro v20 hv20
              refine o_istore (pc' := 169) (l' := #[.val (.int x0), .val (.int x1), .val (.int x2), .val (.int x3), .val (.int x4), .val (.long x5), .second, .val (.int ((((x5 &&& (7 : Int64)) % (6 : Int64))).toInt32)), .val (.int v3), .val (.ref (spec1 ((((x5 >>> (((7 : Int32)).toInt64 &&& 63)) &&& (3 : Int64))).toInt32) r_YEAR_FIRST r_MONTH_FIRST r_OTHER)), .val (.ref (spec1 ((((x5 >>> (((9 : Int32)).toInt64 &&& 63)) &&& (3 : Int64))).toInt32) r_YEAR_FIRST r_MONTH_FIRST r_OTHER)), .val (.int v8), .val (.int v11), .val (.int v14), .val (.int v17), .val (.int v20), .unset, .unset, .unset, .unset, .unset, .unset, .unset, .unset, .unset, .unset, .unset, .unset, .unset, .unset]) X5 hx (hb hby at_167) rfl rfl ?_
              refine o_lload (pc' := 171) X5 hx (hb hby at_169) rfl rfl ?_
              refine o_bipush (pc' := 173) (v := (16 : Int32)) X5 hx (hb hby at_171) rfl rfl ?_
              refine o_lshr (pc' := 174) X5 hx (hb hby at_173)  rfl ?_
              refine o_lconst (pc' := 175) (v := (1 : Int64)) X5 hx (hb hby at_174) rfl rfl ?_
              refine o_land (pc' := 176) X5 hx (hb hby at_175)  rfl ?_
              refine o_lconst (pc' := 177) (v := (0 : Int64)) X5 hx (hb hby at_176) rfl rfl ?_
              refine o_lcmp (pc' := 178) X5 hx (hb hby at_177)  rfl ?_
              have J22 : ∀ (v23 : Int32), v23 = (if ((x5 >>> (((16 : Int32)).toInt64 &&& 63)) &&& (1 : Int64)) = (0 : Int64) then x3 else (-1 : Int32)) → oGo p e below (oG s (fun v h L => v = some (.int 1) ∧ Fr n0 L) room_1.cells room_1.slots) T5 (mkF m 186 #[.val (.int x0), .val (.int x1), .val (.int x2), .val (.int x3), .val (.int x4), .val (.long x5), .second, .val (.int ((((x5 &&& (7 : Int64)) % (6 : Int64))).toInt32)), .val (.int v3), .val (.ref (spec1 ((((x5 >>> (((7 : Int32)).toInt64 &&& 63)) &&& (3 : Int64))).toInt32) r_YEAR_FIRST r_MONTH_FIRST r_OTHER)), .val (.ref (spec1 ((((x5 >>> (((9 : Int32)).toInt64 &&& 63)) &&& (3 : Int64))).toInt32) r_YEAR_FIRST r_MONTH_FIRST r_OTHER)), .val (.int v8), .val (.int v11), .val (.int v14), .val (.int v17), .val (.int v20), .unset, .unset, .unset, .unset, .unset, .unset, .unset, .unset, .unset, .unset, .unset, .unset, .unset, .unset] [(.int v23)]) := by
                intro v23 hv23
                refine o_istore (pc' := 188) (l' := #[.val (.int x0), .val (.int x1), .val (.int x2), .val (.int x3), .val (.int x4), .val (.long x5), .second, .val (.int ((((x5 &&& (7 : Int64)) % (6 : Int64))).toInt32)), .val (.int v3), .val (.ref (spec1 ((((x5 >>> (((7 : Int32)).toInt64 &&& 63)) &&& (3 : Int64))).toInt32) r_YEAR_FIRST r_MONTH_FIRST r_OTHER)), .val (.ref (spec1 ((((x5 >>> (((9 : Int32)).toInt64 &&& 63)) &&& (3 : Int64))).toInt32) r_YEAR_FIRST r_MONTH_FIRST r_OTHER)), .val (.int v8), .val (.int v11), .val (.int v14), .val (.int v17), .val (.int v20), .val (.int v23), .unset, .unset, .unset, .unset, .unset, .unset, .unset, .unset, .unset, .unset, .unset, .unset, .unset]) X5 hx (hb hby at_186) rfl rfl ?_
                refine o_lload (pc' := 190) X5 hx (hb hby at_188) rfl rfl ?_
                refine o_bipush (pc' := 192) (v := (17 : Int32)) X5 hx (hb hby at_190) rfl rfl ?_
                refine o_lshr (pc' := 193) X5 hx (hb hby at_192)  rfl ?_
                refine o_lconst (pc' := 194) (v := (1 : Int64)) X5 hx (hb hby at_193) rfl rfl ?_
                refine o_land (pc' := 195) X5 hx (hb hby at_194)  rfl ?_
                refine o_lconst (pc' := 196) (v := (0 : Int64)) X5 hx (hb hby at_195) rfl rfl ?_
                refine o_lcmp (pc' := 197) X5 hx (hb hby at_196)  rfl ?_
                have J25 : ∀ (v26 : Int32), v26 = (if ((x5 >>> (((17 : Int32)).toInt64 &&& 63)) &&& (1 : Int64)) = (0 : Int64) then (0 : Int32) else (1 : Int32)) → oGo p e below (oG s (fun v h L => v = some (.int 1) ∧ Fr n0 L) room_1.cells room_1.slots) T5 (mkF m 205 #[.val (.int x0), .val (.int x1), .val (.int x2), .val (.int x3), .val (.int x4), .val (.long x5), .second, .val (.int ((((x5 &&& (7 : Int64)) % (6 : Int64))).toInt32)), .val (.int v3), .val (.ref (spec1 ((((x5 >>> (((7 : Int32)).toInt64 &&& 63)) &&& (3 : Int64))).toInt32) r_YEAR_FIRST r_MONTH_FIRST r_OTHER)), .val (.ref (spec1 ((((x5 >>> (((9 : Int32)).toInt64 &&& 63)) &&& (3 : Int64))).toInt32) r_YEAR_FIRST r_MONTH_FIRST r_OTHER)), .val (.int v8), .val (.int v11), .val (.int v14), .val (.int v17), .val (.int v20), .val (.int v23), .unset, .unset, .unset, .unset, .unset, .unset, .unset, .unset, .unset, .unset, .unset, .unset, .unset] [(.int v26)]) := by
                  intro v26 hv26
                  refine o_istore (pc' := 207) (l' := #[.val (.int x0), .val (.int x1), .val (.int x2), .val (.int x3), .val (.int x4), .val (.long x5), .second, .val (.int ((((x5 &&& (7 : Int64)) % (6 : Int64))).toInt32)), .val (.int v3), .val (.ref (spec1 ((((x5 >>> (((7 : Int32)).toInt64 &&& 63)) &&& (3 : Int64))).toInt32) r_YEAR_FIRST r_MONTH_FIRST r_OTHER)), .val (.ref (spec1 ((((x5 >>> (((9 : Int32)).toInt64 &&& 63)) &&& (3 : Int64))).toInt32) r_YEAR_FIRST r_MONTH_FIRST r_OTHER)), .val (.int v8), .val (.int v11), .val (.int v14), .val (.int v17), .val (.int v20), .val (.int v23), .val (.int v26), .unset, .unset, .unset, .unset, .unset, .unset, .unset, .unset, .unset, .unset, .unset, .unset]) X5 hx (hb hby at_205) rfl rfl ?_
                  refine o_lload (pc' := 209) X5 hx (hb hby at_207) rfl rfl ?_
                  refine o_bipush (pc' := 211) (v := (18 : Int32)) X5 hx (hb hby at_209) rfl rfl ?_
                  refine o_lshr (pc' := 212) X5 hx (hb hby at_211)  rfl ?_
                  refine o_lconst (pc' := 213) (v := (1 : Int64)) X5 hx (hb hby at_212) rfl rfl ?_
                  refine o_land (pc' := 214) X5 hx (hb hby at_213)  rfl ?_
                  refine o_lconst (pc' := 215) (v := (0 : Int64)) X5 hx (hb hby at_214) rfl rfl ?_
                  refine o_lcmp (pc' := 216) X5 hx (hb hby at_215)  rfl ?_
                  have J28 : ∀ (v29 : Int32), v29 = (if ((x5 >>> (((18 : Int32)).toInt64 &&& 63)) &&& (1 : Int64)) = (0 : Int64) then (0 : Int32) else (1 : Int32)) → oGo p e below (oG s (fun v h L => v = some (.int 1) ∧ Fr n0 L) room_1.cells room_1.slots) T5 (mkF m 224 #[.val (.int x0), .val (.int x1), .val (.int x2), .val (.int x3), .val (.int x4), .val (.long x5), .second, .val (.int ((((x5 &&& (7 : Int64)) % (6 : Int64))).toInt32)), .val (.int v3), .val (.ref (spec1 ((((x5 >>> (((7 : Int32)).toInt64 &&& 63)) &&& (3 : Int64))).toInt32) r_YEAR_FIRST r_MONTH_FIRST r_OTHER)), .val (.ref (spec1 ((((x5 >>> (((9 : Int32)).toInt64 &&& 63)) &&& (3 : Int64))).toInt32) r_YEAR_FIRST r_MONTH_FIRST r_OTHER)), .val (.int v8), .val (.int v11), .val (.int v14), .val (.int v17), .val (.int v20), .val (.int v23), .val (.int v26), .unset, .unset, .unset, .unset, .unset, .unset, .unset, .unset, .unset, .unset, .unset, .unset] [(.int v29)]) := by
                    intro v29 hv29
                    refine o_istore (pc' := 226) (l' := #[.val (.int x0), .val (.int x1), .val (.int x2), .val (.int x3), .val (.int x4), .val (.long x5), .second, .val (.int ((((x5 &&& (7 : Int64)) % (6 : Int64))).toInt32)), .val (.int v3), .val (.ref (spec1 ((((x5 >>> (((7 : Int32)).toInt64 &&& 63)) &&& (3 : Int64))).toInt32) r_YEAR_FIRST r_MONTH_FIRST r_OTHER)), .val (.ref (spec1 ((((x5 >>> (((9 : Int32)).toInt64 &&& 63)) &&& (3 : Int64))).toInt32) r_YEAR_FIRST r_MONTH_FIRST r_OTHER)), .val (.int v8), .val (.int v11), .val (.int v14), .val (.int v17), .val (.int v20), .val (.int v23), .val (.int v26), .val (.int v29), .unset, .unset, .unset, .unset, .unset, .unset, .unset, .unset, .unset, .unset, .unset]) X5 hx (hb hby at_224) rfl rfl ?_
                    refine o_lload (pc' := 228) X5 hx (hb hby at_226) rfl rfl ?_
                    refine o_bipush (pc' := 230) (v := (19 : Int32)) X5 hx (hb hby at_228) rfl rfl ?_
                    refine o_lshr (pc' := 231) X5 hx (hb hby at_230)  rfl ?_
                    refine o_lconst (pc' := 232) (v := (1 : Int64)) X5 hx (hb hby at_231) rfl rfl ?_
                    refine o_land (pc' := 233) X5 hx (hb hby at_232)  rfl ?_
                    refine o_lconst (pc' := 234) (v := (0 : Int64)) X5 hx (hb hby at_233) rfl rfl ?_
                    refine o_lcmp (pc' := 235) X5 hx (hb hby at_234)  rfl ?_
                    have J31 : ∀ (v32 : Int32), v32 = (if ((x5 >>> (((19 : Int32)).toInt64 &&& 63)) &&& (1 : Int64)) = (0 : Int64) then (0 : Int32) else (1 : Int32)) → oGo p e below (oG s (fun v h L => v = some (.int 1) ∧ Fr n0 L) room_1.cells room_1.slots) T5 (mkF m 243 #[.val (.int x0), .val (.int x1), .val (.int x2), .val (.int x3), .val (.int x4), .val (.long x5), .second, .val (.int ((((x5 &&& (7 : Int64)) % (6 : Int64))).toInt32)), .val (.int v3), .val (.ref (spec1 ((((x5 >>> (((7 : Int32)).toInt64 &&& 63)) &&& (3 : Int64))).toInt32) r_YEAR_FIRST r_MONTH_FIRST r_OTHER)), .val (.ref (spec1 ((((x5 >>> (((9 : Int32)).toInt64 &&& 63)) &&& (3 : Int64))).toInt32) r_YEAR_FIRST r_MONTH_FIRST r_OTHER)), .val (.int v8), .val (.int v11), .val (.int v14), .val (.int v17), .val (.int v20), .val (.int v23), .val (.int v26), .val (.int v29), .unset, .unset, .unset, .unset, .unset, .unset, .unset, .unset, .unset, .unset, .unset] [(.int v32)]) := by
                      intro v32 hv32
                      refine o_istore (pc' := 245) (l' := #[.val (.int x0), .val (.int x1), .val (.int x2), .val (.int x3), .val (.int x4), .val (.long x5), .second, .val (.int ((((x5 &&& (7 : Int64)) % (6 : Int64))).toInt32)), .val (.int v3), .val (.ref (spec1 ((((x5 >>> (((7 : Int32)).toInt64 &&& 63)) &&& (3 : Int64))).toInt32) r_YEAR_FIRST r_MONTH_FIRST r_OTHER)), .val (.ref (spec1 ((((x5 >>> (((9 : Int32)).toInt64 &&& 63)) &&& (3 : Int64))).toInt32) r_YEAR_FIRST r_MONTH_FIRST r_OTHER)), .val (.int v8), .val (.int v11), .val (.int v14), .val (.int v17), .val (.int v20), .val (.int v23), .val (.int v26), .val (.int v29), .val (.int v32), .unset, .unset, .unset, .unset, .unset, .unset, .unset, .unset, .unset, .unset]) X5 hx (hb hby at_243) rfl rfl ?_
                      refine o_lload (pc' := 247) X5 hx (hb hby at_245) rfl rfl ?_
                      refine o_bipush (pc' := 249) (v := (20 : Int32)) X5 hx (hb hby at_247) rfl rfl ?_
                      refine o_lshr (pc' := 250) X5 hx (hb hby at_249)  rfl ?_
                      refine o_lconst (pc' := 251) (v := (1 : Int64)) X5 hx (hb hby at_250) rfl rfl ?_
                      refine o_land (pc' := 252) X5 hx (hb hby at_251)  rfl ?_
                      refine o_lconst (pc' := 253) (v := (0 : Int64)) X5 hx (hb hby at_252) rfl rfl ?_
                      refine o_lcmp (pc' := 254) X5 hx (hb hby at_253)  rfl ?_
                      have J34 : ∀ (v35 : Int32), v35 = (if ((x5 >>> (((20 : Int32)).toInt64 &&& 63)) &&& (1 : Int64)) = (0 : Int64) then (0 : Int32) else (1 : Int32)) → oGo p e below (oG s (fun v h L => v = some (.int 1) ∧ Fr n0 L) room_1.cells room_1.slots) T5 (mkF m 262 #[.val (.int x0), .val (.int x1), .val (.int x2), .val (.int x3), .val (.int x4), .val (.long x5), .second, .val (.int ((((x5 &&& (7 : Int64)) % (6 : Int64))).toInt32)), .val (.int v3), .val (.ref (spec1 ((((x5 >>> (((7 : Int32)).toInt64 &&& 63)) &&& (3 : Int64))).toInt32) r_YEAR_FIRST r_MONTH_FIRST r_OTHER)), .val (.ref (spec1 ((((x5 >>> (((9 : Int32)).toInt64 &&& 63)) &&& (3 : Int64))).toInt32) r_YEAR_FIRST r_MONTH_FIRST r_OTHER)), .val (.int v8), .val (.int v11), .val (.int v14), .val (.int v17), .val (.int v20), .val (.int v23), .val (.int v26), .val (.int v29), .val (.int v32), .unset, .unset, .unset, .unset, .unset, .unset, .unset, .unset, .unset, .unset] [(.int v35)]) := by
                        intro v35 hv35
                        refine o_istore (pc' := 264) (l' := #[.val (.int x0), .val (.int x1), .val (.int x2), .val (.int x3), .val (.int x4), .val (.long x5), .second, .val (.int ((((x5 &&& (7 : Int64)) % (6 : Int64))).toInt32)), .val (.int v3), .val (.ref (spec1 ((((x5 >>> (((7 : Int32)).toInt64 &&& 63)) &&& (3 : Int64))).toInt32) r_YEAR_FIRST r_MONTH_FIRST r_OTHER)), .val (.ref (spec1 ((((x5 >>> (((9 : Int32)).toInt64 &&& 63)) &&& (3 : Int64))).toInt32) r_YEAR_FIRST r_MONTH_FIRST r_OTHER)), .val (.int v8), .val (.int v11), .val (.int v14), .val (.int v17), .val (.int v20), .val (.int v23), .val (.int v26), .val (.int v29), .val (.int v32), .val (.int v35), .unset, .unset, .unset, .unset, .unset, .unset, .unset, .unset, .unset]) X5 hx (hb hby at_262) rfl rfl ?_
                        refine o_lload (pc' := 266) X5 hx (hb hby at_264) rfl rfl ?_
                        refine o_bipush (pc' := 268) (v := (21 : Int32)) X5 hx (hb hby at_266) rfl rfl ?_
                        refine o_lshr (pc' := 269) X5 hx (hb hby at_268)  rfl ?_
                        refine o_l2i (pc' := 270) X5 hx (hb hby at_269)  rfl ?_
                        refine o_istore (pc' := 272) (l' := #[.val (.int x0), .val (.int x1), .val (.int x2), .val (.int x3), .val (.int x4), .val (.long x5), .second, .val (.int ((((x5 &&& (7 : Int64)) % (6 : Int64))).toInt32)), .val (.int v3), .val (.ref (spec1 ((((x5 >>> (((7 : Int32)).toInt64 &&& 63)) &&& (3 : Int64))).toInt32) r_YEAR_FIRST r_MONTH_FIRST r_OTHER)), .val (.ref (spec1 ((((x5 >>> (((9 : Int32)).toInt64 &&& 63)) &&& (3 : Int64))).toInt32) r_YEAR_FIRST r_MONTH_FIRST r_OTHER)), .val (.int v8), .val (.int v11), .val (.int v14), .val (.int v17), .val (.int v20), .val (.int v23), .val (.int v26), .val (.int v29), .val (.int v32), .val (.int v35), .val (.int (((x5 >>> (((21 : Int32)).toInt64 &&& 63))).toInt32)), .unset, .unset, .unset, .unset, .unset, .unset, .unset, .unset]) X5 hx (hb hby at_270) rfl rfl ?_
                        refine o_lload (pc' := 274) X5 hx (hb hby at_272) rfl rfl ?_
                        refine o_bipush (pc' := 276) (v := (26 : Int32)) X5 hx (hb hby at_274) rfl rfl ?_
                        refine o_lshr (pc' := 277) X5 hx (hb hby at_276)  rfl ?_
                        refine o_l2i (pc' := 278) X5 hx (hb hby at_277)  rfl ?_
                        refine o_istore (pc' := 280) (l' := #[.val (.int x0), .val (.int x1), .val (.int x2), .val (.int x3), .val (.int x4), .val (.long x5), .second, .val (.int ((((x5 &&& (7 : Int64)) % (6 : Int64))).toInt32)), .val (.int v3), .val (.ref (spec1 ((((x5 >>> (((7 : Int32)).toInt64 &&& 63)) &&& (3 : Int64))).toInt32) r_YEAR_FIRST r_MONTH_FIRST r_OTHER)), .val (.ref (spec1 ((((x5 >>> (((9 : Int32)).toInt64 &&& 63)) &&& (3 : Int64))).toInt32) r_YEAR_FIRST r_MONTH_FIRST r_OTHER)), .val (.int v8), .val (.int v11), .val (.int v14), .val (.int v17), .val (.int v20), .val (.int v23), .val (.int v26), .val (.int v29), .val (.int v32), .val (.int v35), .val (.int (((x5 >>> (((21 : Int32)).toInt64 &&& 63))).toInt32)), .val (.int (((x5 >>> (((26 : Int32)).toInt64 &&& 63))).toInt32)), .unset, .unset, .unset, .unset, .unset, .unset, .unset]) X5 hx (hb hby at_278) rfl rfl ?_
                        refine o_iload (pc' := 282) X5 hx (hb hby at_280) rfl rfl ?_
                        have J37 : ∀ (v38 : Int32), v38 = (if v8 = 0 then x4 else (1 : Int32)) → oGo p e below (oG s (fun v h L => v = some (.int 1) ∧ Fr n0 L) room_1.cells room_1.slots) T5 (mkF m 291 #[.val (.int x0), .val (.int x1), .val (.int x2), .val (.int x3), .val (.int x4), .val (.long x5), .second, .val (.int ((((x5 &&& (7 : Int64)) % (6 : Int64))).toInt32)), .val (.int v3), .val (.ref (spec1 ((((x5 >>> (((7 : Int32)).toInt64 &&& 63)) &&& (3 : Int64))).toInt32) r_YEAR_FIRST r_MONTH_FIRST r_OTHER)), .val (.ref (spec1 ((((x5 >>> (((9 : Int32)).toInt64 &&& 63)) &&& (3 : Int64))).toInt32) r_YEAR_FIRST r_MONTH_FIRST r_OTHER)), .val (.int v8), .val (.int v11), .val (.int v14), .val (.int v17), .val (.int v20), .val (.int v23), .val (.int v26), .val (.int v29), .val (.int v32), .val (.int v35), .val (.int (((x5 >>> (((21 : Int32)).toInt64 &&& 63))).toInt32)), .val (.int (((x5 >>> (((26 : Int32)).toInt64 &&& 63))).toInt32)), .unset, .unset, .unset, .unset, .unset, .unset, .unset] [(.int v38)]) := by
                          intro v38 hv38
                          refine o_istore (pc' := 293) (l' := #[.val (.int x0), .val (.int x1), .val (.int x2), .val (.int x3), .val (.int x4), .val (.long x5), .second, .val (.int ((((x5 &&& (7 : Int64)) % (6 : Int64))).toInt32)), .val (.int v3), .val (.ref (spec1 ((((x5 >>> (((7 : Int32)).toInt64 &&& 63)) &&& (3 : Int64))).toInt32) r_YEAR_FIRST r_MONTH_FIRST r_OTHER)), .val (.ref (spec1 ((((x5 >>> (((9 : Int32)).toInt64 &&& 63)) &&& (3 : Int64))).toInt32) r_YEAR_FIRST r_MONTH_FIRST r_OTHER)), .val (.int v8), .val (.int v11), .val (.int v14), .val (.int v17), .val (.int v20), .val (.int v23), .val (.int v26), .val (.int v29), .val (.int v32), .val (.int v35), .val (.int (((x5 >>> (((21 : Int32)).toInt64 &&& 63))).toInt32)), .val (.int (((x5 >>> (((26 : Int32)).toInt64 &&& 63))).toInt32)), .val (.int v38), .unset, .unset, .unset, .unset, .unset, .unset]) X5 hx (hb hby at_291) rfl rfl ?_
                          refine o_iload (pc' := 295) X5 hx (hb hby at_293) rfl rfl ?_
                          have J40 : ∀ (v41 : Int32), v41 = (if v11 = 0 then (((x5 >>> (((32 : Int32)).toInt64 &&& 63))).toInt32) else v38) → oGo p e below (oG s (fun v h L => v = some (.int 1) ∧ Fr n0 L) room_1.cells room_1.slots) T5 (mkF m 309 #[.val (.int x0), .val (.int x1), .val (.int x2), .val (.int x3), .val (.int x4), .val (.long x5), .second, .val (.int ((((x5 &&& (7 : Int64)) % (6 : Int64))).toInt32)), .val (.int v3), .val (.ref (spec1 ((((x5 >>> (((7 : Int32)).toInt64 &&& 63)) &&& (3 : Int64))).toInt32) r_YEAR_FIRST r_MONTH_FIRST r_OTHER)), .val (.ref (spec1 ((((x5 >>> (((9 : Int32)).toInt64 &&& 63)) &&& (3 : Int64))).toInt32) r_YEAR_FIRST r_MONTH_FIRST r_OTHER)), .val (.int v8), .val (.int v11), .val (.int v14), .val (.int v17), .val (.int v20), .val (.int v23), .val (.int v26), .val (.int v29), .val (.int v32), .val (.int v35), .val (.int (((x5 >>> (((21 : Int32)).toInt64 &&& 63))).toInt32)), .val (.int (((x5 >>> (((26 : Int32)).toInt64 &&& 63))).toInt32)), .val (.int v38), .unset, .unset, .unset, .unset, .unset, .unset] [(.int v41)]) := by
                            intro v41 hv41
                            refine o_istore (pc' := 311) (l' := #[.val (.int x0), .val (.int x1), .val (.int x2), .val (.int x3), .val (.int x4), .val (.long x5), .second, .val (.int ((((x5 &&& (7 : Int64)) % (6 : Int64))).toInt32)), .val (.int v3), .val (.ref (spec1 ((((x5 >>> (((7 : Int32)).toInt64 &&& 63)) &&& (3 : Int64))).toInt32) r_YEAR_FIRST r_MONTH_FIRST r_OTHER)), .val (.ref (spec1 ((((x5 >>> (((9 : Int32)).toInt64 &&& 63)) &&& (3 : Int64))).toInt32) r_YEAR_FIRST r_MONTH_FIRST r_OTHER)), .val (.int v8), .val (.int v11), .val (.int v14), .val (.int v17), .val (.int v20), .val (.int v23), .val (.int v26), .val (.int v29), .val (.int v32), .val (.int v35), .val (.int (((x5 >>> (((21 : Int32)).toInt64 &&& 63))).toInt32)), .val (.int (((x5 >>> (((26 : Int32)).toInt64 &&& 63))).toInt32)), .val (.int v38), .val (.int v41), .unset, .unset, .unset, .unset, .unset]) X5 hx (hb hby at_309) rfl rfl ?_
                            refine o_iload (pc' := 313) X5 hx (hb hby at_311) rfl rfl ?_
                            by_cases c42 : v8 = 0
                            · refine o_ifT (pc' := 339) X5 hx (hb hby at_313) (XT.i0_eq_t c42) (by decide) (by decide) ?_
                              obtain ⟨T43, h43_, X43, e43, E43, A43, D43, -, st43⟩ := newO X5 hx hZ hown (hw _ (List.mem_of_getElem? (i := 10) rfl)) (hw _ (List.mem_of_getElem? (i := 11) rfl)) (hw _ (List.mem_of_getElem? (i := 12) rfl)) e5 (g := (mkF m 339 #[.val (.int x0), .val (.int x1), .val (.int x2), .val (.int x3), .val (.int x4), .val (.long x5), .second, .val (.int ((((x5 &&& (7 : Int64)) % (6 : Int64))).toInt32)), .val (.int v3), .val (.ref (spec1 ((((x5 >>> (((7 : Int32)).toInt64 &&& 63)) &&& (3 : Int64))).toInt32) r_YEAR_FIRST r_MONTH_FIRST r_OTHER)), .val (.ref (spec1 ((((x5 >>> (((9 : Int32)).toInt64 &&& 63)) &&& (3 : Int64))).toInt32) r_YEAR_FIRST r_MONTH_FIRST r_OTHER)), .val (.int v8), .val (.int v11), .val (.int v14), .val (.int v17), .val (.int v20), .val (.int v23), .val (.int v26), .val (.int v29), .val (.int v32), .val (.int v35), .val (.int (((x5 >>> (((21 : Int32)).toInt64 &&& 63))).toInt32)), .val (.int (((x5 >>> (((26 : Int32)).toInt64 &&& 63))).toInt32)), .val (.int v38), .val (.int v41), .unset, .unset, .unset, .unset, .unset] [])) rfl (hb hby at_339) (by decide) (by decide)
                              obtain ⟨b43, g43⟩ : ∃ z, z = h0.size := ⟨_, rfl⟩
                              rw [← g43] at A43 D43 st43
                              have ge44 : n0 ≤ b43 := by rw [g43]; exact Z0
                              have K45 := (Keep.refl h0 []).ext E43
                              have F55 := O0.keep K45 all0
                              have Z56 := Nat.le_trans Z0 K45.1
                              have F57 : Fld Z h43_ b43 "org/kalends/expressions/WrittenDate" "year" "I" (.int (0 : Int32)) := D43 (Or.inr (hw _ (List.mem_of_getElem? (i := 31) rfl))) (ty := .int) (by decide)
                              have F58 : Fld Z h43_ b43 "org/kalends/expressions/WrittenDate" "month" "I" (.int (0 : Int32)) := D43 (Or.inr (hw _ (List.mem_of_getElem? (i := 33) rfl))) (ty := .int) (by decide)
                              have F59 : Fld Z h43_ b43 "org/kalends/expressions/WrittenDate" "day" "I" (.int (0 : Int32)) := D43 (Or.inr (hw _ (List.mem_of_getElem? (i := 35) rfl))) (ty := .int) (by decide)
                              have F60 : Fld Z h43_ b43 "org/kalends/expressions/WrittenDate" "length" "I" (.int (0 : Int32)) := D43 (Or.inr (hw _ (List.mem_of_getElem? (i := 37) rfl))) (ty := .int) (by decide)
                              have F61 : Fld Z h43_ b43 "org/kalends/expressions/WrittenDate" "order" "Lorg/kalends/expressions/WrittenDate$Order;" .null := D43 (Or.inr (hw _ (List.mem_of_getElem? (i := 39) rfl))) (ty := (.object "org/kalends/expressions/WrittenDate$Order")) (by decide)
                              have F62 : Fld Z h43_ b43 "org/kalends/expressions/WrittenDate" "weekday" "Ljava/time/DayOfWeek;" .null := D43 (Or.inr (hw _ (List.mem_of_getElem? (i := 41) rfl))) (ty := (.object "java/time/DayOfWeek")) (by decide)
                              have F63 : Fld Z h43_ b43 "org/kalends/expressions/WrittenDate" "mayBeDecade" "Z" (.int (0 : Int32)) := D43 (Or.inr (hw _ (List.mem_of_getElem? (i := 43) rfl))) (ty := .boolean) (by decide)
                              have F64 : Fld Z h43_ b43 "org/kalends/expressions/WrittenDate" "calendar" "Lorg/kalends/calendars/Calendar;" .null := D43 (Or.inr (hw _ (List.mem_of_getElem? (i := 45) rfl))) (ty := (.object "org/kalends/calendars/Calendar")) (by decide)
                              have F65 : Fld Z h43_ b43 "org/kalends/expressions/WrittenDate" "namesCalendar" "Z" (.int (0 : Int32)) := D43 (Or.inr (hw _ (List.mem_of_getElem? (i := 47) rfl))) (ty := .boolean) (by decide)
                              refine oGo.step (f' := (mkF m 342 #[.val (.int x0), .val (.int x1), .val (.int x2), .val (.int x3), .val (.int x4), .val (.long x5), .second, .val (.int ((((x5 &&& (7 : Int64)) % (6 : Int64))).toInt32)), .val (.int v3), .val (.ref (spec1 ((((x5 >>> (((7 : Int32)).toInt64 &&& 63)) &&& (3 : Int64))).toInt32) r_YEAR_FIRST r_MONTH_FIRST r_OTHER)), .val (.ref (spec1 ((((x5 >>> (((9 : Int32)).toInt64 &&& 63)) &&& (3 : Int64))).toInt32) r_YEAR_FIRST r_MONTH_FIRST r_OTHER)), .val (.int v8), .val (.int v11), .val (.int v14), .val (.int v17), .val (.int v20), .val (.int v23), .val (.int v26), .val (.int v29), .val (.int v32), .val (.int v35), .val (.int (((x5 >>> (((21 : Int32)).toInt64 &&& 63))).toInt32)), .val (.int (((x5 >>> (((26 : Int32)).toInt64 &&& 63))).toInt32)), .val (.int v38), .val (.int v41), .unset, .unset, .unset, .unset, .unset] [(.ref b43)])) st43 ?_
                              refine o_dup (pc' := 343) X43 hx (hb hby at_342) rfl rfl ?_
                              refine o_iload (pc' := 345) X43 hx (hb hby at_343) rfl rfl ?_
                              refine o_iload (pc' := 347) X43 hx (hb hby at_345) rfl rfl ?_
                              refine o_iload (pc' := 349) X43 hx (hb hby at_347) rfl rfl ?_
                              refine o_iload (pc' := 351) X43 hx (hb hby at_349) rfl rfl ?_
                              refine o_aload (pc' := 353) X43 hx (hb hby at_351) rfl rfl rfl ?_
                              refine o_anull (pc' := 354) X43 hx (hb hby at_353)  rfl ?_
                              refine o_iload (pc' := 356) X43 hx (hb hby at_354) rfl rfl ?_
                              refine o_iload (pc' := 358) X43 hx (hb hby at_356) rfl rfl ?_
                              obtain ⟨r66, T66, L66, X66, hq66, st66⟩ := o_callS X43 hx hZ hown (hw _ (List.mem_of_getElem? (i := 13) rfl)) (hw _ (List.mem_of_getElem? (i := 14) rfl)) (hw _ (List.mem_of_getElem? (i := 5) rfl)) (hw _ (List.mem_of_getElem? (i := 15) rfl)) (by decide) (rm2 l Z a0 hw ((((x5 &&& (7 : Int64)) % (6 : Int64))).toInt32) r_GREGORIAN r_JULIAN r_JULIAN_ANNUNCIATION r_JULIAN_NATAL r_FRENCH_REPUBLICAN r_HIJRI h43_ n0 Z56 F55 S_GREGORIAN S_JULIAN S_JULIAN_ANNUNCIATION S_JULIAN_NATAL S_FRENCH_REPUBLICAN S_HIJRI) e43 (pc' := 361) (Ls := #[.val (.int x0), .val (.int x1), .val (.int x2), .val (.int x3), .val (.int x4), .val (.long x5), .second, .val (.int ((((x5 &&& (7 : Int64)) % (6 : Int64))).toInt32)), .val (.int v3), .val (.ref (spec1 ((((x5 >>> (((7 : Int32)).toInt64 &&& 63)) &&& (3 : Int64))).toInt32) r_YEAR_FIRST r_MONTH_FIRST r_OTHER)), .val (.ref (spec1 ((((x5 >>> (((9 : Int32)).toInt64 &&& 63)) &&& (3 : Int64))).toInt32) r_YEAR_FIRST r_MONTH_FIRST r_OTHER)), .val (.int v8), .val (.int v11), .val (.int v14), .val (.int v17), .val (.int v20), .val (.int v23), .val (.int v26), .val (.int v29), .val (.int v32), .val (.int v35), .val (.int (((x5 >>> (((21 : Int32)).toInt64 &&& 63))).toInt32)), .val (.int (((x5 >>> (((26 : Int32)).toInt64 &&& 63))).toInt32)), .val (.int v38), .val (.int v41), .unset, .unset, .unset, .unset, .unset]) (by rw [hml]; rfl) [(.int ((((x5 &&& (7 : Int64)) % (6 : Int64))).toInt32))] [(.int v26), .null, (.ref (spec1 ((((x5 >>> (((7 : Int32)).toInt64 &&& 63)) &&& (3 : Int64))).toInt32) r_YEAR_FIRST r_MONTH_FIRST r_OTHER)), (.int v38), (.int v14), (.int v17), (.int (((x5 >>> (((21 : Int32)).toInt64 &&& 63))).toInt32)), (.ref b43), (.ref b43)] rfl pd3 rfl rfl 9 (Nat.le_of_eq rfl) (hb hby at_358) rfl (by decide) (by decide) (by decide) (by decide)
                              obtain ⟨rfl, rfl, Kc66⟩ := hq66
                              refine oGo.step (f' := (mkF m 361 #[.val (.int x0), .val (.int x1), .val (.int x2), .val (.int x3), .val (.int x4), .val (.long x5), .second, .val (.int ((((x5 &&& (7 : Int64)) % (6 : Int64))).toInt32)), .val (.int v3), .val (.ref (spec1 ((((x5 >>> (((7 : Int32)).toInt64 &&& 63)) &&& (3 : Int64))).toInt32) r_YEAR_FIRST r_MONTH_FIRST r_OTHER)), .val (.ref (spec1 ((((x5 >>> (((9 : Int32)).toInt64 &&& 63)) &&& (3 : Int64))).toInt32) r_YEAR_FIRST r_MONTH_FIRST r_OTHER)), .val (.int v8), .val (.int v11), .val (.int v14), .val (.int v17), .val (.int v20), .val (.int v23), .val (.int v26), .val (.int v29), .val (.int v32), .val (.int v35), .val (.int (((x5 >>> (((21 : Int32)).toInt64 &&& 63))).toInt32)), .val (.int (((x5 >>> (((26 : Int32)).toInt64 &&& 63))).toInt32)), .val (.int v38), .val (.int v41), .unset, .unset, .unset, .unset, .unset] [(.ref (spec2 ((((x5 &&& (7 : Int64)) % (6 : Int64))).toInt32) r_GREGORIAN r_JULIAN r_JULIAN_ANNUNCIATION r_JULIAN_NATAL r_FRENCH_REPUBLICAN r_HIJRI)), (.int v26), .null, (.ref (spec1 ((((x5 >>> (((7 : Int32)).toInt64 &&& 63)) &&& (3 : Int64))).toInt32) r_YEAR_FIRST r_MONTH_FIRST r_OTHER)), (.int v38), (.int v14), (.int v17), (.int (((x5 >>> (((21 : Int32)).toInt64 &&& 63))).toInt32)), (.ref b43), (.ref b43)])) st66 ?_
                              have e66 : T66.heap = h43_ := Kc66
                              have X66 := o_same X66 rfl rfl
                              refine o_iload (pc' := 363) X66 hx (hb hby at_361) rfl rfl ?_
                              obtain ⟨r67, T67, L67, X67, hq67, st67⟩ := o_callN X66 hx hZ hown rfl (hw _ (List.mem_of_getElem? (i := 19) rfl)) (hw _ (List.mem_of_getElem? (i := 20) rfl)) (hw _ (List.mem_of_getElem? (i := 12) rfl)) (hw _ (List.mem_of_getElem? (i := 21) rfl)) (by decide) (rm3 l Z a0 hw b43 (((x5 >>> (((21 : Int32)).toInt64 &&& 63))).toInt32) v17 v14 v38 (spec1 ((((x5 >>> (((7 : Int32)).toInt64 &&& 63)) &&& (3 : Int64))).toInt32) r_YEAR_FIRST r_MONTH_FIRST r_OTHER) v26 (spec2 ((((x5 &&& (7 : Int64)) % (6 : Int64))).toInt32) r_GREGORIAN r_JULIAN r_JULIAN_ANNUNCIATION r_JULIAN_NATAL r_FRENCH_REPUBLICAN r_HIJRI) v29 (0 : Int32) (0 : Int32) (0 : Int32) (0 : Int32) (0 : Int32) (0 : Int32) h43_ n0 Z56 A43 F57 F58 F59 F60 F61 F62 F63 F64 F65 ge44 (by rw [hv26]; split <;> simp) (by rw [hv29]; split <;> simp)) e66 (pc' := 366) (Ls := #[.val (.int x0), .val (.int x1), .val (.int x2), .val (.int x3), .val (.int x4), .val (.long x5), .second, .val (.int ((((x5 &&& (7 : Int64)) % (6 : Int64))).toInt32)), .val (.int v3), .val (.ref (spec1 ((((x5 >>> (((7 : Int32)).toInt64 &&& 63)) &&& (3 : Int64))).toInt32) r_YEAR_FIRST r_MONTH_FIRST r_OTHER)), .val (.ref (spec1 ((((x5 >>> (((9 : Int32)).toInt64 &&& 63)) &&& (3 : Int64))).toInt32) r_YEAR_FIRST r_MONTH_FIRST r_OTHER)), .val (.int v8), .val (.int v11), .val (.int v14), .val (.int v17), .val (.int v20), .val (.int v23), .val (.int v26), .val (.int v29), .val (.int v32), .val (.int v35), .val (.int (((x5 >>> (((21 : Int32)).toInt64 &&& 63))).toInt32)), .val (.int (((x5 >>> (((26 : Int32)).toInt64 &&& 63))).toInt32)), .val (.int v38), .val (.int v41), .unset, .unset, .unset, .unset, .unset]) (by rw [hml]; rfl) [(.int (((x5 >>> (((21 : Int32)).toInt64 &&& 63))).toInt32)), (.int v17), (.int v14), (.int v38), (.ref (spec1 ((((x5 >>> (((7 : Int32)).toInt64 &&& 63)) &&& (3 : Int64))).toInt32) r_YEAR_FIRST r_MONTH_FIRST r_OTHER)), .null, (.int v26), (.ref (spec2 ((((x5 &&& (7 : Int64)) % (6 : Int64))).toInt32) r_GREGORIAN r_JULIAN r_JULIAN_ANNUNCIATION r_JULIAN_NATAL r_FRENCH_REPUBLICAN r_HIJRI)), (.int v29)] [(.ref b43)] rfl pd1 rfl rfl 1 (Nat.le_of_eq rfl) (hb hby at_363) rfl (by decide) (by decide) (by decide) (by decide)
                              obtain ⟨rfl, N67, Kc67, E67_, F67_year, F67_month, F67_day, F67_length, F67_order, F67_weekday, F67_mayBeDecade, F67_calendar, F67_namesCalendar⟩ := hq67
                              refine oGo.step (f' := (mkF m 366 #[.val (.int x0), .val (.int x1), .val (.int x2), .val (.int x3), .val (.int x4), .val (.long x5), .second, .val (.int ((((x5 &&& (7 : Int64)) % (6 : Int64))).toInt32)), .val (.int v3), .val (.ref (spec1 ((((x5 >>> (((7 : Int32)).toInt64 &&& 63)) &&& (3 : Int64))).toInt32) r_YEAR_FIRST r_MONTH_FIRST r_OTHER)), .val (.ref (spec1 ((((x5 >>> (((9 : Int32)).toInt64 &&& 63)) &&& (3 : Int64))).toInt32) r_YEAR_FIRST r_MONTH_FIRST r_OTHER)), .val (.int v8), .val (.int v11), .val (.int v14), .val (.int v17), .val (.int v20), .val (.int v23), .val (.int v26), .val (.int v29), .val (.int v32), .val (.int v35), .val (.int (((x5 >>> (((21 : Int32)).toInt64 &&& 63))).toInt32)), .val (.int (((x5 >>> (((26 : Int32)).toInt64 &&& 63))).toInt32)), .val (.int v38), .val (.int v41), .unset, .unset, .unset, .unset, .unset] [(.ref b43)])) st67 ?_
                              have N67_ := Fr.app N0 N67
                              have K68 := Kc67
                              have F78 := F55.keep K68 (allS ge44 all0)
                              have F79 := A43.keep K68
                              have Z89 := Nat.le_trans Z56 K68.1
                              have X67 := o_flat X67 rfl rfl
                              refine o_astore (pc' := 368) (l' := #[.val (.int x0), .val (.int x1), .val (.int x2), .val (.int x3), .val (.int x4), .val (.long x5), .second, .val (.int ((((x5 &&& (7 : Int64)) % (6 : Int64))).toInt32)), .val (.int v3), .val (.ref (spec1 ((((x5 >>> (((7 : Int32)).toInt64 &&& 63)) &&& (3 : Int64))).toInt32) r_YEAR_FIRST r_MONTH_FIRST r_OTHER)), .val (.ref (spec1 ((((x5 >>> (((9 : Int32)).toInt64 &&& 63)) &&& (3 : Int64))).toInt32) r_YEAR_FIRST r_MONTH_FIRST r_OTHER)), .val (.int v8), .val (.int v11), .val (.int v14), .val (.int v17), .val (.int v20), .val (.int v23), .val (.int v26), .val (.int v29), .val (.int v32), .val (.int v35), .val (.int (((x5 >>> (((21 : Int32)).toInt64 &&& 63))).toInt32)), .val (.int (((x5 >>> (((26 : Int32)).toInt64 &&& 63))).toInt32)), .val (.int v38), .val (.int v41), .val (.ref b43), .unset, .unset, .unset, .unset]) X67 hx (hb hby at_366) rfl rfl rfl ?_
                              obtain ⟨T90, h90_, X90, e90, E90, A90, D90, -, st90⟩ := newO X67 hx hZ hown (hw _ (List.mem_of_getElem? (i := 10) rfl)) (hw _ (List.mem_of_getElem? (i := 11) rfl)) (hw _ (List.mem_of_getElem? (i := 12) rfl)) (rfl : T67.heap = _) (g := (mkF m 368 #[.val (.int x0), .val (.int x1), .val (.int x2), .val (.int x3), .val (.int x4), .val (.long x5), .second, .val (.int ((((x5 &&& (7 : Int64)) % (6 : Int64))).toInt32)), .val (.int v3), .val (.ref (spec1 ((((x5 >>> (((7 : Int32)).toInt64 &&& 63)) &&& (3 : Int64))).toInt32) r_YEAR_FIRST r_MONTH_FIRST r_OTHER)), .val (.ref (spec1 ((((x5 >>> (((9 : Int32)).toInt64 &&& 63)) &&& (3 : Int64))).toInt32) r_YEAR_FIRST r_MONTH_FIRST r_OTHER)), .val (.int v8), .val (.int v11), .val (.int v14), .val (.int v17), .val (.int v20), .val (.int v23), .val (.int v26), .val (.int v29), .val (.int v32), .val (.int v35), .val (.int (((x5 >>> (((21 : Int32)).toInt64 &&& 63))).toInt32)), .val (.int (((x5 >>> (((26 : Int32)).toInt64 &&& 63))).toInt32)), .val (.int v38), .val (.int v41), .val (.ref b43), .unset, .unset, .unset, .unset] [])) rfl (hb hby at_368) (by decide) (by decide)
                              obtain ⟨b90, g90⟩ : ∃ z, z = T67.heap.size := ⟨_, rfl⟩
                              rw [← g90] at A90 D90 st90
                              have ne91 : b43 ≠ b90 := by rw [g90]; exact Nat.ne_of_lt E67_.lt
                              have ge92 : n0 ≤ b90 := by rw [g90]; exact Z89
                              have K93 := (Keep.refl T67.heap []).ext E90
                              have F103 := F78.keep K93 all0
                              have F104 := E67_.keep K93
                              have F105 := F67_year.keep K93 nin0
                              have F106 := F67_month.keep K93 nin0
                              have F107 := F67_day.keep K93 nin0
                              have F108 := F67_length.keep K93 nin0
                              have F109 := F67_order.keep K93 nin0
                              have F110 := F67_weekday.keep K93 nin0
                              have F111 := F67_mayBeDecade.keep K93 nin0
                              have F112 := F67_calendar.keep K93 nin0
                              have F113 := F67_namesCalendar.keep K93 nin0
                              have Z114 := Nat.le_trans Z89 K93.1
                              have F115 : Fld Z h90_ b90 "org/kalends/expressions/WrittenDate" "year" "I" (.int (0 : Int32)) := D90 (Or.inr (hw _ (List.mem_of_getElem? (i := 31) rfl))) (ty := .int) (by decide)
                              have F116 : Fld Z h90_ b90 "org/kalends/expressions/WrittenDate" "month" "I" (.int (0 : Int32)) := D90 (Or.inr (hw _ (List.mem_of_getElem? (i := 33) rfl))) (ty := .int) (by decide)
                              have F117 : Fld Z h90_ b90 "org/kalends/expressions/WrittenDate" "day" "I" (.int (0 : Int32)) := D90 (Or.inr (hw _ (List.mem_of_getElem? (i := 35) rfl))) (ty := .int) (by decide)
                              have F118 : Fld Z h90_ b90 "org/kalends/expressions/WrittenDate" "length" "I" (.int (0 : Int32)) := D90 (Or.inr (hw _ (List.mem_of_getElem? (i := 37) rfl))) (ty := .int) (by decide)
                              have F119 : Fld Z h90_ b90 "org/kalends/expressions/WrittenDate" "order" "Lorg/kalends/expressions/WrittenDate$Order;" .null := D90 (Or.inr (hw _ (List.mem_of_getElem? (i := 39) rfl))) (ty := (.object "org/kalends/expressions/WrittenDate$Order")) (by decide)
                              have F120 : Fld Z h90_ b90 "org/kalends/expressions/WrittenDate" "weekday" "Ljava/time/DayOfWeek;" .null := D90 (Or.inr (hw _ (List.mem_of_getElem? (i := 41) rfl))) (ty := (.object "java/time/DayOfWeek")) (by decide)
                              have F121 : Fld Z h90_ b90 "org/kalends/expressions/WrittenDate" "mayBeDecade" "Z" (.int (0 : Int32)) := D90 (Or.inr (hw _ (List.mem_of_getElem? (i := 43) rfl))) (ty := .boolean) (by decide)
                              have F122 : Fld Z h90_ b90 "org/kalends/expressions/WrittenDate" "calendar" "Lorg/kalends/calendars/Calendar;" .null := D90 (Or.inr (hw _ (List.mem_of_getElem? (i := 45) rfl))) (ty := (.object "org/kalends/calendars/Calendar")) (by decide)
                              have F123 : Fld Z h90_ b90 "org/kalends/expressions/WrittenDate" "namesCalendar" "Z" (.int (0 : Int32)) := D90 (Or.inr (hw _ (List.mem_of_getElem? (i := 47) rfl))) (ty := .boolean) (by decide)
                              refine oGo.step (f' := (mkF m 371 #[.val (.int x0), .val (.int x1), .val (.int x2), .val (.int x3), .val (.int x4), .val (.long x5), .second, .val (.int ((((x5 &&& (7 : Int64)) % (6 : Int64))).toInt32)), .val (.int v3), .val (.ref (spec1 ((((x5 >>> (((7 : Int32)).toInt64 &&& 63)) &&& (3 : Int64))).toInt32) r_YEAR_FIRST r_MONTH_FIRST r_OTHER)), .val (.ref (spec1 ((((x5 >>> (((9 : Int32)).toInt64 &&& 63)) &&& (3 : Int64))).toInt32) r_YEAR_FIRST r_MONTH_FIRST r_OTHER)), .val (.int v8), .val (.int v11), .val (.int v14), .val (.int v17), .val (.int v20), .val (.int v23), .val (.int v26), .val (.int v29), .val (.int v32), .val (.int v35), .val (.int (((x5 >>> (((21 : Int32)).toInt64 &&& 63))).toInt32)), .val (.int (((x5 >>> (((26 : Int32)).toInt64 &&& 63))).toInt32)), .val (.int v38), .val (.int v41), .val (.ref b43), .unset, .unset, .unset, .unset] [(.ref b90)])) st90 ?_
                              refine o_dup (pc' := 372) X90 hx (hb hby at_371) rfl rfl ?_
                              refine o_iload (pc' := 374) X90 hx (hb hby at_372) rfl rfl ?_
                              refine o_iload (pc' := 376) X90 hx (hb hby at_374) rfl rfl ?_
                              refine o_iload (pc' := 378) X90 hx (hb hby at_376) rfl rfl ?_
                              refine o_iload (pc' := 380) X90 hx (hb hby at_378) rfl rfl ?_
                              refine o_aload (pc' := 382) X90 hx (hb hby at_380) rfl rfl rfl ?_
                              refine o_anull (pc' := 383) X90 hx (hb hby at_382)  rfl ?_
                              refine o_iload (pc' := 385) X90 hx (hb hby at_383) rfl rfl ?_
                              refine o_iload (pc' := 387) X90 hx (hb hby at_385) rfl rfl ?_
                              obtain ⟨r124, T124, L124, X124, hq124, st124⟩ := o_callS X90 hx hZ hown (hw _ (List.mem_of_getElem? (i := 13) rfl)) (hw _ (List.mem_of_getElem? (i := 14) rfl)) (hw _ (List.mem_of_getElem? (i := 5) rfl)) (hw _ (List.mem_of_getElem? (i := 15) rfl)) (by decide) (rm2 l Z a0 hw v3 r_GREGORIAN r_JULIAN r_JULIAN_ANNUNCIATION r_JULIAN_NATAL r_FRENCH_REPUBLICAN r_HIJRI h90_ n0 Z114 F103 S_GREGORIAN S_JULIAN S_JULIAN_ANNUNCIATION S_JULIAN_NATAL S_FRENCH_REPUBLICAN S_HIJRI) e90 (pc' := 390) (Ls := #[.val (.int x0), .val (.int x1), .val (.int x2), .val (.int x3), .val (.int x4), .val (.long x5), .second, .val (.int ((((x5 &&& (7 : Int64)) % (6 : Int64))).toInt32)), .val (.int v3), .val (.ref (spec1 ((((x5 >>> (((7 : Int32)).toInt64 &&& 63)) &&& (3 : Int64))).toInt32) r_YEAR_FIRST r_MONTH_FIRST r_OTHER)), .val (.ref (spec1 ((((x5 >>> (((9 : Int32)).toInt64 &&& 63)) &&& (3 : Int64))).toInt32) r_YEAR_FIRST r_MONTH_FIRST r_OTHER)), .val (.int v8), .val (.int v11), .val (.int v14), .val (.int v17), .val (.int v20), .val (.int v23), .val (.int v26), .val (.int v29), .val (.int v32), .val (.int v35), .val (.int (((x5 >>> (((21 : Int32)).toInt64 &&& 63))).toInt32)), .val (.int (((x5 >>> (((26 : Int32)).toInt64 &&& 63))).toInt32)), .val (.int v38), .val (.int v41), .val (.ref b43), .unset, .unset, .unset, .unset]) (by rw [hml]; rfl) [(.int v3)] [(.int v32), .null, (.ref (spec1 ((((x5 >>> (((9 : Int32)).toInt64 &&& 63)) &&& (3 : Int64))).toInt32) r_YEAR_FIRST r_MONTH_FIRST r_OTHER)), (.int v41), (.int v20), (.int v23), (.int (((x5 >>> (((26 : Int32)).toInt64 &&& 63))).toInt32)), (.ref b90), (.ref b90)] rfl pd3 rfl rfl 9 (Nat.le_of_eq rfl) (hb hby at_387) rfl (by decide) (by decide) (by decide) (by decide)
                              obtain ⟨rfl, rfl, Kc124⟩ := hq124
                              refine oGo.step (f' := (mkF m 390 #[.val (.int x0), .val (.int x1), .val (.int x2), .val (.int x3), .val (.int x4), .val (.long x5), .second, .val (.int ((((x5 &&& (7 : Int64)) % (6 : Int64))).toInt32)), .val (.int v3), .val (.ref (spec1 ((((x5 >>> (((7 : Int32)).toInt64 &&& 63)) &&& (3 : Int64))).toInt32) r_YEAR_FIRST r_MONTH_FIRST r_OTHER)), .val (.ref (spec1 ((((x5 >>> (((9 : Int32)).toInt64 &&& 63)) &&& (3 : Int64))).toInt32) r_YEAR_FIRST r_MONTH_FIRST r_OTHER)), .val (.int v8), .val (.int v11), .val (.int v14), .val (.int v17), .val (.int v20), .val (.int v23), .val (.int v26), .val (.int v29), .val (.int v32), .val (.int v35), .val (.int (((x5 >>> (((21 : Int32)).toInt64 &&& 63))).toInt32)), .val (.int (((x5 >>> (((26 : Int32)).toInt64 &&& 63))).toInt32)), .val (.int v38), .val (.int v41), .val (.ref b43), .unset, .unset, .unset, .unset] [(.ref (spec2 v3 r_GREGORIAN r_JULIAN r_JULIAN_ANNUNCIATION r_JULIAN_NATAL r_FRENCH_REPUBLICAN r_HIJRI)), (.int v32), .null, (.ref (spec1 ((((x5 >>> (((9 : Int32)).toInt64 &&& 63)) &&& (3 : Int64))).toInt32) r_YEAR_FIRST r_MONTH_FIRST r_OTHER)), (.int v41), (.int v20), (.int v23), (.int (((x5 >>> (((26 : Int32)).toInt64 &&& 63))).toInt32)), (.ref b90), (.ref b90)])) st124 ?_
                              have e124 : T124.heap = h90_ := Kc124
                              have X124 := o_same X124 rfl rfl
                              refine o_iload (pc' := 392) X124 hx (hb hby at_390) rfl rfl ?_
                              obtain ⟨r125, T125, L125, X125, hq125, st125⟩ := o_callN X124 hx hZ hown rfl (hw _ (List.mem_of_getElem? (i := 19) rfl)) (hw _ (List.mem_of_getElem? (i := 20) rfl)) (hw _ (List.mem_of_getElem? (i := 12) rfl)) (hw _ (List.mem_of_getElem? (i := 21) rfl)) (by decide) (rm3 l Z a0 hw b90 (((x5 >>> (((26 : Int32)).toInt64 &&& 63))).toInt32) v23 v20 v41 (spec1 ((((x5 >>> (((9 : Int32)).toInt64 &&& 63)) &&& (3 : Int64))).toInt32) r_YEAR_FIRST r_MONTH_FIRST r_OTHER) v32 (spec2 v3 r_GREGORIAN r_JULIAN r_JULIAN_ANNUNCIATION r_JULIAN_NATAL r_FRENCH_REPUBLICAN r_HIJRI) v35 (0 : Int32) (0 : Int32) (0 : Int32) (0 : Int32) (0 : Int32) (0 : Int32) h90_ n0 Z114 A90 F115 F116 F117 F118 F119 F120 F121 F122 F123 ge92 (by rw [hv32]; split <;> simp) (by rw [hv35]; split <;> simp)) e124 (pc' := 395) (Ls := #[.val (.int x0), .val (.int x1), .val (.int x2), .val (.int x3), .val (.int x4), .val (.long x5), .second, .val (.int ((((x5 &&& (7 : Int64)) % (6 : Int64))).toInt32)), .val (.int v3), .val (.ref (spec1 ((((x5 >>> (((7 : Int32)).toInt64 &&& 63)) &&& (3 : Int64))).toInt32) r_YEAR_FIRST r_MONTH_FIRST r_OTHER)), .val (.ref (spec1 ((((x5 >>> (((9 : Int32)).toInt64 &&& 63)) &&& (3 : Int64))).toInt32) r_YEAR_FIRST r_MONTH_FIRST r_OTHER)), .val (.int v8), .val (.int v11), .val (.int v14), .val (.int v17), .val (.int v20), .val (.int v23), .val (.int v26), .val (.int v29), .val (.int v32), .val (.int v35), .val (.int (((x5 >>> (((21 : Int32)).toInt64 &&& 63))).toInt32)), .val (.int (((x5 >>> (((26 : Int32)).toInt64 &&& 63))).toInt32)), .val (.int v38), .val (.int v41), .val (.ref b43), .unset, .unset, .unset, .unset]) (by rw [hml]; rfl) [(.int (((x5 >>> (((26 : Int32)).toInt64 &&& 63))).toInt32)), (.int v23), (.int v20), (.int v41), (.ref (spec1 ((((x5 >>> (((9 : Int32)).toInt64 &&& 63)) &&& (3 : Int64))).toInt32) r_YEAR_FIRST r_MONTH_FIRST r_OTHER)), .null, (.int v32), (.ref (spec2 v3 r_GREGORIAN r_JULIAN r_JULIAN_ANNUNCIATION r_JULIAN_NATAL r_FRENCH_REPUBLICAN r_HIJRI)), (.int v35)] [(.ref b90)] rfl pd1 rfl rfl 1 (Nat.le_of_eq rfl) (hb hby at_392) rfl (by decide) (by decide) (by decide) (by decide)
                              obtain ⟨rfl, N125, Kc125, E125_, F125_year, F125_month, F125_day, F125_length, F125_order, F125_weekday, F125_mayBeDecade, F125_calendar, F125_namesCalendar⟩ := hq125
                              refine oGo.step (f' := (mkF m 395 #[.val (.int x0), .val (.int x1), .val (.int x2), .val (.int x3), .val (.int x4), .val (.long x5), .second, .val (.int ((((x5 &&& (7 : Int64)) % (6 : Int64))).toInt32)), .val (.int v3), .val (.ref (spec1 ((((x5 >>> (((7 : Int32)).toInt64 &&& 63)) &&& (3 : Int64))).toInt32) r_YEAR_FIRST r_MONTH_FIRST r_OTHER)), .val (.ref (spec1 ((((x5 >>> (((9 : Int32)).toInt64 &&& 63)) &&& (3 : Int64))).toInt32) r_YEAR_FIRST r_MONTH_FIRST r_OTHER)), .val (.int v8), .val (.int v11), .val (.int v14), .val (.int v17), .val (.int v20), .val (.int v23), .val (.int v26), .val (.int v29), .val (.int v32), .val (.int v35), .val (.int (((x5 >>> (((21 : Int32)).toInt64 &&& 63))).toInt32)), .val (.int (((x5 >>> (((26 : Int32)).toInt64 &&& 63))).toInt32)), .val (.int v38), .val (.int v41), .val (.ref b43), .unset, .unset, .unset, .unset] [(.ref b90)])) st125 ?_
                              have N125_ := Fr.app N67_ N125
                              have K126 := Kc125
                              have F136 := F103.keep K126 (allS ge92 all0)
                              have F137 := F104.keep K126
                              have F138 := F105.keep K126 (ninS ne91 nin0)
                              have F139 := F106.keep K126 (ninS ne91 nin0)
                              have F140 := F107.keep K126 (ninS ne91 nin0)
                              have F141 := F108.keep K126 (ninS ne91 nin0)
                              have F142 := F109.keep K126 (ninS ne91 nin0)
                              have F143 := F110.keep K126 (ninS ne91 nin0)
                              have F144 := F111.keep K126 (ninS ne91 nin0)
                              have F145 := F112.keep K126 (ninS ne91 nin0)
                              have F146 := F113.keep K126 (ninS ne91 nin0)
                              have F147 := A90.keep K126
                              have Z157 := Nat.le_trans Z114 K126.1
                              have X125 := o_flat X125 rfl rfl
                              refine o_astore (pc' := 397) (l' := #[.val (.int x0), .val (.int x1), .val (.int x2), .val (.int x3), .val (.int x4), .val (.long x5), .second, .val (.int ((((x5 &&& (7 : Int64)) % (6 : Int64))).toInt32)), .val (.int v3), .val (.ref (spec1 ((((x5 >>> (((7 : Int32)).toInt64 &&& 63)) &&& (3 : Int64))).toInt32) r_YEAR_FIRST r_MONTH_FIRST r_OTHER)), .val (.ref (spec1 ((((x5 >>> (((9 : Int32)).toInt64 &&& 63)) &&& (3 : Int64))).toInt32) r_YEAR_FIRST r_MONTH_FIRST r_OTHER)), .val (.int v8), .val (.int v11), .val (.int v14), .val (.int v17), .val (.int v20), .val (.int v23), .val (.int v26), .val (.int v29), .val (.int v32), .val (.int v35), .val (.int (((x5 >>> (((21 : Int32)).toInt64 &&& 63))).toInt32)), .val (.int (((x5 >>> (((26 : Int32)).toInt64 &&& 63))).toInt32)), .val (.int v38), .val (.int v41), .val (.ref b43), .val (.ref b90), .unset, .unset, .unset]) X125 hx (hb hby at_395) rfl rfl rfl ?_
                              refine o_iload (pc' := 399) X125 hx (hb hby at_397) rfl rfl ?_
                              refine o_iconst (pc' := 400) (v := (-1 : Int32)) X125 hx (hb hby at_399) rfl rfl ?_
                              have J159 : ∀ (v161 : Int32), v161 = (if v14 = (-1 : Int32) then (if v20 = (-1 : Int32) then (1 : Int32) else (0 : Int32)) else (0 : Int32)) → oGo p e below (oG s (fun v h L => v = some (.int 1) ∧ Fr n0 L) room_1.cells room_1.slots) T125 (mkF m 414 #[.val (.int x0), .val (.int x1), .val (.int x2), .val (.int x3), .val (.int x4), .val (.long x5), .second, .val (.int ((((x5 &&& (7 : Int64)) % (6 : Int64))).toInt32)), .val (.int v3), .val (.ref (spec1 ((((x5 >>> (((7 : Int32)).toInt64 &&& 63)) &&& (3 : Int64))).toInt32) r_YEAR_FIRST r_MONTH_FIRST r_OTHER)), .val (.ref (spec1 ((((x5 >>> (((9 : Int32)).toInt64 &&& 63)) &&& (3 : Int64))).toInt32) r_YEAR_FIRST r_MONTH_FIRST r_OTHER)), .val (.int v8), .val (.int v11), .val (.int v14), .val (.int v17), .val (.int v20), .val (.int v23), .val (.int v26), .val (.int v29), .val (.int v32), .val (.int v35), .val (.int (((x5 >>> (((21 : Int32)).toInt64 &&& 63))).toInt32)), .val (.int (((x5 >>> (((26 : Int32)).toInt64 &&& 63))).toInt32)), .val (.int v38), .val (.int v41), .val (.ref b43), .val (.ref b90), .unset, .unset, .unset] [(.int v161)]) := by
                                intro v161 hv161
                                refine o_istore (pc' := 416) (l' := #[.val (.int x0), .val (.int x1), .val (.int x2), .val (.int x3), .val (.int x4), .val (.long x5), .second, .val (.int ((((x5 &&& (7 : Int64)) % (6 : Int64))).toInt32)), .val (.int v3), .val (.ref (spec1 ((((x5 >>> (((7 : Int32)).toInt64 &&& 63)) &&& (3 : Int64))).toInt32) r_YEAR_FIRST r_MONTH_FIRST r_OTHER)), .val (.ref (spec1 ((((x5 >>> (((9 : Int32)).toInt64 &&& 63)) &&& (3 : Int64))).toInt32) r_YEAR_FIRST r_MONTH_FIRST r_OTHER)), .val (.int v8), .val (.int v11), .val (.int v14), .val (.int v17), .val (.int v20), .val (.int v23), .val (.int v26), .val (.int v29), .val (.int v32), .val (.int v35), .val (.int (((x5 >>> (((21 : Int32)).toInt64 &&& 63))).toInt32)), .val (.int (((x5 >>> (((26 : Int32)).toInt64 &&& 63))).toInt32)), .val (.int v38), .val (.int v41), .val (.ref b43), .val (.ref b90), .val (.int v161), .unset, .unset]) X125 hx (hb hby at_414) rfl rfl ?_
                                refine o_iload (pc' := 418) X125 hx (hb hby at_416) rfl rfl ?_
                                refine o_iconst (pc' := 419) (v := (-1 : Int32)) X125 hx (hb hby at_418) rfl rfl ?_
                                have J163 : ∀ (v164 : Int32), v164 = (if v17 = (-1 : Int32) then (1 : Int32) else (0 : Int32)) → oGo p e below (oG s (fun v h L => v = some (.int 1) ∧ Fr n0 L) room_1.cells room_1.slots) T125 (mkF m 427 #[.val (.int x0), .val (.int x1), .val (.int x2), .val (.int x3), .val (.int x4), .val (.long x5), .second, .val (.int ((((x5 &&& (7 : Int64)) % (6 : Int64))).toInt32)), .val (.int v3), .val (.ref (spec1 ((((x5 >>> (((7 : Int32)).toInt64 &&& 63)) &&& (3 : Int64))).toInt32) r_YEAR_FIRST r_MONTH_FIRST r_OTHER)), .val (.ref (spec1 ((((x5 >>> (((9 : Int32)).toInt64 &&& 63)) &&& (3 : Int64))).toInt32) r_YEAR_FIRST r_MONTH_FIRST r_OTHER)), .val (.int v8), .val (.int v11), .val (.int v14), .val (.int v17), .val (.int v20), .val (.int v23), .val (.int v26), .val (.int v29), .val (.int v32), .val (.int v35), .val (.int (((x5 >>> (((21 : Int32)).toInt64 &&& 63))).toInt32)), .val (.int (((x5 >>> (((26 : Int32)).toInt64 &&& 63))).toInt32)), .val (.int v38), .val (.int v41), .val (.ref b43), .val (.ref b90), .val (.int v161), .unset, .unset] [(.int v164)]) := by
                                  intro v164 hv164
                                  refine o_iload (pc' := 429) X125 hx (hb hby at_427) rfl rfl ?_
                                  refine o_iconst (pc' := 430) (v := (-1 : Int32)) X125 hx (hb hby at_429) rfl rfl ?_
                                  have J166 : ∀ (v167 : Int32), v167 = (if v23 = (-1 : Int32) then (1 : Int32) else (0 : Int32)) → oGo p e below (oG s (fun v h L => v = some (.int 1) ∧ Fr n0 L) room_1.cells room_1.slots) T125 (mkF m 438 #[.val (.int x0), .val (.int x1), .val (.int x2), .val (.int x3), .val (.int x4), .val (.long x5), .second, .val (.int ((((x5 &&& (7 : Int64)) % (6 : Int64))).toInt32)), .val (.int v3), .val (.ref (spec1 ((((x5 >>> (((7 : Int32)).toInt64 &&& 63)) &&& (3 : Int64))).toInt32) r_YEAR_FIRST r_MONTH_FIRST r_OTHER)), .val (.ref (spec1 ((((x5 >>> (((9 : Int32)).toInt64 &&& 63)) &&& (3 : Int64))).toInt32) r_YEAR_FIRST r_MONTH_FIRST r_OTHER)), .val (.int v8), .val (.int v11), .val (.int v14), .val (.int v17), .val (.int v20), .val (.int v23), .val (.int v26), .val (.int v29), .val (.int v32), .val (.int v35), .val (.int (((x5 >>> (((21 : Int32)).toInt64 &&& 63))).toInt32)), .val (.int (((x5 >>> (((26 : Int32)).toInt64 &&& 63))).toInt32)), .val (.int v38), .val (.int v41), .val (.ref b43), .val (.ref b90), .val (.int v161), .unset, .unset] [(.int v167), (.int v164)]) := by
                                    intro v167 hv167
                                    have J169 : ∀ (v170 : Int32), v170 = (if v164 = v167 then (1 : Int32) else (0 : Int32)) → oGo p e below (oG s (fun v h L => v = some (.int 1) ∧ Fr n0 L) room_1.cells room_1.slots) T125 (mkF m 446 #[.val (.int x0), .val (.int x1), .val (.int x2), .val (.int x3), .val (.int x4), .val (.long x5), .second, .val (.int ((((x5 &&& (7 : Int64)) % (6 : Int64))).toInt32)), .val (.int v3), .val (.ref (spec1 ((((x5 >>> (((7 : Int32)).toInt64 &&& 63)) &&& (3 : Int64))).toInt32) r_YEAR_FIRST r_MONTH_FIRST r_OTHER)), .val (.ref (spec1 ((((x5 >>> (((9 : Int32)).toInt64 &&& 63)) &&& (3 : Int64))).toInt32) r_YEAR_FIRST r_MONTH_FIRST r_OTHER)), .val (.int v8), .val (.int v11), .val (.int v14), .val (.int v17), .val (.int v20), .val (.int v23), .val (.int v26), .val (.int v29), .val (.int v32), .val (.int v35), .val (.int (((x5 >>> (((21 : Int32)).toInt64 &&& 63))).toInt32)), .val (.int (((x5 >>> (((26 : Int32)).toInt64 &&& 63))).toInt32)), .val (.int v38), .val (.int v41), .val (.ref b43), .val (.ref b90), .val (.int v161), .unset, .unset] [(.int v170)]) := by
                                      intro v170 hv170
                                      refine o_istore (pc' := 448) (l' := #[.val (.int x0), .val (.int x1), .val (.int x2), .val (.int x3), .val (.int x4), .val (.long x5), .second, .val (.int ((((x5 &&& (7 : Int64)) % (6 : Int64))).toInt32)), .val (.int v3), .val (.ref (spec1 ((((x5 >>> (((7 : Int32)).toInt64 &&& 63)) &&& (3 : Int64))).toInt32) r_YEAR_FIRST r_MONTH_FIRST r_OTHER)), .val (.ref (spec1 ((((x5 >>> (((9 : Int32)).toInt64 &&& 63)) &&& (3 : Int64))).toInt32) r_YEAR_FIRST r_MONTH_FIRST r_OTHER)), .val (.int v8), .val (.int v11), .val (.int v14), .val (.int v17), .val (.int v20), .val (.int v23), .val (.int v26), .val (.int v29), .val (.int v32), .val (.int v35), .val (.int (((x5 >>> (((21 : Int32)).toInt64 &&& 63))).toInt32)), .val (.int (((x5 >>> (((26 : Int32)).toInt64 &&& 63))).toInt32)), .val (.int v38), .val (.int v41), .val (.ref b43), .val (.ref b90), .val (.int v161), .val (.int v170), .unset]) X125 hx (hb hby at_446) rfl rfl ?_
                                      refine o_iload (pc' := 450) X125 hx (hb hby at_448) rfl rfl ?_
                                      have J172 : ∀ (v176 : Int32), v176 = (if v161 = 0 then (0 : Int32) else (if v170 = 0 then (0 : Int32) else (if v38 = v41 then (if ((((x5 &&& (7 : Int64)) % (6 : Int64))).toInt32) = v3 then (1 : Int32) else (0 : Int32)) else (0 : Int32)))) → oGo p e below (oG s (fun v h L => v = some (.int 1) ∧ Fr n0 L) room_1.cells room_1.slots) T125 (mkF m 477 #[.val (.int x0), .val (.int x1), .val (.int x2), .val (.int x3), .val (.int x4), .val (.long x5), .second, .val (.int ((((x5 &&& (7 : Int64)) % (6 : Int64))).toInt32)), .val (.int v3), .val (.ref (spec1 ((((x5 >>> (((7 : Int32)).toInt64 &&& 63)) &&& (3 : Int64))).toInt32) r_YEAR_FIRST r_MONTH_FIRST r_OTHER)), .val (.ref (spec1 ((((x5 >>> (((9 : Int32)).toInt64 &&& 63)) &&& (3 : Int64))).toInt32) r_YEAR_FIRST r_MONTH_FIRST r_OTHER)), .val (.int v8), .val (.int v11), .val (.int v14), .val (.int v17), .val (.int v20), .val (.int v23), .val (.int v26), .val (.int v29), .val (.int v32), .val (.int v35), .val (.int (((x5 >>> (((21 : Int32)).toInt64 &&& 63))).toInt32)), .val (.int (((x5 >>> (((26 : Int32)).toInt64 &&& 63))).toInt32)), .val (.int v38), .val (.int v41), .val (.ref b43), .val (.ref b90), .val (.int v161), .val (.int v170), .unset] [(.int v176)]) := by
                                        intro v176 hv176
                                        refine o_istore (pc' := 479) (l' := #[.val (.int x0), .val (.int x1), .val (.int x2), .val (.int x3), .val (.int x4), .val (.long x5), .second, .val (.int ((((x5 &&& (7 : Int64)) % (6 : Int64))).toInt32)), .val (.int v3), .val (.ref (spec1 ((((x5 >>> (((7 : Int32)).toInt64 &&& 63)) &&& (3 : Int64))).toInt32) r_YEAR_FIRST r_MONTH_FIRST r_OTHER)), .val (.ref (spec1 ((((x5 >>> (((9 : Int32)).toInt64 &&& 63)) &&& (3 : Int64))).toInt32) r_YEAR_FIRST r_MONTH_FIRST r_OTHER)), .val (.int v8), .val (.int v11), .val (.int v14), .val (.int v17), .val (.int v20), .val (.int v23), .val (.int v26), .val (.int v29), .val (.int v32), .val (.int v35), .val (.int (((x5 >>> (((21 : Int32)).toInt64 &&& 63))).toInt32)), .val (.int (((x5 >>> (((26 : Int32)).toInt64 &&& 63))).toInt32)), .val (.int v38), .val (.int v41), .val (.ref b43), .val (.ref b90), .val (.int v161), .val (.int v170), .val (.int v176)]) X125 hx (hb hby at_477) rfl rfl ?_
                                        refine o_aload (pc' := 481) X125 hx (hb hby at_479) rfl rfl rfl ?_
                                        refine o_aload (pc' := 483) X125 hx (hb hby at_481) rfl rfl rfl ?_
                                        obtain ⟨r177, T177, L177, X177, hq177, st177⟩ := o_callV X125 hx hZ hown (hw _ (List.mem_of_getElem? (i := 48) rfl)) (hw _ (List.mem_of_getElem? (i := 49) rfl)) (hw _ (List.mem_of_getElem? (i := 51) rfl)) (hw _ (List.mem_of_getElem? (i := 50) rfl)) (hw _ (List.mem_of_getElem? (i := 12) rfl)) (hw _ (List.mem_of_getElem? (i := 52) rfl)) (by decide) F137 (rm6 l Z a0 hw b43 b90 v14 v17 v38 (spec2 ((((x5 &&& (7 : Int64)) % (6 : Int64))).toInt32) r_GREGORIAN r_JULIAN r_JULIAN_ANNUNCIATION r_JULIAN_NATAL r_FRENCH_REPUBLICAN r_HIJRI) v20 v23 v41 (spec2 v3 r_GREGORIAN r_JULIAN r_JULIAN_ANNUNCIATION r_JULIAN_NATAL r_FRENCH_REPUBLICAN r_HIJRI) T125.heap n0 Z157 F137 F140 F139 F141 F145 F125_day F125_month F125_length F125_calendar) (rfl : T125.heap = _) (pc' := 486) (Ls := #[.val (.int x0), .val (.int x1), .val (.int x2), .val (.int x3), .val (.int x4), .val (.long x5), .second, .val (.int ((((x5 &&& (7 : Int64)) % (6 : Int64))).toInt32)), .val (.int v3), .val (.ref (spec1 ((((x5 >>> (((7 : Int32)).toInt64 &&& 63)) &&& (3 : Int64))).toInt32) r_YEAR_FIRST r_MONTH_FIRST r_OTHER)), .val (.ref (spec1 ((((x5 >>> (((9 : Int32)).toInt64 &&& 63)) &&& (3 : Int64))).toInt32) r_YEAR_FIRST r_MONTH_FIRST r_OTHER)), .val (.int v8), .val (.int v11), .val (.int v14), .val (.int v17), .val (.int v20), .val (.int v23), .val (.int v26), .val (.int v29), .val (.int v32), .val (.int v35), .val (.int (((x5 >>> (((21 : Int32)).toInt64 &&& 63))).toInt32)), .val (.int (((x5 >>> (((26 : Int32)).toInt64 &&& 63))).toInt32)), .val (.int v38), .val (.int v41), .val (.ref b43), .val (.ref b90), .val (.int v161), .val (.int v170), .val (.int v176)]) (by rw [hml]; rfl) [(.ref b90)] [] rfl pd4 rfl rfl 0 (Nat.le_of_eq rfl) (hb hby at_483) rfl (by decide) (by decide) (by decide) (by decide)
                                        obtain ⟨rfl, rfl, Kc177⟩ := hq177
                                        refine oGo.step (f' := (mkF m 486 #[.val (.int x0), .val (.int x1), .val (.int x2), .val (.int x3), .val (.int x4), .val (.long x5), .second, .val (.int ((((x5 &&& (7 : Int64)) % (6 : Int64))).toInt32)), .val (.int v3), .val (.ref (spec1 ((((x5 >>> (((7 : Int32)).toInt64 &&& 63)) &&& (3 : Int64))).toInt32) r_YEAR_FIRST r_MONTH_FIRST r_OTHER)), .val (.ref (spec1 ((((x5 >>> (((9 : Int32)).toInt64 &&& 63)) &&& (3 : Int64))).toInt32) r_YEAR_FIRST r_MONTH_FIRST r_OTHER)), .val (.int v8), .val (.int v11), .val (.int v14), .val (.int v17), .val (.int v20), .val (.int v23), .val (.int v26), .val (.int v29), .val (.int v32), .val (.int v35), .val (.int (((x5 >>> (((21 : Int32)).toInt64 &&& 63))).toInt32)), .val (.int (((x5 >>> (((26 : Int32)).toInt64 &&& 63))).toInt32)), .val (.int v38), .val (.int v41), .val (.ref b43), .val (.ref b90), .val (.int v161), .val (.int v170), .val (.int v176)] [(.int (spec6 v14 v17 v38 (spec2 ((((x5 &&& (7 : Int64)) % (6 : Int64))).toInt32) r_GREGORIAN r_JULIAN r_JULIAN_ANNUNCIATION r_JULIAN_NATAL r_FRENCH_REPUBLICAN r_HIJRI) v20 v23 v41 (spec2 v3 r_GREGORIAN r_JULIAN r_JULIAN_ANNUNCIATION r_JULIAN_NATAL r_FRENCH_REPUBLICAN r_HIJRI)))])) st177 ?_
                                        have e177 : T177.heap = T125.heap := Kc177
                                        have X177 := o_same X177 rfl rfl
                                        refine o_iload (pc' := 488) X177 hx (hb hby at_486) rfl rfl ?_
                                        have J179 : ∀ (T183 : State) (X183 : Stand p l e room_1 s m #[(.int x0), (.int x1), (.int x2), (.int x3), (.int x4), (.long x5)] below meth c T183 (([] ++ L67) ++ L125) (0 + 1 + 1) (0 + 9 + 9)) (e183 : T183.heap = T125.heap) (v182 : Int32), v182 = (if (spec6 v14 v17 v38 (spec2 ((((x5 &&& (7 : Int64)) % (6 : Int64))).toInt32) r_GREGORIAN r_JULIAN r_JULIAN_ANNUNCIATION r_JULIAN_NATAL r_FRENCH_REPUBLICAN r_HIJRI) v20 v23 v41 (spec2 v3 r_GREGORIAN r_JULIAN r_JULIAN_ANNUNCIATION r_JULIAN_NATAL r_FRENCH_REPUBLICAN r_HIJRI)) = v176 then (if (spec6 v20 v23 v41 (spec2 v3 r_GREGORIAN r_JULIAN r_JULIAN_ANNUNCIATION r_JULIAN_NATAL r_FRENCH_REPUBLICAN r_HIJRI) v14 v17 v38 (spec2 ((((x5 &&& (7 : Int64)) % (6 : Int64))).toInt32) r_GREGORIAN r_JULIAN r_JULIAN_ANNUNCIATION r_JULIAN_NATAL r_FRENCH_REPUBLICAN r_HIJRI)) = v176 then (1 : Int32) else (0 : Int32)) else (0 : Int32)) → oGo p e below (oG s (fun v h L => v = some (.int 1) ∧ Fr n0 L) room_1.cells room_1.slots) T183 (mkF m 508 #[.val (.int x0), .val (.int x1), .val (.int x2), .val (.int x3), .val (.int x4), .val (.long x5), .second, .val (.int ((((x5 &&& (7 : Int64)) % (6 : Int64))).toInt32)), .val (.int v3), .val (.ref (spec1 ((((x5 >>> (((7 : Int32)).toInt64 &&& 63)) &&& (3 : Int64))).toInt32) r_YEAR_FIRST r_MONTH_FIRST r_OTHER)), .val (.ref (spec1 ((((x5 >>> (((9 : Int32)).toInt64 &&& 63)) &&& (3 : Int64))).toInt32) r_YEAR_FIRST r_MONTH_FIRST r_OTHER)), .val (.int v8), .val (.int v11), .val (.int v14), .val (.int v17), .val (.int v20), .val (.int v23), .val (.int v26), .val (.int v29), .val (.int v32), .val (.int v35), .val (.int (((x5 >>> (((21 : Int32)).toInt64 &&& 63))).toInt32)), .val (.int (((x5 >>> (((26 : Int32)).toInt64 &&& 63))).toInt32)), .val (.int v38), .val (.int v41), .val (.ref b43), .val (.ref b90), .val (.int v161), .val (.int v170), .val (.int v176)] [(.int v182)]) := by
                                          intro T183 X183 e183 v182 hv182
                                          refine o_retZ X183 hx hret hlk (hb hby at_508) (by rw [hv182]; (repeat' split) <;> (first | rfl | assumption)) (by decide) (by decide) ?_
                                          subst hv182 hv176 hv170 hv167 hv164 hv161
                                          have hc2 : oC v3 := by rw [hv3]; split; exact own_c6 _; exact own_c6 _
                                          exact ⟨congrArg (fun z => some (Value.int z)) (own_law v14 v17 v38 v20 v23 v41 ((((x5 &&& (7 : Int64)) % (6 : Int64))).toInt32) v3 (own_c6 x5) hc2 hne), N125_⟩
                                        by_cases c178 : (spec6 v14 v17 v38 (spec2 ((((x5 &&& (7 : Int64)) % (6 : Int64))).toInt32) r_GREGORIAN r_JULIAN r_JULIAN_ANNUNCIATION r_JULIAN_NATAL r_FRENCH_REPUBLICAN r_HIJRI) v20 v23 v41 (spec2 v3 r_GREGORIAN r_JULIAN r_JULIAN_ANNUNCIATION r_JULIAN_NATAL r_FRENCH_REPUBLICAN r_HIJRI)) = v176
                                        · refine o_icmpF (pc' := 491) X177 hx (hb hby at_488) (XT.ii_ne_f c178) rfl ?_
                                          refine o_aload (pc' := 493) X177 hx (hb hby at_491) rfl rfl rfl ?_
                                          refine o_aload (pc' := 495) X177 hx (hb hby at_493) rfl rfl rfl ?_
                                          obtain ⟨r180, T180, L180, X180, hq180, st180⟩ := o_callV X177 hx hZ hown (hw _ (List.mem_of_getElem? (i := 48) rfl)) (hw _ (List.mem_of_getElem? (i := 49) rfl)) (hw _ (List.mem_of_getElem? (i := 51) rfl)) (hw _ (List.mem_of_getElem? (i := 50) rfl)) (hw _ (List.mem_of_getElem? (i := 12) rfl)) (hw _ (List.mem_of_getElem? (i := 52) rfl)) (by decide) E125_ (rm6 l Z a0 hw b90 b43 v20 v23 v41 (spec2 v3 r_GREGORIAN r_JULIAN r_JULIAN_ANNUNCIATION r_JULIAN_NATAL r_FRENCH_REPUBLICAN r_HIJRI) v14 v17 v38 (spec2 ((((x5 &&& (7 : Int64)) % (6 : Int64))).toInt32) r_GREGORIAN r_JULIAN r_JULIAN_ANNUNCIATION r_JULIAN_NATAL r_FRENCH_REPUBLICAN r_HIJRI) T125.heap n0 Z157 E125_ F125_day F125_month F125_length F125_calendar F140 F139 F141 F145) e177 (pc' := 498) (Ls := #[.val (.int x0), .val (.int x1), .val (.int x2), .val (.int x3), .val (.int x4), .val (.long x5), .second, .val (.int ((((x5 &&& (7 : Int64)) % (6 : Int64))).toInt32)), .val (.int v3), .val (.ref (spec1 ((((x5 >>> (((7 : Int32)).toInt64 &&& 63)) &&& (3 : Int64))).toInt32) r_YEAR_FIRST r_MONTH_FIRST r_OTHER)), .val (.ref (spec1 ((((x5 >>> (((9 : Int32)).toInt64 &&& 63)) &&& (3 : Int64))).toInt32) r_YEAR_FIRST r_MONTH_FIRST r_OTHER)), .val (.int v8), .val (.int v11), .val (.int v14), .val (.int v17), .val (.int v20), .val (.int v23), .val (.int v26), .val (.int v29), .val (.int v32), .val (.int v35), .val (.int (((x5 >>> (((21 : Int32)).toInt64 &&& 63))).toInt32)), .val (.int (((x5 >>> (((26 : Int32)).toInt64 &&& 63))).toInt32)), .val (.int v38), .val (.int v41), .val (.ref b43), .val (.ref b90), .val (.int v161), .val (.int v170), .val (.int v176)]) (by rw [hml]; rfl) [(.ref b43)] [] rfl pd4 rfl rfl 0 (Nat.le_of_eq rfl) (hb hby at_495) rfl (by decide) (by decide) (by decide) (by decide)
                                          obtain ⟨rfl, rfl, Kc180⟩ := hq180
                                          refine oGo.step (f' := (mkF m 498 #[.val (.int x0), .val (.int x1), .val (.int x2), .val (.int x3), .val (.int x4), .val (.long x5), .second, .val (.int ((((x5 &&& (7 : Int64)) % (6 : Int64))).toInt32)), .val (.int v3), .val (.ref (spec1 ((((x5 >>> (((7 : Int32)).toInt64 &&& 63)) &&& (3 : Int64))).toInt32) r_YEAR_FIRST r_MONTH_FIRST r_OTHER)), .val (.ref (spec1 ((((x5 >>> (((9 : Int32)).toInt64 &&& 63)) &&& (3 : Int64))).toInt32) r_YEAR_FIRST r_MONTH_FIRST r_OTHER)), .val (.int v8), .val (.int v11), .val (.int v14), .val (.int v17), .val (.int v20), .val (.int v23), .val (.int v26), .val (.int v29), .val (.int v32), .val (.int v35), .val (.int (((x5 >>> (((21 : Int32)).toInt64 &&& 63))).toInt32)), .val (.int (((x5 >>> (((26 : Int32)).toInt64 &&& 63))).toInt32)), .val (.int v38), .val (.int v41), .val (.ref b43), .val (.ref b90), .val (.int v161), .val (.int v170), .val (.int v176)] [(.int (spec6 v20 v23 v41 (spec2 v3 r_GREGORIAN r_JULIAN r_JULIAN_ANNUNCIATION r_JULIAN_NATAL r_FRENCH_REPUBLICAN r_HIJRI) v14 v17 v38 (spec2 ((((x5 &&& (7 : Int64)) % (6 : Int64))).toInt32) r_GREGORIAN r_JULIAN r_JULIAN_ANNUNCIATION r_JULIAN_NATAL r_FRENCH_REPUBLICAN r_HIJRI)))])) st180 ?_
                                          have e180 : T180.heap = T125.heap := Kc180
                                          have X180 := o_same X180 rfl rfl
                                          refine o_iload (pc' := 500) X180 hx (hb hby at_498) rfl rfl ?_
                                          by_cases c181 : (spec6 v20 v23 v41 (spec2 v3 r_GREGORIAN r_JULIAN r_JULIAN_ANNUNCIATION r_JULIAN_NATAL r_FRENCH_REPUBLICAN r_HIJRI) v14 v17 v38 (spec2 ((((x5 &&& (7 : Int64)) % (6 : Int64))).toInt32) r_GREGORIAN r_JULIAN r_JULIAN_ANNUNCIATION r_JULIAN_NATAL r_FRENCH_REPUBLICAN r_HIJRI)) = v176
                                          · refine o_icmpF (pc' := 503) X180 hx (hb hby at_500) (XT.ii_ne_f c181) rfl ?_
                                            refine o_iconst (pc' := 504) (v := (1 : Int32)) X180 hx (hb hby at_503) rfl rfl ?_
                                            refine o_goto (pc' := 508) X180 hx (hb hby at_504) (by decide) (by decide) ?_
                                            exact J179 T180 X180 e180 _ ((if_pos c178).trans (if_pos c181)).symm
                                          · refine o_icmpT (pc' := 507) X180 hx (hb hby at_500) (XT.ii_ne_t c181) (by decide) (by decide) ?_
                                            refine o_iconst (pc' := 508) (v := (0 : Int32)) X180 hx (hb hby at_507) rfl rfl ?_
                                            exact J179 T180 X180 e180 _ ((if_pos c178).trans (if_neg c181)).symm
                                        · refine o_icmpT (pc' := 507) X177 hx (hb hby at_488) (XT.ii_ne_t c178) (by decide) (by decide) ?_
                                          refine o_iconst (pc' := 508) (v := (0 : Int32)) X177 hx (hb hby at_507) rfl rfl ?_
                                          exact J179 T177 X177 e177 _ (if_neg c178).symm
                                      by_cases c171 : v161 = 0
                                      · refine o_ifT (pc' := 476) X125 hx (hb hby at_450) (XT.i0_eq_t c171) (by decide) (by decide) ?_
                                        refine o_iconst (pc' := 477) (v := (0 : Int32)) X125 hx (hb hby at_476) rfl rfl ?_
                                        exact J172 _ (if_pos c171).symm
                                      · refine o_ifF (pc' := 453) X125 hx (hb hby at_450) (XT.i0_eq_f c171) rfl ?_
                                        refine o_iload (pc' := 455) X125 hx (hb hby at_453) rfl rfl ?_
                                        by_cases c173 : v170 = 0
                                        · refine o_ifT (pc' := 476) X125 hx (hb hby at_455) (XT.i0_eq_t c173) (by decide) (by decide) ?_
                                          refine o_iconst (pc' := 477) (v := (0 : Int32)) X125 hx (hb hby at_476) rfl rfl ?_
                                          exact J172 _ ((if_neg c171).trans (if_pos c173)).symm
                                        · refine o_ifF (pc' := 458) X125 hx (hb hby at_455) (XT.i0_eq_f c173) rfl ?_
                                          refine o_iload (pc' := 460) X125 hx (hb hby at_458) rfl rfl ?_
                                          refine o_iload (pc' := 462) X125 hx (hb hby at_460) rfl rfl ?_
                                          by_cases c174 : v38 = v41
                                          · refine o_icmpF (pc' := 465) X125 hx (hb hby at_462) (XT.ii_ne_f c174) rfl ?_
                                            refine o_iload (pc' := 467) X125 hx (hb hby at_465) rfl rfl ?_
                                            refine o_iload (pc' := 469) X125 hx (hb hby at_467) rfl rfl ?_
                                            by_cases c175 : ((((x5 &&& (7 : Int64)) % (6 : Int64))).toInt32) = v3
                                            · refine o_icmpF (pc' := 472) X125 hx (hb hby at_469) (XT.ii_ne_f c175) rfl ?_
                                              refine o_iconst (pc' := 473) (v := (1 : Int32)) X125 hx (hb hby at_472) rfl rfl ?_
                                              refine o_goto (pc' := 477) X125 hx (hb hby at_473) (by decide) (by decide) ?_
                                              exact J172 _ ((if_neg c171).trans ((if_neg c173).trans ((if_pos c174).trans (if_pos c175)))).symm
                                            · refine o_icmpT (pc' := 476) X125 hx (hb hby at_469) (XT.ii_ne_t c175) (by decide) (by decide) ?_
                                              refine o_iconst (pc' := 477) (v := (0 : Int32)) X125 hx (hb hby at_476) rfl rfl ?_
                                              exact J172 _ ((if_neg c171).trans ((if_neg c173).trans ((if_pos c174).trans (if_neg c175)))).symm
                                          · refine o_icmpT (pc' := 476) X125 hx (hb hby at_462) (XT.ii_ne_t c174) (by decide) (by decide) ?_
                                            refine o_iconst (pc' := 477) (v := (0 : Int32)) X125 hx (hb hby at_476) rfl rfl ?_
                                            exact J172 _ ((if_neg c171).trans ((if_neg c173).trans (if_neg c174))).symm
                                    by_cases c168 : v164 = v167
                                    · refine o_icmpF (pc' := 441) X125 hx (hb hby at_438) (XT.ii_ne_f c168) rfl ?_
                                      refine o_iconst (pc' := 442) (v := (1 : Int32)) X125 hx (hb hby at_441) rfl rfl ?_
                                      refine o_goto (pc' := 446) X125 hx (hb hby at_442) (by decide) (by decide) ?_
                                      exact J169 _ (if_pos c168).symm
                                    · refine o_icmpT (pc' := 445) X125 hx (hb hby at_438) (XT.ii_ne_t c168) (by decide) (by decide) ?_
                                      refine o_iconst (pc' := 446) (v := (0 : Int32)) X125 hx (hb hby at_445) rfl rfl ?_
                                      exact J169 _ (if_neg c168).symm
                                  by_cases c165 : v23 = (-1 : Int32)
                                  · refine o_icmpF (pc' := 433) X125 hx (hb hby at_430) (XT.ii_ne_f c165) rfl ?_
                                    refine o_iconst (pc' := 434) (v := (1 : Int32)) X125 hx (hb hby at_433) rfl rfl ?_
                                    refine o_goto (pc' := 438) X125 hx (hb hby at_434) (by decide) (by decide) ?_
                                    exact J166 _ (if_pos c165).symm
                                  · refine o_icmpT (pc' := 437) X125 hx (hb hby at_430) (XT.ii_ne_t c165) (by decide) (by decide) ?_
                                    refine o_iconst (pc' := 438) (v := (0 : Int32)) X125 hx (hb hby at_437) rfl rfl ?_
                                    exact J166 _ (if_neg c165).symm
                                by_cases c162 : v17 = (-1 : Int32)
                                · refine o_icmpF (pc' := 422) X125 hx (hb hby at_419) (XT.ii_ne_f c162) rfl ?_
                                  refine o_iconst (pc' := 423) (v := (1 : Int32)) X125 hx (hb hby at_422) rfl rfl ?_
                                  refine o_goto (pc' := 427) X125 hx (hb hby at_423) (by decide) (by decide) ?_
                                  exact J163 _ (if_pos c162).symm
                                · refine o_icmpT (pc' := 426) X125 hx (hb hby at_419) (XT.ii_ne_t c162) (by decide) (by decide) ?_
                                  refine o_iconst (pc' := 427) (v := (0 : Int32)) X125 hx (hb hby at_426) rfl rfl ?_
                                  exact J163 _ (if_neg c162).symm
                              by_cases c158 : v14 = (-1 : Int32)
                              · refine o_icmpF (pc' := 403) X125 hx (hb hby at_400) (XT.ii_ne_f c158) rfl ?_
                                refine o_iload (pc' := 405) X125 hx (hb hby at_403) rfl rfl ?_
                                refine o_iconst (pc' := 406) (v := (-1 : Int32)) X125 hx (hb hby at_405) rfl rfl ?_
                                by_cases c160 : v20 = (-1 : Int32)
                                · refine o_icmpF (pc' := 409) X125 hx (hb hby at_406) (XT.ii_ne_f c160) rfl ?_
                                  refine o_iconst (pc' := 410) (v := (1 : Int32)) X125 hx (hb hby at_409) rfl rfl ?_
                                  refine o_goto (pc' := 414) X125 hx (hb hby at_410) (by decide) (by decide) ?_
                                  exact J159 _ ((if_pos c158).trans (if_pos c160)).symm
                                · refine o_icmpT (pc' := 413) X125 hx (hb hby at_406) (XT.ii_ne_t c160) (by decide) (by decide) ?_
                                  refine o_iconst (pc' := 414) (v := (0 : Int32)) X125 hx (hb hby at_413) rfl rfl ?_
                                  exact J159 _ ((if_pos c158).trans (if_neg c160)).symm
                              · refine o_icmpT (pc' := 413) X125 hx (hb hby at_400) (XT.ii_ne_t c158) (by decide) (by decide) ?_
                                refine o_iconst (pc' := 414) (v := (0 : Int32)) X125 hx (hb hby at_413) rfl rfl ?_
                                exact J159 _ (if_neg c158).symm
                            · refine o_ifF (pc' := 316) X5 hx (hb hby at_313) (XT.i0_eq_f c42) rfl ?_
                              obtain ⟨T184, h184_, X184, e184, E184, A184, D184, -, st184⟩ := newO X5 hx hZ hown (hw _ (List.mem_of_getElem? (i := 10) rfl)) (hw _ (List.mem_of_getElem? (i := 11) rfl)) (hw _ (List.mem_of_getElem? (i := 12) rfl)) e5 (g := (mkF m 316 #[.val (.int x0), .val (.int x1), .val (.int x2), .val (.int x3), .val (.int x4), .val (.long x5), .second, .val (.int ((((x5 &&& (7 : Int64)) % (6 : Int64))).toInt32)), .val (.int v3), .val (.ref (spec1 ((((x5 >>> (((7 : Int32)).toInt64 &&& 63)) &&& (3 : Int64))).toInt32) r_YEAR_FIRST r_MONTH_FIRST r_OTHER)), .val (.ref (spec1 ((((x5 >>> (((9 : Int32)).toInt64 &&& 63)) &&& (3 : Int64))).toInt32) r_YEAR_FIRST r_MONTH_FIRST r_OTHER)), .val (.int v8), .val (.int v11), .val (.int v14), .val (.int v17), .val (.int v20), .val (.int v23), .val (.int v26), .val (.int v29), .val (.int v32), .val (.int v35), .val (.int (((x5 >>> (((21 : Int32)).toInt64 &&& 63))).toInt32)), .val (.int (((x5 >>> (((26 : Int32)).toInt64 &&& 63))).toInt32)), .val (.int v38), .val (.int v41), .unset, .unset, .unset, .unset, .unset] [])) rfl (hb hby at_316) (by decide) (by decide)
                              obtain ⟨b184, g184⟩ : ∃ z, z = h0.size := ⟨_, rfl⟩
                              rw [← g184] at A184 D184 st184
                              have ge185 : n0 ≤ b184 := by rw [g184]; exact Z0
                              have K186 := (Keep.refl h0 []).ext E184
                              have F196 := O0.keep K186 all0
                              have Z197 := Nat.le_trans Z0 K186.1
                              have F198 : Fld Z h184_ b184 "org/kalends/expressions/WrittenDate" "year" "I" (.int (0 : Int32)) := D184 (Or.inr (hw _ (List.mem_of_getElem? (i := 31) rfl))) (ty := .int) (by decide)
                              have F199 : Fld Z h184_ b184 "org/kalends/expressions/WrittenDate" "month" "I" (.int (0 : Int32)) := D184 (Or.inr (hw _ (List.mem_of_getElem? (i := 33) rfl))) (ty := .int) (by decide)
                              have F200 : Fld Z h184_ b184 "org/kalends/expressions/WrittenDate" "day" "I" (.int (0 : Int32)) := D184 (Or.inr (hw _ (List.mem_of_getElem? (i := 35) rfl))) (ty := .int) (by decide)
                              have F201 : Fld Z h184_ b184 "org/kalends/expressions/WrittenDate" "length" "I" (.int (0 : Int32)) := D184 (Or.inr (hw _ (List.mem_of_getElem? (i := 37) rfl))) (ty := .int) (by decide)
                              have F202 : Fld Z h184_ b184 "org/kalends/expressions/WrittenDate" "order" "Lorg/kalends/expressions/WrittenDate$Order;" .null := D184 (Or.inr (hw _ (List.mem_of_getElem? (i := 39) rfl))) (ty := (.object "org/kalends/expressions/WrittenDate$Order")) (by decide)
                              have F203 : Fld Z h184_ b184 "org/kalends/expressions/WrittenDate" "weekday" "Ljava/time/DayOfWeek;" .null := D184 (Or.inr (hw _ (List.mem_of_getElem? (i := 41) rfl))) (ty := (.object "java/time/DayOfWeek")) (by decide)
                              have F204 : Fld Z h184_ b184 "org/kalends/expressions/WrittenDate" "mayBeDecade" "Z" (.int (0 : Int32)) := D184 (Or.inr (hw _ (List.mem_of_getElem? (i := 43) rfl))) (ty := .boolean) (by decide)
                              have F205 : Fld Z h184_ b184 "org/kalends/expressions/WrittenDate" "calendar" "Lorg/kalends/calendars/Calendar;" .null := D184 (Or.inr (hw _ (List.mem_of_getElem? (i := 45) rfl))) (ty := (.object "org/kalends/calendars/Calendar")) (by decide)
                              have F206 : Fld Z h184_ b184 "org/kalends/expressions/WrittenDate" "namesCalendar" "Z" (.int (0 : Int32)) := D184 (Or.inr (hw _ (List.mem_of_getElem? (i := 47) rfl))) (ty := .boolean) (by decide)
                              refine oGo.step (f' := (mkF m 319 #[.val (.int x0), .val (.int x1), .val (.int x2), .val (.int x3), .val (.int x4), .val (.long x5), .second, .val (.int ((((x5 &&& (7 : Int64)) % (6 : Int64))).toInt32)), .val (.int v3), .val (.ref (spec1 ((((x5 >>> (((7 : Int32)).toInt64 &&& 63)) &&& (3 : Int64))).toInt32) r_YEAR_FIRST r_MONTH_FIRST r_OTHER)), .val (.ref (spec1 ((((x5 >>> (((9 : Int32)).toInt64 &&& 63)) &&& (3 : Int64))).toInt32) r_YEAR_FIRST r_MONTH_FIRST r_OTHER)), .val (.int v8), .val (.int v11), .val (.int v14), .val (.int v17), .val (.int v20), .val (.int v23), .val (.int v26), .val (.int v29), .val (.int v32), .val (.int v35), .val (.int (((x5 >>> (((21 : Int32)).toInt64 &&& 63))).toInt32)), .val (.int (((x5 >>> (((26 : Int32)).toInt64 &&& 63))).toInt32)), .val (.int v38), .val (.int v41), .unset, .unset, .unset, .unset, .unset] [(.ref b184)])) st184 ?_
                              refine o_dup (pc' := 320) X184 hx (hb hby at_319) rfl rfl ?_
                              refine o_iload (pc' := 322) X184 hx (hb hby at_320) rfl rfl ?_
                              refine o_iload (pc' := 324) X184 hx (hb hby at_322) rfl rfl ?_
                              refine o_iload (pc' := 326) X184 hx (hb hby at_324) rfl rfl ?_
                              refine o_aload (pc' := 328) X184 hx (hb hby at_326) rfl rfl rfl ?_
                              refine o_iload (pc' := 330) X184 hx (hb hby at_328) rfl rfl ?_
                              obtain ⟨r207, T207, L207, X207, hq207, st207⟩ := o_callS X184 hx hZ hown (hw _ (List.mem_of_getElem? (i := 13) rfl)) (hw _ (List.mem_of_getElem? (i := 14) rfl)) (hw _ (List.mem_of_getElem? (i := 5) rfl)) (hw _ (List.mem_of_getElem? (i := 15) rfl)) (by decide) (rm2 l Z a0 hw ((((x5 &&& (7 : Int64)) % (6 : Int64))).toInt32) r_GREGORIAN r_JULIAN r_JULIAN_ANNUNCIATION r_JULIAN_NATAL r_FRENCH_REPUBLICAN r_HIJRI h184_ n0 Z197 F196 S_GREGORIAN S_JULIAN S_JULIAN_ANNUNCIATION S_JULIAN_NATAL S_FRENCH_REPUBLICAN S_HIJRI) e184 (pc' := 333) (Ls := #[.val (.int x0), .val (.int x1), .val (.int x2), .val (.int x3), .val (.int x4), .val (.long x5), .second, .val (.int ((((x5 &&& (7 : Int64)) % (6 : Int64))).toInt32)), .val (.int v3), .val (.ref (spec1 ((((x5 >>> (((7 : Int32)).toInt64 &&& 63)) &&& (3 : Int64))).toInt32) r_YEAR_FIRST r_MONTH_FIRST r_OTHER)), .val (.ref (spec1 ((((x5 >>> (((9 : Int32)).toInt64 &&& 63)) &&& (3 : Int64))).toInt32) r_YEAR_FIRST r_MONTH_FIRST r_OTHER)), .val (.int v8), .val (.int v11), .val (.int v14), .val (.int v17), .val (.int v20), .val (.int v23), .val (.int v26), .val (.int v29), .val (.int v32), .val (.int v35), .val (.int (((x5 >>> (((21 : Int32)).toInt64 &&& 63))).toInt32)), .val (.int (((x5 >>> (((26 : Int32)).toInt64 &&& 63))).toInt32)), .val (.int v38), .val (.int v41), .unset, .unset, .unset, .unset, .unset]) (by rw [hml]; rfl) [(.int ((((x5 &&& (7 : Int64)) % (6 : Int64))).toInt32))] [(.ref (spec1 ((((x5 >>> (((7 : Int32)).toInt64 &&& 63)) &&& (3 : Int64))).toInt32) r_YEAR_FIRST r_MONTH_FIRST r_OTHER)), (.int v14), (.int v17), (.int (((x5 >>> (((21 : Int32)).toInt64 &&& 63))).toInt32)), (.ref b184), (.ref b184)] rfl pd3 rfl rfl 6 (Nat.le_of_eq rfl) (hb hby at_330) rfl (by decide) (by decide) (by decide) (by decide)
                              obtain ⟨rfl, rfl, Kc207⟩ := hq207
                              refine oGo.step (f' := (mkF m 333 #[.val (.int x0), .val (.int x1), .val (.int x2), .val (.int x3), .val (.int x4), .val (.long x5), .second, .val (.int ((((x5 &&& (7 : Int64)) % (6 : Int64))).toInt32)), .val (.int v3), .val (.ref (spec1 ((((x5 >>> (((7 : Int32)).toInt64 &&& 63)) &&& (3 : Int64))).toInt32) r_YEAR_FIRST r_MONTH_FIRST r_OTHER)), .val (.ref (spec1 ((((x5 >>> (((9 : Int32)).toInt64 &&& 63)) &&& (3 : Int64))).toInt32) r_YEAR_FIRST r_MONTH_FIRST r_OTHER)), .val (.int v8), .val (.int v11), .val (.int v14), .val (.int v17), .val (.int v20), .val (.int v23), .val (.int v26), .val (.int v29), .val (.int v32), .val (.int v35), .val (.int (((x5 >>> (((21 : Int32)).toInt64 &&& 63))).toInt32)), .val (.int (((x5 >>> (((26 : Int32)).toInt64 &&& 63))).toInt32)), .val (.int v38), .val (.int v41), .unset, .unset, .unset, .unset, .unset] [(.ref (spec2 ((((x5 &&& (7 : Int64)) % (6 : Int64))).toInt32) r_GREGORIAN r_JULIAN r_JULIAN_ANNUNCIATION r_JULIAN_NATAL r_FRENCH_REPUBLICAN r_HIJRI)), (.ref (spec1 ((((x5 >>> (((7 : Int32)).toInt64 &&& 63)) &&& (3 : Int64))).toInt32) r_YEAR_FIRST r_MONTH_FIRST r_OTHER)), (.int v14), (.int v17), (.int (((x5 >>> (((21 : Int32)).toInt64 &&& 63))).toInt32)), (.ref b184), (.ref b184)])) st207 ?_
                              have e207 : T207.heap = h184_ := Kc207
                              have X207 := o_same X207 rfl rfl
                              obtain ⟨r208, T208, L208, X208, hq208, st208⟩ := o_callN X207 hx hZ hown rfl (hw _ (List.mem_of_getElem? (i := 61) rfl)) (hw _ (List.mem_of_getElem? (i := 62) rfl)) (hw _ (List.mem_of_getElem? (i := 12) rfl)) (hw _ (List.mem_of_getElem? (i := 63) rfl)) (by decide) (rm7 l Z a0 hw b184 (((x5 >>> (((21 : Int32)).toInt64 &&& 63))).toInt32) v17 v14 (spec1 ((((x5 >>> (((7 : Int32)).toInt64 &&& 63)) &&& (3 : Int64))).toInt32) r_YEAR_FIRST r_MONTH_FIRST r_OTHER) (spec2 ((((x5 &&& (7 : Int64)) % (6 : Int64))).toInt32) r_GREGORIAN r_JULIAN r_JULIAN_ANNUNCIATION r_JULIAN_NATAL r_FRENCH_REPUBLICAN r_HIJRI) (0 : Int32) (0 : Int32) (0 : Int32) (0 : Int32) (0 : Int32) (0 : Int32) h184_ n0 Z197 A184 F198 F199 F200 F201 F202 F203 F204 F205 F206 ge185) e207 (pc' := 336) (Ls := #[.val (.int x0), .val (.int x1), .val (.int x2), .val (.int x3), .val (.int x4), .val (.long x5), .second, .val (.int ((((x5 &&& (7 : Int64)) % (6 : Int64))).toInt32)), .val (.int v3), .val (.ref (spec1 ((((x5 >>> (((7 : Int32)).toInt64 &&& 63)) &&& (3 : Int64))).toInt32) r_YEAR_FIRST r_MONTH_FIRST r_OTHER)), .val (.ref (spec1 ((((x5 >>> (((9 : Int32)).toInt64 &&& 63)) &&& (3 : Int64))).toInt32) r_YEAR_FIRST r_MONTH_FIRST r_OTHER)), .val (.int v8), .val (.int v11), .val (.int v14), .val (.int v17), .val (.int v20), .val (.int v23), .val (.int v26), .val (.int v29), .val (.int v32), .val (.int v35), .val (.int (((x5 >>> (((21 : Int32)).toInt64 &&& 63))).toInt32)), .val (.int (((x5 >>> (((26 : Int32)).toInt64 &&& 63))).toInt32)), .val (.int v38), .val (.int v41), .unset, .unset, .unset, .unset, .unset]) (by rw [hml]; rfl) [(.int (((x5 >>> (((21 : Int32)).toInt64 &&& 63))).toInt32)), (.int v17), (.int v14), (.ref (spec1 ((((x5 >>> (((7 : Int32)).toInt64 &&& 63)) &&& (3 : Int64))).toInt32) r_YEAR_FIRST r_MONTH_FIRST r_OTHER)), (.ref (spec2 ((((x5 &&& (7 : Int64)) % (6 : Int64))).toInt32) r_GREGORIAN r_JULIAN r_JULIAN_ANNUNCIATION r_JULIAN_NATAL r_FRENCH_REPUBLICAN r_HIJRI))] [(.ref b184)] rfl pd5 rfl rfl 1 (Nat.le_of_eq rfl) (hb hby at_333) rfl (by decide) (by decide) (by decide) (by decide)
                              obtain ⟨rfl, N208, Kc208, E208_, F208_year, F208_month, F208_day, F208_length, F208_order, F208_weekday, F208_mayBeDecade, F208_calendar, F208_namesCalendar⟩ := hq208
                              refine oGo.step (f' := (mkF m 336 #[.val (.int x0), .val (.int x1), .val (.int x2), .val (.int x3), .val (.int x4), .val (.long x5), .second, .val (.int ((((x5 &&& (7 : Int64)) % (6 : Int64))).toInt32)), .val (.int v3), .val (.ref (spec1 ((((x5 >>> (((7 : Int32)).toInt64 &&& 63)) &&& (3 : Int64))).toInt32) r_YEAR_FIRST r_MONTH_FIRST r_OTHER)), .val (.ref (spec1 ((((x5 >>> (((9 : Int32)).toInt64 &&& 63)) &&& (3 : Int64))).toInt32) r_YEAR_FIRST r_MONTH_FIRST r_OTHER)), .val (.int v8), .val (.int v11), .val (.int v14), .val (.int v17), .val (.int v20), .val (.int v23), .val (.int v26), .val (.int v29), .val (.int v32), .val (.int v35), .val (.int (((x5 >>> (((21 : Int32)).toInt64 &&& 63))).toInt32)), .val (.int (((x5 >>> (((26 : Int32)).toInt64 &&& 63))).toInt32)), .val (.int v38), .val (.int v41), .unset, .unset, .unset, .unset, .unset] [(.ref b184)])) st208 ?_
                              have N208_ := Fr.app N0 N208
                              have K209 := Kc208
                              have F219 := F196.keep K209 (allS ge185 all0)
                              have F220 := A184.keep K209
                              have Z230 := Nat.le_trans Z197 K209.1
                              have X208 := o_flat X208 rfl rfl
                              refine o_goto (pc' := 366) X208 hx (hb hby at_336) (by decide) (by decide) ?_
                              refine o_astore (pc' := 368) (l' := #[.val (.int x0), .val (.int x1), .val (.int x2), .val (.int x3), .val (.int x4), .val (.long x5), .second, .val (.int ((((x5 &&& (7 : Int64)) % (6 : Int64))).toInt32)), .val (.int v3), .val (.ref (spec1 ((((x5 >>> (((7 : Int32)).toInt64 &&& 63)) &&& (3 : Int64))).toInt32) r_YEAR_FIRST r_MONTH_FIRST r_OTHER)), .val (.ref (spec1 ((((x5 >>> (((9 : Int32)).toInt64 &&& 63)) &&& (3 : Int64))).toInt32) r_YEAR_FIRST r_MONTH_FIRST r_OTHER)), .val (.int v8), .val (.int v11), .val (.int v14), .val (.int v17), .val (.int v20), .val (.int v23), .val (.int v26), .val (.int v29), .val (.int v32), .val (.int v35), .val (.int (((x5 >>> (((21 : Int32)).toInt64 &&& 63))).toInt32)), .val (.int (((x5 >>> (((26 : Int32)).toInt64 &&& 63))).toInt32)), .val (.int v38), .val (.int v41), .val (.ref b184), .unset, .unset, .unset, .unset]) X208 hx (hb hby at_366) rfl rfl rfl ?_
                              obtain ⟨T231, h231_, X231, e231, E231, A231, D231, -, st231⟩ := newO X208 hx hZ hown (hw _ (List.mem_of_getElem? (i := 10) rfl)) (hw _ (List.mem_of_getElem? (i := 11) rfl)) (hw _ (List.mem_of_getElem? (i := 12) rfl)) (rfl : T208.heap = _) (g := (mkF m 368 #[.val (.int x0), .val (.int x1), .val (.int x2), .val (.int x3), .val (.int x4), .val (.long x5), .second, .val (.int ((((x5 &&& (7 : Int64)) % (6 : Int64))).toInt32)), .val (.int v3), .val (.ref (spec1 ((((x5 >>> (((7 : Int32)).toInt64 &&& 63)) &&& (3 : Int64))).toInt32) r_YEAR_FIRST r_MONTH_FIRST r_OTHER)), .val (.ref (spec1 ((((x5 >>> (((9 : Int32)).toInt64 &&& 63)) &&& (3 : Int64))).toInt32) r_YEAR_FIRST r_MONTH_FIRST r_OTHER)), .val (.int v8), .val (.int v11), .val (.int v14), .val (.int v17), .val (.int v20), .val (.int v23), .val (.int v26), .val (.int v29), .val (.int v32), .val (.int v35), .val (.int (((x5 >>> (((21 : Int32)).toInt64 &&& 63))).toInt32)), .val (.int (((x5 >>> (((26 : Int32)).toInt64 &&& 63))).toInt32)), .val (.int v38), .val (.int v41), .val (.ref b184), .unset, .unset, .unset, .unset] [])) rfl (hb hby at_368) (by decide) (by decide)
                              obtain ⟨b231, g231⟩ : ∃ z, z = T208.heap.size := ⟨_, rfl⟩
                              rw [← g231] at A231 D231 st231
                              have ne232 : b184 ≠ b231 := by rw [g231]; exact Nat.ne_of_lt E208_.lt
                              have ge233 : n0 ≤ b231 := by rw [g231]; exact Z230
                              have K234 := (Keep.refl T208.heap []).ext E231
                              have F244 := F219.keep K234 all0
                              have F245 := E208_.keep K234
                              have F246 := F208_year.keep K234 nin0
                              have F247 := F208_month.keep K234 nin0
                              have F248 := F208_day.keep K234 nin0
                              have F249 := F208_length.keep K234 nin0
                              have F250 := F208_order.keep K234 nin0
                              have F251 := F208_weekday.keep K234 nin0
                              have F252 := F208_mayBeDecade.keep K234 nin0
                              have F253 := F208_calendar.keep K234 nin0
                              have F254 := F208_namesCalendar.keep K234 nin0
                              have Z255 := Nat.le_trans Z230 K234.1
                              have F256 : Fld Z h231_ b231 "org/kalends/expressions/WrittenDate" "year" "I" (.int (0 : Int32)) := D231 (Or.inr (hw _ (List.mem_of_getElem? (i := 31) rfl))) (ty := .int) (by decide)
                              have F257 : Fld Z h231_ b231 "org/kalends/expressions/WrittenDate" "month" "I" (.int (0 : Int32)) := D231 (Or.inr (hw _ (List.mem_of_getElem? (i := 33) rfl))) (ty := .int) (by decide)
                              have F258 : Fld Z h231_ b231 "org/kalends/expressions/WrittenDate" "day" "I" (.int (0 : Int32)) := D231 (Or.inr (hw _ (List.mem_of_getElem? (i := 35) rfl))) (ty := .int) (by decide)
                              have F259 : Fld Z h231_ b231 "org/kalends/expressions/WrittenDate" "length" "I" (.int (0 : Int32)) := D231 (Or.inr (hw _ (List.mem_of_getElem? (i := 37) rfl))) (ty := .int) (by decide)
                              have F260 : Fld Z h231_ b231 "org/kalends/expressions/WrittenDate" "order" "Lorg/kalends/expressions/WrittenDate$Order;" .null := D231 (Or.inr (hw _ (List.mem_of_getElem? (i := 39) rfl))) (ty := (.object "org/kalends/expressions/WrittenDate$Order")) (by decide)
                              have F261 : Fld Z h231_ b231 "org/kalends/expressions/WrittenDate" "weekday" "Ljava/time/DayOfWeek;" .null := D231 (Or.inr (hw _ (List.mem_of_getElem? (i := 41) rfl))) (ty := (.object "java/time/DayOfWeek")) (by decide)
                              have F262 : Fld Z h231_ b231 "org/kalends/expressions/WrittenDate" "mayBeDecade" "Z" (.int (0 : Int32)) := D231 (Or.inr (hw _ (List.mem_of_getElem? (i := 43) rfl))) (ty := .boolean) (by decide)
                              have F263 : Fld Z h231_ b231 "org/kalends/expressions/WrittenDate" "calendar" "Lorg/kalends/calendars/Calendar;" .null := D231 (Or.inr (hw _ (List.mem_of_getElem? (i := 45) rfl))) (ty := (.object "org/kalends/calendars/Calendar")) (by decide)
                              have F264 : Fld Z h231_ b231 "org/kalends/expressions/WrittenDate" "namesCalendar" "Z" (.int (0 : Int32)) := D231 (Or.inr (hw _ (List.mem_of_getElem? (i := 47) rfl))) (ty := .boolean) (by decide)
                              refine oGo.step (f' := (mkF m 371 #[.val (.int x0), .val (.int x1), .val (.int x2), .val (.int x3), .val (.int x4), .val (.long x5), .second, .val (.int ((((x5 &&& (7 : Int64)) % (6 : Int64))).toInt32)), .val (.int v3), .val (.ref (spec1 ((((x5 >>> (((7 : Int32)).toInt64 &&& 63)) &&& (3 : Int64))).toInt32) r_YEAR_FIRST r_MONTH_FIRST r_OTHER)), .val (.ref (spec1 ((((x5 >>> (((9 : Int32)).toInt64 &&& 63)) &&& (3 : Int64))).toInt32) r_YEAR_FIRST r_MONTH_FIRST r_OTHER)), .val (.int v8), .val (.int v11), .val (.int v14), .val (.int v17), .val (.int v20), .val (.int v23), .val (.int v26), .val (.int v29), .val (.int v32), .val (.int v35), .val (.int (((x5 >>> (((21 : Int32)).toInt64 &&& 63))).toInt32)), .val (.int (((x5 >>> (((26 : Int32)).toInt64 &&& 63))).toInt32)), .val (.int v38), .val (.int v41), .val (.ref b184), .unset, .unset, .unset, .unset] [(.ref b231)])) st231 ?_
                              refine o_dup (pc' := 372) X231 hx (hb hby at_371) rfl rfl ?_
                              refine o_iload (pc' := 374) X231 hx (hb hby at_372) rfl rfl ?_
                              refine o_iload (pc' := 376) X231 hx (hb hby at_374) rfl rfl ?_
                              refine o_iload (pc' := 378) X231 hx (hb hby at_376) rfl rfl ?_
                              refine o_iload (pc' := 380) X231 hx (hb hby at_378) rfl rfl ?_
                              refine o_aload (pc' := 382) X231 hx (hb hby at_380) rfl rfl rfl ?_
                              refine o_anull (pc' := 383) X231 hx (hb hby at_382)  rfl ?_
                              refine o_iload (pc' := 385) X231 hx (hb hby at_383) rfl rfl ?_
                              refine o_iload (pc' := 387) X231 hx (hb hby at_385) rfl rfl ?_
                              obtain ⟨r265, T265, L265, X265, hq265, st265⟩ := o_callS X231 hx hZ hown (hw _ (List.mem_of_getElem? (i := 13) rfl)) (hw _ (List.mem_of_getElem? (i := 14) rfl)) (hw _ (List.mem_of_getElem? (i := 5) rfl)) (hw _ (List.mem_of_getElem? (i := 15) rfl)) (by decide) (rm2 l Z a0 hw v3 r_GREGORIAN r_JULIAN r_JULIAN_ANNUNCIATION r_JULIAN_NATAL r_FRENCH_REPUBLICAN r_HIJRI h231_ n0 Z255 F244 S_GREGORIAN S_JULIAN S_JULIAN_ANNUNCIATION S_JULIAN_NATAL S_FRENCH_REPUBLICAN S_HIJRI) e231 (pc' := 390) (Ls := #[.val (.int x0), .val (.int x1), .val (.int x2), .val (.int x3), .val (.int x4), .val (.long x5), .second, .val (.int ((((x5 &&& (7 : Int64)) % (6 : Int64))).toInt32)), .val (.int v3), .val (.ref (spec1 ((((x5 >>> (((7 : Int32)).toInt64 &&& 63)) &&& (3 : Int64))).toInt32) r_YEAR_FIRST r_MONTH_FIRST r_OTHER)), .val (.ref (spec1 ((((x5 >>> (((9 : Int32)).toInt64 &&& 63)) &&& (3 : Int64))).toInt32) r_YEAR_FIRST r_MONTH_FIRST r_OTHER)), .val (.int v8), .val (.int v11), .val (.int v14), .val (.int v17), .val (.int v20), .val (.int v23), .val (.int v26), .val (.int v29), .val (.int v32), .val (.int v35), .val (.int (((x5 >>> (((21 : Int32)).toInt64 &&& 63))).toInt32)), .val (.int (((x5 >>> (((26 : Int32)).toInt64 &&& 63))).toInt32)), .val (.int v38), .val (.int v41), .val (.ref b184), .unset, .unset, .unset, .unset]) (by rw [hml]; rfl) [(.int v3)] [(.int v32), .null, (.ref (spec1 ((((x5 >>> (((9 : Int32)).toInt64 &&& 63)) &&& (3 : Int64))).toInt32) r_YEAR_FIRST r_MONTH_FIRST r_OTHER)), (.int v41), (.int v20), (.int v23), (.int (((x5 >>> (((26 : Int32)).toInt64 &&& 63))).toInt32)), (.ref b231), (.ref b231)] rfl pd3 rfl rfl 9 (Nat.le_of_eq rfl) (hb hby at_387) rfl (by decide) (by decide) (by decide) (by decide)
                              obtain ⟨rfl, rfl, Kc265⟩ := hq265
                              refine oGo.step (f' := (mkF m 390 #[.val (.int x0), .val (.int x1), .val (.int x2), .val (.int x3), .val (.int x4), .val (.long x5), .second, .val (.int ((((x5 &&& (7 : Int64)) % (6 : Int64))).toInt32)), .val (.int v3), .val (.ref (spec1 ((((x5 >>> (((7 : Int32)).toInt64 &&& 63)) &&& (3 : Int64))).toInt32) r_YEAR_FIRST r_MONTH_FIRST r_OTHER)), .val (.ref (spec1 ((((x5 >>> (((9 : Int32)).toInt64 &&& 63)) &&& (3 : Int64))).toInt32) r_YEAR_FIRST r_MONTH_FIRST r_OTHER)), .val (.int v8), .val (.int v11), .val (.int v14), .val (.int v17), .val (.int v20), .val (.int v23), .val (.int v26), .val (.int v29), .val (.int v32), .val (.int v35), .val (.int (((x5 >>> (((21 : Int32)).toInt64 &&& 63))).toInt32)), .val (.int (((x5 >>> (((26 : Int32)).toInt64 &&& 63))).toInt32)), .val (.int v38), .val (.int v41), .val (.ref b184), .unset, .unset, .unset, .unset] [(.ref (spec2 v3 r_GREGORIAN r_JULIAN r_JULIAN_ANNUNCIATION r_JULIAN_NATAL r_FRENCH_REPUBLICAN r_HIJRI)), (.int v32), .null, (.ref (spec1 ((((x5 >>> (((9 : Int32)).toInt64 &&& 63)) &&& (3 : Int64))).toInt32) r_YEAR_FIRST r_MONTH_FIRST r_OTHER)), (.int v41), (.int v20), (.int v23), (.int (((x5 >>> (((26 : Int32)).toInt64 &&& 63))).toInt32)), (.ref b231), (.ref b231)])) st265 ?_
                              have e265 : T265.heap = h231_ := Kc265
                              have X265 := o_same X265 rfl rfl
                              refine o_iload (pc' := 392) X265 hx (hb hby at_390) rfl rfl ?_
                              obtain ⟨r266, T266, L266, X266, hq266, st266⟩ := o_callN X265 hx hZ hown rfl (hw _ (List.mem_of_getElem? (i := 19) rfl)) (hw _ (List.mem_of_getElem? (i := 20) rfl)) (hw _ (List.mem_of_getElem? (i := 12) rfl)) (hw _ (List.mem_of_getElem? (i := 21) rfl)) (by decide) (rm3 l Z a0 hw b231 (((x5 >>> (((26 : Int32)).toInt64 &&& 63))).toInt32) v23 v20 v41 (spec1 ((((x5 >>> (((9 : Int32)).toInt64 &&& 63)) &&& (3 : Int64))).toInt32) r_YEAR_FIRST r_MONTH_FIRST r_OTHER) v32 (spec2 v3 r_GREGORIAN r_JULIAN r_JULIAN_ANNUNCIATION r_JULIAN_NATAL r_FRENCH_REPUBLICAN r_HIJRI) v35 (0 : Int32) (0 : Int32) (0 : Int32) (0 : Int32) (0 : Int32) (0 : Int32) h231_ n0 Z255 A231 F256 F257 F258 F259 F260 F261 F262 F263 F264 ge233 (by rw [hv32]; split <;> simp) (by rw [hv35]; split <;> simp)) e265 (pc' := 395) (Ls := #[.val (.int x0), .val (.int x1), .val (.int x2), .val (.int x3), .val (.int x4), .val (.long x5), .second, .val (.int ((((x5 &&& (7 : Int64)) % (6 : Int64))).toInt32)), .val (.int v3), .val (.ref (spec1 ((((x5 >>> (((7 : Int32)).toInt64 &&& 63)) &&& (3 : Int64))).toInt32) r_YEAR_FIRST r_MONTH_FIRST r_OTHER)), .val (.ref (spec1 ((((x5 >>> (((9 : Int32)).toInt64 &&& 63)) &&& (3 : Int64))).toInt32) r_YEAR_FIRST r_MONTH_FIRST r_OTHER)), .val (.int v8), .val (.int v11), .val (.int v14), .val (.int v17), .val (.int v20), .val (.int v23), .val (.int v26), .val (.int v29), .val (.int v32), .val (.int v35), .val (.int (((x5 >>> (((21 : Int32)).toInt64 &&& 63))).toInt32)), .val (.int (((x5 >>> (((26 : Int32)).toInt64 &&& 63))).toInt32)), .val (.int v38), .val (.int v41), .val (.ref b184), .unset, .unset, .unset, .unset]) (by rw [hml]; rfl) [(.int (((x5 >>> (((26 : Int32)).toInt64 &&& 63))).toInt32)), (.int v23), (.int v20), (.int v41), (.ref (spec1 ((((x5 >>> (((9 : Int32)).toInt64 &&& 63)) &&& (3 : Int64))).toInt32) r_YEAR_FIRST r_MONTH_FIRST r_OTHER)), .null, (.int v32), (.ref (spec2 v3 r_GREGORIAN r_JULIAN r_JULIAN_ANNUNCIATION r_JULIAN_NATAL r_FRENCH_REPUBLICAN r_HIJRI)), (.int v35)] [(.ref b231)] rfl pd1 rfl rfl 1 (Nat.le_of_eq rfl) (hb hby at_392) rfl (by decide) (by decide) (by decide) (by decide)
                              obtain ⟨rfl, N266, Kc266, E266_, F266_year, F266_month, F266_day, F266_length, F266_order, F266_weekday, F266_mayBeDecade, F266_calendar, F266_namesCalendar⟩ := hq266
                              refine oGo.step (f' := (mkF m 395 #[.val (.int x0), .val (.int x1), .val (.int x2), .val (.int x3), .val (.int x4), .val (.long x5), .second, .val (.int ((((x5 &&& (7 : Int64)) % (6 : Int64))).toInt32)), .val (.int v3), .val (.ref (spec1 ((((x5 >>> (((7 : Int32)).toInt64 &&& 63)) &&& (3 : Int64))).toInt32) r_YEAR_FIRST r_MONTH_FIRST r_OTHER)), .val (.ref (spec1 ((((x5 >>> (((9 : Int32)).toInt64 &&& 63)) &&& (3 : Int64))).toInt32) r_YEAR_FIRST r_MONTH_FIRST r_OTHER)), .val (.int v8), .val (.int v11), .val (.int v14), .val (.int v17), .val (.int v20), .val (.int v23), .val (.int v26), .val (.int v29), .val (.int v32), .val (.int v35), .val (.int (((x5 >>> (((21 : Int32)).toInt64 &&& 63))).toInt32)), .val (.int (((x5 >>> (((26 : Int32)).toInt64 &&& 63))).toInt32)), .val (.int v38), .val (.int v41), .val (.ref b184), .unset, .unset, .unset, .unset] [(.ref b231)])) st266 ?_
                              have N266_ := Fr.app N208_ N266
                              have K267 := Kc266
                              have F277 := F244.keep K267 (allS ge233 all0)
                              have F278 := F245.keep K267
                              have F279 := F246.keep K267 (ninS ne232 nin0)
                              have F280 := F247.keep K267 (ninS ne232 nin0)
                              have F281 := F248.keep K267 (ninS ne232 nin0)
                              have F282 := F249.keep K267 (ninS ne232 nin0)
                              have F283 := F250.keep K267 (ninS ne232 nin0)
                              have F284 := F251.keep K267 (ninS ne232 nin0)
                              have F285 := F252.keep K267 (ninS ne232 nin0)
                              have F286 := F253.keep K267 (ninS ne232 nin0)
                              have F287 := F254.keep K267 (ninS ne232 nin0)
                              have F288 := A231.keep K267
                              have Z298 := Nat.le_trans Z255 K267.1
                              have X266 := o_flat X266 rfl rfl
                              refine o_astore (pc' := 397) (l' := #[.val (.int x0), .val (.int x1), .val (.int x2), .val (.int x3), .val (.int x4), .val (.long x5), .second, .val (.int ((((x5 &&& (7 : Int64)) % (6 : Int64))).toInt32)), .val (.int v3), .val (.ref (spec1 ((((x5 >>> (((7 : Int32)).toInt64 &&& 63)) &&& (3 : Int64))).toInt32) r_YEAR_FIRST r_MONTH_FIRST r_OTHER)), .val (.ref (spec1 ((((x5 >>> (((9 : Int32)).toInt64 &&& 63)) &&& (3 : Int64))).toInt32) r_YEAR_FIRST r_MONTH_FIRST r_OTHER)), .val (.int v8), .val (.int v11), .val (.int v14), .val (.int v17), .val (.int v20), .val (.int v23), .val (.int v26), .val (.int v29), .val (.int v32), .val (.int v35), .val (.int (((x5 >>> (((21 : Int32)).toInt64 &&& 63))).toInt32)), .val (.int (((x5 >>> (((26 : Int32)).toInt64 &&& 63))).toInt32)), .val (.int v38), .val (.int v41), .val (.ref b184), .val (.ref b231), .unset, .unset, .unset]) X266 hx (hb hby at_395) rfl rfl rfl ?_
                              refine o_iload (pc' := 399) X266 hx (hb hby at_397) rfl rfl ?_
                              refine o_iconst (pc' := 400) (v := (-1 : Int32)) X266 hx (hb hby at_399) rfl rfl ?_
                              have J300 : ∀ (v302 : Int32), v302 = (if v14 = (-1 : Int32) then (if v20 = (-1 : Int32) then (1 : Int32) else (0 : Int32)) else (0 : Int32)) → oGo p e below (oG s (fun v h L => v = some (.int 1) ∧ Fr n0 L) room_1.cells room_1.slots) T266 (mkF m 414 #[.val (.int x0), .val (.int x1), .val (.int x2), .val (.int x3), .val (.int x4), .val (.long x5), .second, .val (.int ((((x5 &&& (7 : Int64)) % (6 : Int64))).toInt32)), .val (.int v3), .val (.ref (spec1 ((((x5 >>> (((7 : Int32)).toInt64 &&& 63)) &&& (3 : Int64))).toInt32) r_YEAR_FIRST r_MONTH_FIRST r_OTHER)), .val (.ref (spec1 ((((x5 >>> (((9 : Int32)).toInt64 &&& 63)) &&& (3 : Int64))).toInt32) r_YEAR_FIRST r_MONTH_FIRST r_OTHER)), .val (.int v8), .val (.int v11), .val (.int v14), .val (.int v17), .val (.int v20), .val (.int v23), .val (.int v26), .val (.int v29), .val (.int v32), .val (.int v35), .val (.int (((x5 >>> (((21 : Int32)).toInt64 &&& 63))).toInt32)), .val (.int (((x5 >>> (((26 : Int32)).toInt64 &&& 63))).toInt32)), .val (.int v38), .val (.int v41), .val (.ref b184), .val (.ref b231), .unset, .unset, .unset] [(.int v302)]) := by
                                intro v302 hv302
                                refine o_istore (pc' := 416) (l' := #[.val (.int x0), .val (.int x1), .val (.int x2), .val (.int x3), .val (.int x4), .val (.long x5), .second, .val (.int ((((x5 &&& (7 : Int64)) % (6 : Int64))).toInt32)), .val (.int v3), .val (.ref (spec1 ((((x5 >>> (((7 : Int32)).toInt64 &&& 63)) &&& (3 : Int64))).toInt32) r_YEAR_FIRST r_MONTH_FIRST r_OTHER)), .val (.ref (spec1 ((((x5 >>> (((9 : Int32)).toInt64 &&& 63)) &&& (3 : Int64))).toInt32) r_YEAR_FIRST r_MONTH_FIRST r_OTHER)), .val (.int v8), .val (.int v11), .val (.int v14), .val (.int v17), .val (.int v20), .val (.int v23), .val (.int v26), .val (.int v29), .val (.int v32), .val (.int v35), .val (.int (((x5 >>> (((21 : Int32)).toInt64 &&& 63))).toInt32)), .val (.int (((x5 >>> (((26 : Int32)).toInt64 &&& 63))).toInt32)), .val (.int v38), .val (.int v41), .val (.ref b184), .val (.ref b231), .val (.int v302), .unset, .unset]) X266 hx (hb hby at_414) rfl rfl ?_
                                refine o_iload (pc' := 418) X266 hx (hb hby at_416) rfl rfl ?_
                                refine o_iconst (pc' := 419) (v := (-1 : Int32)) X266 hx (hb hby at_418) rfl rfl ?_
                                have J304 : ∀ (v305 : Int32), v305 = (if v17 = (-1 : Int32) then (1 : Int32) else (0 : Int32)) → oGo p e below (oG s (fun v h L => v = some (.int 1) ∧ Fr n0 L) room_1.cells room_1.slots) T266 (mkF m 427 #[.val (.int x0), .val (.int x1), .val (.int x2), .val (.int x3), .val (.int x4), .val (.long x5), .second, .val (.int ((((x5 &&& (7 : Int64)) % (6 : Int64))).toInt32)), .val (.int v3), .val (.ref (spec1 ((((x5 >>> (((7 : Int32)).toInt64 &&& 63)) &&& (3 : Int64))).toInt32) r_YEAR_FIRST r_MONTH_FIRST r_OTHER)), .val (.ref (spec1 ((((x5 >>> (((9 : Int32)).toInt64 &&& 63)) &&& (3 : Int64))).toInt32) r_YEAR_FIRST r_MONTH_FIRST r_OTHER)), .val (.int v8), .val (.int v11), .val (.int v14), .val (.int v17), .val (.int v20), .val (.int v23), .val (.int v26), .val (.int v29), .val (.int v32), .val (.int v35), .val (.int (((x5 >>> (((21 : Int32)).toInt64 &&& 63))).toInt32)), .val (.int (((x5 >>> (((26 : Int32)).toInt64 &&& 63))).toInt32)), .val (.int v38), .val (.int v41), .val (.ref b184), .val (.ref b231), .val (.int v302), .unset, .unset] [(.int v305)]) := by
                                  intro v305 hv305
                                  refine o_iload (pc' := 429) X266 hx (hb hby at_427) rfl rfl ?_
                                  refine o_iconst (pc' := 430) (v := (-1 : Int32)) X266 hx (hb hby at_429) rfl rfl ?_
                                  have J307 : ∀ (v308 : Int32), v308 = (if v23 = (-1 : Int32) then (1 : Int32) else (0 : Int32)) → oGo p e below (oG s (fun v h L => v = some (.int 1) ∧ Fr n0 L) room_1.cells room_1.slots) T266 (mkF m 438 #[.val (.int x0), .val (.int x1), .val (.int x2), .val (.int x3), .val (.int x4), .val (.long x5), .second, .val (.int ((((x5 &&& (7 : Int64)) % (6 : Int64))).toInt32)), .val (.int v3), .val (.ref (spec1 ((((x5 >>> (((7 : Int32)).toInt64 &&& 63)) &&& (3 : Int64))).toInt32) r_YEAR_FIRST r_MONTH_FIRST r_OTHER)), .val (.ref (spec1 ((((x5 >>> (((9 : Int32)).toInt64 &&& 63)) &&& (3 : Int64))).toInt32) r_YEAR_FIRST r_MONTH_FIRST r_OTHER)), .val (.int v8), .val (.int v11), .val (.int v14), .val (.int v17), .val (.int v20), .val (.int v23), .val (.int v26), .val (.int v29), .val (.int v32), .val (.int v35), .val (.int (((x5 >>> (((21 : Int32)).toInt64 &&& 63))).toInt32)), .val (.int (((x5 >>> (((26 : Int32)).toInt64 &&& 63))).toInt32)), .val (.int v38), .val (.int v41), .val (.ref b184), .val (.ref b231), .val (.int v302), .unset, .unset] [(.int v308), (.int v305)]) := by
                                    intro v308 hv308
                                    have J310 : ∀ (v311 : Int32), v311 = (if v305 = v308 then (1 : Int32) else (0 : Int32)) → oGo p e below (oG s (fun v h L => v = some (.int 1) ∧ Fr n0 L) room_1.cells room_1.slots) T266 (mkF m 446 #[.val (.int x0), .val (.int x1), .val (.int x2), .val (.int x3), .val (.int x4), .val (.long x5), .second, .val (.int ((((x5 &&& (7 : Int64)) % (6 : Int64))).toInt32)), .val (.int v3), .val (.ref (spec1 ((((x5 >>> (((7 : Int32)).toInt64 &&& 63)) &&& (3 : Int64))).toInt32) r_YEAR_FIRST r_MONTH_FIRST r_OTHER)), .val (.ref (spec1 ((((x5 >>> (((9 : Int32)).toInt64 &&& 63)) &&& (3 : Int64))).toInt32) r_YEAR_FIRST r_MONTH_FIRST r_OTHER)), .val (.int v8), .val (.int v11), .val (.int v14), .val (.int v17), .val (.int v20), .val (.int v23), .val (.int v26), .val (.int v29), .val (.int v32), .val (.int v35), .val (.int (((x5 >>> (((21 : Int32)).toInt64 &&& 63))).toInt32)), .val (.int (((x5 >>> (((26 : Int32)).toInt64 &&& 63))).toInt32)), .val (.int v38), .val (.int v41), .val (.ref b184), .val (.ref b231), .val (.int v302), .unset, .unset] [(.int v311)]) := by
                                      intro v311 hv311
                                      refine o_istore (pc' := 448) (l' := #[.val (.int x0), .val (.int x1), .val (.int x2), .val (.int x3), .val (.int x4), .val (.long x5), .second, .val (.int ((((x5 &&& (7 : Int64)) % (6 : Int64))).toInt32)), .val (.int v3), .val (.ref (spec1 ((((x5 >>> (((7 : Int32)).toInt64 &&& 63)) &&& (3 : Int64))).toInt32) r_YEAR_FIRST r_MONTH_FIRST r_OTHER)), .val (.ref (spec1 ((((x5 >>> (((9 : Int32)).toInt64 &&& 63)) &&& (3 : Int64))).toInt32) r_YEAR_FIRST r_MONTH_FIRST r_OTHER)), .val (.int v8), .val (.int v11), .val (.int v14), .val (.int v17), .val (.int v20), .val (.int v23), .val (.int v26), .val (.int v29), .val (.int v32), .val (.int v35), .val (.int (((x5 >>> (((21 : Int32)).toInt64 &&& 63))).toInt32)), .val (.int (((x5 >>> (((26 : Int32)).toInt64 &&& 63))).toInt32)), .val (.int v38), .val (.int v41), .val (.ref b184), .val (.ref b231), .val (.int v302), .val (.int v311), .unset]) X266 hx (hb hby at_446) rfl rfl ?_
                                      refine o_iload (pc' := 450) X266 hx (hb hby at_448) rfl rfl ?_
                                      have J313 : ∀ (v317 : Int32), v317 = (if v302 = 0 then (0 : Int32) else (if v311 = 0 then (0 : Int32) else (if v38 = v41 then (if ((((x5 &&& (7 : Int64)) % (6 : Int64))).toInt32) = v3 then (1 : Int32) else (0 : Int32)) else (0 : Int32)))) → oGo p e below (oG s (fun v h L => v = some (.int 1) ∧ Fr n0 L) room_1.cells room_1.slots) T266 (mkF m 477 #[.val (.int x0), .val (.int x1), .val (.int x2), .val (.int x3), .val (.int x4), .val (.long x5), .second, .val (.int ((((x5 &&& (7 : Int64)) % (6 : Int64))).toInt32)), .val (.int v3), .val (.ref (spec1 ((((x5 >>> (((7 : Int32)).toInt64 &&& 63)) &&& (3 : Int64))).toInt32) r_YEAR_FIRST r_MONTH_FIRST r_OTHER)), .val (.ref (spec1 ((((x5 >>> (((9 : Int32)).toInt64 &&& 63)) &&& (3 : Int64))).toInt32) r_YEAR_FIRST r_MONTH_FIRST r_OTHER)), .val (.int v8), .val (.int v11), .val (.int v14), .val (.int v17), .val (.int v20), .val (.int v23), .val (.int v26), .val (.int v29), .val (.int v32), .val (.int v35), .val (.int (((x5 >>> (((21 : Int32)).toInt64 &&& 63))).toInt32)), .val (.int (((x5 >>> (((26 : Int32)).toInt64 &&& 63))).toInt32)), .val (.int v38), .val (.int v41), .val (.ref b184), .val (.ref b231), .val (.int v302), .val (.int v311), .unset] [(.int v317)]) := by
                                        intro v317 hv317
                                        refine o_istore (pc' := 479) (l' := #[.val (.int x0), .val (.int x1), .val (.int x2), .val (.int x3), .val (.int x4), .val (.long x5), .second, .val (.int ((((x5 &&& (7 : Int64)) % (6 : Int64))).toInt32)), .val (.int v3), .val (.ref (spec1 ((((x5 >>> (((7 : Int32)).toInt64 &&& 63)) &&& (3 : Int64))).toInt32) r_YEAR_FIRST r_MONTH_FIRST r_OTHER)), .val (.ref (spec1 ((((x5 >>> (((9 : Int32)).toInt64 &&& 63)) &&& (3 : Int64))).toInt32) r_YEAR_FIRST r_MONTH_FIRST r_OTHER)), .val (.int v8), .val (.int v11), .val (.int v14), .val (.int v17), .val (.int v20), .val (.int v23), .val (.int v26), .val (.int v29), .val (.int v32), .val (.int v35), .val (.int (((x5 >>> (((21 : Int32)).toInt64 &&& 63))).toInt32)), .val (.int (((x5 >>> (((26 : Int32)).toInt64 &&& 63))).toInt32)), .val (.int v38), .val (.int v41), .val (.ref b184), .val (.ref b231), .val (.int v302), .val (.int v311), .val (.int v317)]) X266 hx (hb hby at_477) rfl rfl ?_
                                        refine o_aload (pc' := 481) X266 hx (hb hby at_479) rfl rfl rfl ?_
                                        refine o_aload (pc' := 483) X266 hx (hb hby at_481) rfl rfl rfl ?_
                                        obtain ⟨r318, T318, L318, X318, hq318, st318⟩ := o_callV X266 hx hZ hown (hw _ (List.mem_of_getElem? (i := 48) rfl)) (hw _ (List.mem_of_getElem? (i := 49) rfl)) (hw _ (List.mem_of_getElem? (i := 51) rfl)) (hw _ (List.mem_of_getElem? (i := 50) rfl)) (hw _ (List.mem_of_getElem? (i := 12) rfl)) (hw _ (List.mem_of_getElem? (i := 52) rfl)) (by decide) F278 (rm6 l Z a0 hw b184 b231 v14 v17 (1 : Int32) (spec2 ((((x5 &&& (7 : Int64)) % (6 : Int64))).toInt32) r_GREGORIAN r_JULIAN r_JULIAN_ANNUNCIATION r_JULIAN_NATAL r_FRENCH_REPUBLICAN r_HIJRI) v20 v23 v41 (spec2 v3 r_GREGORIAN r_JULIAN r_JULIAN_ANNUNCIATION r_JULIAN_NATAL r_FRENCH_REPUBLICAN r_HIJRI) T266.heap n0 Z298 F278 F281 F280 F282 F286 F266_day F266_month F266_length F266_calendar) (rfl : T266.heap = _) (pc' := 486) (Ls := #[.val (.int x0), .val (.int x1), .val (.int x2), .val (.int x3), .val (.int x4), .val (.long x5), .second, .val (.int ((((x5 &&& (7 : Int64)) % (6 : Int64))).toInt32)), .val (.int v3), .val (.ref (spec1 ((((x5 >>> (((7 : Int32)).toInt64 &&& 63)) &&& (3 : Int64))).toInt32) r_YEAR_FIRST r_MONTH_FIRST r_OTHER)), .val (.ref (spec1 ((((x5 >>> (((9 : Int32)).toInt64 &&& 63)) &&& (3 : Int64))).toInt32) r_YEAR_FIRST r_MONTH_FIRST r_OTHER)), .val (.int v8), .val (.int v11), .val (.int v14), .val (.int v17), .val (.int v20), .val (.int v23), .val (.int v26), .val (.int v29), .val (.int v32), .val (.int v35), .val (.int (((x5 >>> (((21 : Int32)).toInt64 &&& 63))).toInt32)), .val (.int (((x5 >>> (((26 : Int32)).toInt64 &&& 63))).toInt32)), .val (.int v38), .val (.int v41), .val (.ref b184), .val (.ref b231), .val (.int v302), .val (.int v311), .val (.int v317)]) (by rw [hml]; rfl) [(.ref b231)] [] rfl pd4 rfl rfl 0 (Nat.le_of_eq rfl) (hb hby at_483) rfl (by decide) (by decide) (by decide) (by decide)
                                        obtain ⟨rfl, rfl, Kc318⟩ := hq318
                                        refine oGo.step (f' := (mkF m 486 #[.val (.int x0), .val (.int x1), .val (.int x2), .val (.int x3), .val (.int x4), .val (.long x5), .second, .val (.int ((((x5 &&& (7 : Int64)) % (6 : Int64))).toInt32)), .val (.int v3), .val (.ref (spec1 ((((x5 >>> (((7 : Int32)).toInt64 &&& 63)) &&& (3 : Int64))).toInt32) r_YEAR_FIRST r_MONTH_FIRST r_OTHER)), .val (.ref (spec1 ((((x5 >>> (((9 : Int32)).toInt64 &&& 63)) &&& (3 : Int64))).toInt32) r_YEAR_FIRST r_MONTH_FIRST r_OTHER)), .val (.int v8), .val (.int v11), .val (.int v14), .val (.int v17), .val (.int v20), .val (.int v23), .val (.int v26), .val (.int v29), .val (.int v32), .val (.int v35), .val (.int (((x5 >>> (((21 : Int32)).toInt64 &&& 63))).toInt32)), .val (.int (((x5 >>> (((26 : Int32)).toInt64 &&& 63))).toInt32)), .val (.int v38), .val (.int v41), .val (.ref b184), .val (.ref b231), .val (.int v302), .val (.int v311), .val (.int v317)] [(.int (spec6 v14 v17 (1 : Int32) (spec2 ((((x5 &&& (7 : Int64)) % (6 : Int64))).toInt32) r_GREGORIAN r_JULIAN r_JULIAN_ANNUNCIATION r_JULIAN_NATAL r_FRENCH_REPUBLICAN r_HIJRI) v20 v23 v41 (spec2 v3 r_GREGORIAN r_JULIAN r_JULIAN_ANNUNCIATION r_JULIAN_NATAL r_FRENCH_REPUBLICAN r_HIJRI)))])) st318 ?_
                                        have e318 : T318.heap = T266.heap := Kc318
                                        have X318 := o_same X318 rfl rfl
                                        refine o_iload (pc' := 488) X318 hx (hb hby at_486) rfl rfl ?_
                                        have J320 : ∀ (T324 : State) (X324 : Stand p l e room_1 s m #[(.int x0), (.int x1), (.int x2), (.int x3), (.int x4), (.long x5)] below meth c T324 (([] ++ L208) ++ L266) (0 + 1 + 1) (0 + 9 + 9)) (e324 : T324.heap = T266.heap) (v323 : Int32), v323 = (if (spec6 v14 v17 (1 : Int32) (spec2 ((((x5 &&& (7 : Int64)) % (6 : Int64))).toInt32) r_GREGORIAN r_JULIAN r_JULIAN_ANNUNCIATION r_JULIAN_NATAL r_FRENCH_REPUBLICAN r_HIJRI) v20 v23 v41 (spec2 v3 r_GREGORIAN r_JULIAN r_JULIAN_ANNUNCIATION r_JULIAN_NATAL r_FRENCH_REPUBLICAN r_HIJRI)) = v317 then (if (spec6 v20 v23 v41 (spec2 v3 r_GREGORIAN r_JULIAN r_JULIAN_ANNUNCIATION r_JULIAN_NATAL r_FRENCH_REPUBLICAN r_HIJRI) v14 v17 (1 : Int32) (spec2 ((((x5 &&& (7 : Int64)) % (6 : Int64))).toInt32) r_GREGORIAN r_JULIAN r_JULIAN_ANNUNCIATION r_JULIAN_NATAL r_FRENCH_REPUBLICAN r_HIJRI)) = v317 then (1 : Int32) else (0 : Int32)) else (0 : Int32)) → oGo p e below (oG s (fun v h L => v = some (.int 1) ∧ Fr n0 L) room_1.cells room_1.slots) T324 (mkF m 508 #[.val (.int x0), .val (.int x1), .val (.int x2), .val (.int x3), .val (.int x4), .val (.long x5), .second, .val (.int ((((x5 &&& (7 : Int64)) % (6 : Int64))).toInt32)), .val (.int v3), .val (.ref (spec1 ((((x5 >>> (((7 : Int32)).toInt64 &&& 63)) &&& (3 : Int64))).toInt32) r_YEAR_FIRST r_MONTH_FIRST r_OTHER)), .val (.ref (spec1 ((((x5 >>> (((9 : Int32)).toInt64 &&& 63)) &&& (3 : Int64))).toInt32) r_YEAR_FIRST r_MONTH_FIRST r_OTHER)), .val (.int v8), .val (.int v11), .val (.int v14), .val (.int v17), .val (.int v20), .val (.int v23), .val (.int v26), .val (.int v29), .val (.int v32), .val (.int v35), .val (.int (((x5 >>> (((21 : Int32)).toInt64 &&& 63))).toInt32)), .val (.int (((x5 >>> (((26 : Int32)).toInt64 &&& 63))).toInt32)), .val (.int v38), .val (.int v41), .val (.ref b184), .val (.ref b231), .val (.int v302), .val (.int v311), .val (.int v317)] [(.int v323)]) := by
                                          intro T324 X324 e324 v323 hv323
                                          refine o_retZ X324 hx hret hlk (hb hby at_508) (by rw [hv323]; (repeat' split) <;> (first | rfl | assumption)) (by decide) (by decide) ?_
                                          subst hv323 hv317 hv311 hv308 hv305 hv302
                                          have hc2 : oC v3 := by rw [hv3]; split; exact own_c6 _; exact own_c6 _
                                          have hl : v38 = 1 := by rw [hv38, if_neg c42]
                                          rw [hl]
                                          exact ⟨congrArg (fun z => some (Value.int z)) (own_law v14 v17 (1 : Int32) v20 v23 v41 ((((x5 &&& (7 : Int64)) % (6 : Int64))).toInt32) v3 (own_c6 x5) hc2 hne), N266_⟩
                                        by_cases c319 : (spec6 v14 v17 (1 : Int32) (spec2 ((((x5 &&& (7 : Int64)) % (6 : Int64))).toInt32) r_GREGORIAN r_JULIAN r_JULIAN_ANNUNCIATION r_JULIAN_NATAL r_FRENCH_REPUBLICAN r_HIJRI) v20 v23 v41 (spec2 v3 r_GREGORIAN r_JULIAN r_JULIAN_ANNUNCIATION r_JULIAN_NATAL r_FRENCH_REPUBLICAN r_HIJRI)) = v317
                                        · refine o_icmpF (pc' := 491) X318 hx (hb hby at_488) (XT.ii_ne_f c319) rfl ?_
                                          refine o_aload (pc' := 493) X318 hx (hb hby at_491) rfl rfl rfl ?_
                                          refine o_aload (pc' := 495) X318 hx (hb hby at_493) rfl rfl rfl ?_
                                          obtain ⟨r321, T321, L321, X321, hq321, st321⟩ := o_callV X318 hx hZ hown (hw _ (List.mem_of_getElem? (i := 48) rfl)) (hw _ (List.mem_of_getElem? (i := 49) rfl)) (hw _ (List.mem_of_getElem? (i := 51) rfl)) (hw _ (List.mem_of_getElem? (i := 50) rfl)) (hw _ (List.mem_of_getElem? (i := 12) rfl)) (hw _ (List.mem_of_getElem? (i := 52) rfl)) (by decide) E266_ (rm6 l Z a0 hw b231 b184 v20 v23 v41 (spec2 v3 r_GREGORIAN r_JULIAN r_JULIAN_ANNUNCIATION r_JULIAN_NATAL r_FRENCH_REPUBLICAN r_HIJRI) v14 v17 (1 : Int32) (spec2 ((((x5 &&& (7 : Int64)) % (6 : Int64))).toInt32) r_GREGORIAN r_JULIAN r_JULIAN_ANNUNCIATION r_JULIAN_NATAL r_FRENCH_REPUBLICAN r_HIJRI) T266.heap n0 Z298 E266_ F266_day F266_month F266_length F266_calendar F281 F280 F282 F286) e318 (pc' := 498) (Ls := #[.val (.int x0), .val (.int x1), .val (.int x2), .val (.int x3), .val (.int x4), .val (.long x5), .second, .val (.int ((((x5 &&& (7 : Int64)) % (6 : Int64))).toInt32)), .val (.int v3), .val (.ref (spec1 ((((x5 >>> (((7 : Int32)).toInt64 &&& 63)) &&& (3 : Int64))).toInt32) r_YEAR_FIRST r_MONTH_FIRST r_OTHER)), .val (.ref (spec1 ((((x5 >>> (((9 : Int32)).toInt64 &&& 63)) &&& (3 : Int64))).toInt32) r_YEAR_FIRST r_MONTH_FIRST r_OTHER)), .val (.int v8), .val (.int v11), .val (.int v14), .val (.int v17), .val (.int v20), .val (.int v23), .val (.int v26), .val (.int v29), .val (.int v32), .val (.int v35), .val (.int (((x5 >>> (((21 : Int32)).toInt64 &&& 63))).toInt32)), .val (.int (((x5 >>> (((26 : Int32)).toInt64 &&& 63))).toInt32)), .val (.int v38), .val (.int v41), .val (.ref b184), .val (.ref b231), .val (.int v302), .val (.int v311), .val (.int v317)]) (by rw [hml]; rfl) [(.ref b184)] [] rfl pd4 rfl rfl 0 (Nat.le_of_eq rfl) (hb hby at_495) rfl (by decide) (by decide) (by decide) (by decide)
                                          obtain ⟨rfl, rfl, Kc321⟩ := hq321
                                          refine oGo.step (f' := (mkF m 498 #[.val (.int x0), .val (.int x1), .val (.int x2), .val (.int x3), .val (.int x4), .val (.long x5), .second, .val (.int ((((x5 &&& (7 : Int64)) % (6 : Int64))).toInt32)), .val (.int v3), .val (.ref (spec1 ((((x5 >>> (((7 : Int32)).toInt64 &&& 63)) &&& (3 : Int64))).toInt32) r_YEAR_FIRST r_MONTH_FIRST r_OTHER)), .val (.ref (spec1 ((((x5 >>> (((9 : Int32)).toInt64 &&& 63)) &&& (3 : Int64))).toInt32) r_YEAR_FIRST r_MONTH_FIRST r_OTHER)), .val (.int v8), .val (.int v11), .val (.int v14), .val (.int v17), .val (.int v20), .val (.int v23), .val (.int v26), .val (.int v29), .val (.int v32), .val (.int v35), .val (.int (((x5 >>> (((21 : Int32)).toInt64 &&& 63))).toInt32)), .val (.int (((x5 >>> (((26 : Int32)).toInt64 &&& 63))).toInt32)), .val (.int v38), .val (.int v41), .val (.ref b184), .val (.ref b231), .val (.int v302), .val (.int v311), .val (.int v317)] [(.int (spec6 v20 v23 v41 (spec2 v3 r_GREGORIAN r_JULIAN r_JULIAN_ANNUNCIATION r_JULIAN_NATAL r_FRENCH_REPUBLICAN r_HIJRI) v14 v17 (1 : Int32) (spec2 ((((x5 &&& (7 : Int64)) % (6 : Int64))).toInt32) r_GREGORIAN r_JULIAN r_JULIAN_ANNUNCIATION r_JULIAN_NATAL r_FRENCH_REPUBLICAN r_HIJRI)))])) st321 ?_
                                          have e321 : T321.heap = T266.heap := Kc321
                                          have X321 := o_same X321 rfl rfl
                                          refine o_iload (pc' := 500) X321 hx (hb hby at_498) rfl rfl ?_
                                          by_cases c322 : (spec6 v20 v23 v41 (spec2 v3 r_GREGORIAN r_JULIAN r_JULIAN_ANNUNCIATION r_JULIAN_NATAL r_FRENCH_REPUBLICAN r_HIJRI) v14 v17 (1 : Int32) (spec2 ((((x5 &&& (7 : Int64)) % (6 : Int64))).toInt32) r_GREGORIAN r_JULIAN r_JULIAN_ANNUNCIATION r_JULIAN_NATAL r_FRENCH_REPUBLICAN r_HIJRI)) = v317
                                          · refine o_icmpF (pc' := 503) X321 hx (hb hby at_500) (XT.ii_ne_f c322) rfl ?_
                                            refine o_iconst (pc' := 504) (v := (1 : Int32)) X321 hx (hb hby at_503) rfl rfl ?_
                                            refine o_goto (pc' := 508) X321 hx (hb hby at_504) (by decide) (by decide) ?_
                                            exact J320 T321 X321 e321 _ ((if_pos c319).trans (if_pos c322)).symm
                                          · refine o_icmpT (pc' := 507) X321 hx (hb hby at_500) (XT.ii_ne_t c322) (by decide) (by decide) ?_
                                            refine o_iconst (pc' := 508) (v := (0 : Int32)) X321 hx (hb hby at_507) rfl rfl ?_
                                            exact J320 T321 X321 e321 _ ((if_pos c319).trans (if_neg c322)).symm
                                        · refine o_icmpT (pc' := 507) X318 hx (hb hby at_488) (XT.ii_ne_t c319) (by decide) (by decide) ?_
                                          refine o_iconst (pc' := 508) (v := (0 : Int32)) X318 hx (hb hby at_507) rfl rfl ?_
                                          exact J320 T318 X318 e318 _ (if_neg c319).symm
                                      by_cases c312 : v302 = 0
                                      · refine o_ifT (pc' := 476) X266 hx (hb hby at_450) (XT.i0_eq_t c312) (by decide) (by decide) ?_
                                        refine o_iconst (pc' := 477) (v := (0 : Int32)) X266 hx (hb hby at_476) rfl rfl ?_
                                        exact J313 _ (if_pos c312).symm
                                      · refine o_ifF (pc' := 453) X266 hx (hb hby at_450) (XT.i0_eq_f c312) rfl ?_
                                        refine o_iload (pc' := 455) X266 hx (hb hby at_453) rfl rfl ?_
                                        by_cases c314 : v311 = 0
                                        · refine o_ifT (pc' := 476) X266 hx (hb hby at_455) (XT.i0_eq_t c314) (by decide) (by decide) ?_
                                          refine o_iconst (pc' := 477) (v := (0 : Int32)) X266 hx (hb hby at_476) rfl rfl ?_
                                          exact J313 _ ((if_neg c312).trans (if_pos c314)).symm
                                        · refine o_ifF (pc' := 458) X266 hx (hb hby at_455) (XT.i0_eq_f c314) rfl ?_
                                          refine o_iload (pc' := 460) X266 hx (hb hby at_458) rfl rfl ?_
                                          refine o_iload (pc' := 462) X266 hx (hb hby at_460) rfl rfl ?_
                                          by_cases c315 : v38 = v41
                                          · refine o_icmpF (pc' := 465) X266 hx (hb hby at_462) (XT.ii_ne_f c315) rfl ?_
                                            refine o_iload (pc' := 467) X266 hx (hb hby at_465) rfl rfl ?_
                                            refine o_iload (pc' := 469) X266 hx (hb hby at_467) rfl rfl ?_
                                            by_cases c316 : ((((x5 &&& (7 : Int64)) % (6 : Int64))).toInt32) = v3
                                            · refine o_icmpF (pc' := 472) X266 hx (hb hby at_469) (XT.ii_ne_f c316) rfl ?_
                                              refine o_iconst (pc' := 473) (v := (1 : Int32)) X266 hx (hb hby at_472) rfl rfl ?_
                                              refine o_goto (pc' := 477) X266 hx (hb hby at_473) (by decide) (by decide) ?_
                                              exact J313 _ ((if_neg c312).trans ((if_neg c314).trans ((if_pos c315).trans (if_pos c316)))).symm
                                            · refine o_icmpT (pc' := 476) X266 hx (hb hby at_469) (XT.ii_ne_t c316) (by decide) (by decide) ?_
                                              refine o_iconst (pc' := 477) (v := (0 : Int32)) X266 hx (hb hby at_476) rfl rfl ?_
                                              exact J313 _ ((if_neg c312).trans ((if_neg c314).trans ((if_pos c315).trans (if_neg c316)))).symm
                                          · refine o_icmpT (pc' := 476) X266 hx (hb hby at_462) (XT.ii_ne_t c315) (by decide) (by decide) ?_
                                            refine o_iconst (pc' := 477) (v := (0 : Int32)) X266 hx (hb hby at_476) rfl rfl ?_
                                            exact J313 _ ((if_neg c312).trans ((if_neg c314).trans (if_neg c315))).symm
                                    by_cases c309 : v305 = v308
                                    · refine o_icmpF (pc' := 441) X266 hx (hb hby at_438) (XT.ii_ne_f c309) rfl ?_
                                      refine o_iconst (pc' := 442) (v := (1 : Int32)) X266 hx (hb hby at_441) rfl rfl ?_
                                      refine o_goto (pc' := 446) X266 hx (hb hby at_442) (by decide) (by decide) ?_
                                      exact J310 _ (if_pos c309).symm
                                    · refine o_icmpT (pc' := 445) X266 hx (hb hby at_438) (XT.ii_ne_t c309) (by decide) (by decide) ?_
                                      refine o_iconst (pc' := 446) (v := (0 : Int32)) X266 hx (hb hby at_445) rfl rfl ?_
                                      exact J310 _ (if_neg c309).symm
                                  by_cases c306 : v23 = (-1 : Int32)
                                  · refine o_icmpF (pc' := 433) X266 hx (hb hby at_430) (XT.ii_ne_f c306) rfl ?_
                                    refine o_iconst (pc' := 434) (v := (1 : Int32)) X266 hx (hb hby at_433) rfl rfl ?_
                                    refine o_goto (pc' := 438) X266 hx (hb hby at_434) (by decide) (by decide) ?_
                                    exact J307 _ (if_pos c306).symm
                                  · refine o_icmpT (pc' := 437) X266 hx (hb hby at_430) (XT.ii_ne_t c306) (by decide) (by decide) ?_
                                    refine o_iconst (pc' := 438) (v := (0 : Int32)) X266 hx (hb hby at_437) rfl rfl ?_
                                    exact J307 _ (if_neg c306).symm
                                by_cases c303 : v17 = (-1 : Int32)
                                · refine o_icmpF (pc' := 422) X266 hx (hb hby at_419) (XT.ii_ne_f c303) rfl ?_
                                  refine o_iconst (pc' := 423) (v := (1 : Int32)) X266 hx (hb hby at_422) rfl rfl ?_
                                  refine o_goto (pc' := 427) X266 hx (hb hby at_423) (by decide) (by decide) ?_
                                  exact J304 _ (if_pos c303).symm
                                · refine o_icmpT (pc' := 426) X266 hx (hb hby at_419) (XT.ii_ne_t c303) (by decide) (by decide) ?_
                                  refine o_iconst (pc' := 427) (v := (0 : Int32)) X266 hx (hb hby at_426) rfl rfl ?_
                                  exact J304 _ (if_neg c303).symm
                              by_cases c299 : v14 = (-1 : Int32)
                              · refine o_icmpF (pc' := 403) X266 hx (hb hby at_400) (XT.ii_ne_f c299) rfl ?_
                                refine o_iload (pc' := 405) X266 hx (hb hby at_403) rfl rfl ?_
                                refine o_iconst (pc' := 406) (v := (-1 : Int32)) X266 hx (hb hby at_405) rfl rfl ?_
                                by_cases c301 : v20 = (-1 : Int32)
                                · refine o_icmpF (pc' := 409) X266 hx (hb hby at_406) (XT.ii_ne_f c301) rfl ?_
                                  refine o_iconst (pc' := 410) (v := (1 : Int32)) X266 hx (hb hby at_409) rfl rfl ?_
                                  refine o_goto (pc' := 414) X266 hx (hb hby at_410) (by decide) (by decide) ?_
                                  exact J300 _ ((if_pos c299).trans (if_pos c301)).symm
                                · refine o_icmpT (pc' := 413) X266 hx (hb hby at_406) (XT.ii_ne_t c301) (by decide) (by decide) ?_
                                  refine o_iconst (pc' := 414) (v := (0 : Int32)) X266 hx (hb hby at_413) rfl rfl ?_
                                  exact J300 _ ((if_pos c299).trans (if_neg c301)).symm
                              · refine o_icmpT (pc' := 413) X266 hx (hb hby at_400) (XT.ii_ne_t c299) (by decide) (by decide) ?_
                                refine o_iconst (pc' := 414) (v := (0 : Int32)) X266 hx (hb hby at_413) rfl rfl ?_
                                exact J300 _ (if_neg c299).symm
                          by_cases c39 : v11 = 0
                          · refine o_ifT (pc' := 303) X5 hx (hb hby at_295) (XT.i0_eq_t c39) (by decide) (by decide) ?_
                            refine o_lload (pc' := 305) X5 hx (hb hby at_303) rfl rfl ?_
                            refine o_bipush (pc' := 307) (v := (32 : Int32)) X5 hx (hb hby at_305) rfl rfl ?_
                            refine o_lshr (pc' := 308) X5 hx (hb hby at_307)  rfl ?_
                            refine o_l2i (pc' := 309) X5 hx (hb hby at_308)  rfl ?_
                            exact J40 _ (if_pos c39).symm
                          · refine o_ifF (pc' := 298) X5 hx (hb hby at_295) (XT.i0_eq_f c39) rfl ?_
                            refine o_iload (pc' := 300) X5 hx (hb hby at_298) rfl rfl ?_
                            refine o_goto (pc' := 309) X5 hx (hb hby at_300) (by decide) (by decide) ?_
                            exact J40 _ (if_neg c39).symm
                        by_cases c36 : v8 = 0
                        · refine o_ifT (pc' := 289) X5 hx (hb hby at_282) (XT.i0_eq_t c36) (by decide) (by decide) ?_
                          refine o_iload (pc' := 291) X5 hx (hb hby at_289) rfl rfl ?_
                          exact J37 _ (if_pos c36).symm
                        · refine o_ifF (pc' := 285) X5 hx (hb hby at_282) (XT.i0_eq_f c36) rfl ?_
                          refine o_iconst (pc' := 286) (v := (1 : Int32)) X5 hx (hb hby at_285) rfl rfl ?_
                          refine o_goto (pc' := 291) X5 hx (hb hby at_286) (by decide) (by decide) ?_
                          exact J37 _ (if_neg c36).symm
                      by_cases c33 : ((x5 >>> (((20 : Int32)).toInt64 &&& 63)) &&& (1 : Int64)) = (0 : Int64)
                      · refine o_ifT (pc' := 261) X5 hx (hb hby at_254) (XT.ll_eq_t c33) (by decide) (by decide) ?_
                        refine o_iconst (pc' := 262) (v := (0 : Int32)) X5 hx (hb hby at_261) rfl rfl ?_
                        exact J34 _ (if_pos c33).symm
                      · refine o_ifF (pc' := 257) X5 hx (hb hby at_254) (XT.ll_eq_f c33) rfl ?_
                        refine o_iconst (pc' := 258) (v := (1 : Int32)) X5 hx (hb hby at_257) rfl rfl ?_
                        refine o_goto (pc' := 262) X5 hx (hb hby at_258) (by decide) (by decide) ?_
                        exact J34 _ (if_neg c33).symm
                    by_cases c30 : ((x5 >>> (((19 : Int32)).toInt64 &&& 63)) &&& (1 : Int64)) = (0 : Int64)
                    · refine o_ifT (pc' := 242) X5 hx (hb hby at_235) (XT.ll_eq_t c30) (by decide) (by decide) ?_
                      refine o_iconst (pc' := 243) (v := (0 : Int32)) X5 hx (hb hby at_242) rfl rfl ?_
                      exact J31 _ (if_pos c30).symm
                    · refine o_ifF (pc' := 238) X5 hx (hb hby at_235) (XT.ll_eq_f c30) rfl ?_
                      refine o_iconst (pc' := 239) (v := (1 : Int32)) X5 hx (hb hby at_238) rfl rfl ?_
                      refine o_goto (pc' := 243) X5 hx (hb hby at_239) (by decide) (by decide) ?_
                      exact J31 _ (if_neg c30).symm
                  by_cases c27 : ((x5 >>> (((18 : Int32)).toInt64 &&& 63)) &&& (1 : Int64)) = (0 : Int64)
                  · refine o_ifT (pc' := 223) X5 hx (hb hby at_216) (XT.ll_eq_t c27) (by decide) (by decide) ?_
                    refine o_iconst (pc' := 224) (v := (0 : Int32)) X5 hx (hb hby at_223) rfl rfl ?_
                    exact J28 _ (if_pos c27).symm
                  · refine o_ifF (pc' := 219) X5 hx (hb hby at_216) (XT.ll_eq_f c27) rfl ?_
                    refine o_iconst (pc' := 220) (v := (1 : Int32)) X5 hx (hb hby at_219) rfl rfl ?_
                    refine o_goto (pc' := 224) X5 hx (hb hby at_220) (by decide) (by decide) ?_
                    exact J28 _ (if_neg c27).symm
                by_cases c24 : ((x5 >>> (((17 : Int32)).toInt64 &&& 63)) &&& (1 : Int64)) = (0 : Int64)
                · refine o_ifT (pc' := 204) X5 hx (hb hby at_197) (XT.ll_eq_t c24) (by decide) (by decide) ?_
                  refine o_iconst (pc' := 205) (v := (0 : Int32)) X5 hx (hb hby at_204) rfl rfl ?_
                  exact J25 _ (if_pos c24).symm
                · refine o_ifF (pc' := 200) X5 hx (hb hby at_197) (XT.ll_eq_f c24) rfl ?_
                  refine o_iconst (pc' := 201) (v := (1 : Int32)) X5 hx (hb hby at_200) rfl rfl ?_
                  refine o_goto (pc' := 205) X5 hx (hb hby at_201) (by decide) (by decide) ?_
                  exact J25 _ (if_neg c24).symm
              by_cases c21 : ((x5 >>> (((16 : Int32)).toInt64 &&& 63)) &&& (1 : Int64)) = (0 : Int64)
              · refine o_ifT (pc' := 185) X5 hx (hb hby at_178) (XT.ll_eq_t c21) (by decide) (by decide) ?_
                refine o_iloadN (pc' := 186) X5 hx (hb hby at_185) rfl rfl ?_
                exact J22 _ (if_pos c21).symm
              · refine o_ifF (pc' := 181) X5 hx (hb hby at_178) (XT.ll_eq_f c21) rfl ?_
                refine o_iconst (pc' := 182) (v := (-1 : Int32)) X5 hx (hb hby at_181) rfl rfl ?_
                refine o_goto (pc' := 186) X5 hx (hb hby at_182) (by decide) (by decide) ?_
                exact J22 _ (if_neg c21).symm
            by_cases c18 : ((x5 >>> (((15 : Int32)).toInt64 &&& 63)) &&& (1 : Int64)) = (0 : Int64)
            · refine o_ifT (pc' := 166) X5 hx (hb hby at_159) (XT.ll_eq_t c18) (by decide) (by decide) ?_
              refine o_iloadN (pc' := 167) X5 hx (hb hby at_166) rfl rfl ?_
              exact J19 _ (if_pos c18).symm
            · refine o_ifF (pc' := 162) X5 hx (hb hby at_159) (XT.ll_eq_f c18) rfl ?_
              refine o_iconst (pc' := 163) (v := (-1 : Int32)) X5 hx (hb hby at_162) rfl rfl ?_
              refine o_goto (pc' := 167) X5 hx (hb hby at_163) (by decide) (by decide) ?_
              exact J19 _ (if_neg c18).symm
          by_cases c15 : ((x5 >>> (((14 : Int32)).toInt64 &&& 63)) &&& (1 : Int64)) = (0 : Int64)
          · refine o_ifT (pc' := 147) X5 hx (hb hby at_140) (XT.ll_eq_t c15) (by decide) (by decide) ?_
            refine o_iloadN (pc' := 148) X5 hx (hb hby at_147) rfl rfl ?_
            exact J16 _ (if_pos c15).symm
          · refine o_ifF (pc' := 143) X5 hx (hb hby at_140) (XT.ll_eq_f c15) rfl ?_
            refine o_iconst (pc' := 144) (v := (-1 : Int32)) X5 hx (hb hby at_143) rfl rfl ?_
            refine o_goto (pc' := 148) X5 hx (hb hby at_144) (by decide) (by decide) ?_
            exact J16 _ (if_neg c15).symm
        by_cases c12 : ((x5 >>> (((13 : Int32)).toInt64 &&& 63)) &&& (1 : Int64)) = (0 : Int64)
        · refine o_ifT (pc' := 128) X5 hx (hb hby at_121) (XT.ll_eq_t c12) (by decide) (by decide) ?_
          refine o_iloadN (pc' := 129) X5 hx (hb hby at_128) rfl rfl ?_
          exact J13 _ (if_pos c12).symm
        · refine o_ifF (pc' := 124) X5 hx (hb hby at_121) (XT.ll_eq_f c12) rfl ?_
          refine o_iconst (pc' := 125) (v := (-1 : Int32)) X5 hx (hb hby at_124) rfl rfl ?_
          refine o_goto (pc' := 129) X5 hx (hb hby at_125) (by decide) (by decide) ?_
          exact J13 _ (if_neg c12).symm
      by_cases c9 : ((x5 >>> (((12 : Int32)).toInt64 &&& 63)) &&& (1 : Int64)) = (0 : Int64)
      · refine o_ifT (pc' := 109) X5 hx (hb hby at_102) (XT.ll_eq_t c9) (by decide) (by decide) ?_
        refine o_iconst (pc' := 110) (v := (0 : Int32)) X5 hx (hb hby at_109) rfl rfl ?_
        exact J10 _ (if_pos c9).symm
      · refine o_ifF (pc' := 105) X5 hx (hb hby at_102) (XT.ll_eq_f c9) rfl ?_
        refine o_iconst (pc' := 106) (v := (1 : Int32)) X5 hx (hb hby at_105) rfl rfl ?_
        refine o_goto (pc' := 110) X5 hx (hb hby at_106) (by decide) (by decide) ?_
        exact J10 _ (if_neg c9).symm
    by_cases c6 : ((x5 >>> (((11 : Int32)).toInt64 &&& 63)) &&& (1 : Int64)) = (0 : Int64)
    · refine o_ifT (pc' := 90) X5 hx (hb hby at_83) (XT.ll_eq_t c6) (by decide) (by decide) ?_
      refine o_iconst (pc' := 91) (v := (0 : Int32)) X5 hx (hb hby at_90) rfl rfl ?_
      exact J7 _ (if_pos c6).symm
    · refine o_ifF (pc' := 86) X5 hx (hb hby at_83) (XT.ll_eq_f c6) rfl ?_
      refine o_iconst (pc' := 87) (v := (1 : Int32)) X5 hx (hb hby at_86) rfl rfl ?_
      refine o_goto (pc' := 91) X5 hx (hb hby at_87) (by decide) (by decide) ?_
      exact J7 _ (if_neg c6).symm
  by_cases c1 : ((x5 >>> (((3 : Int32)).toInt64 &&& 63)) &&& (1 : Int64)) = (0 : Int64)
  · refine o_ifF (pc' := 24) X0 hx (hb hby at_21) (XT.ll_ne_f c1) rfl ?_
    refine o_iload (pc' := 26) X0 hx (hb hby at_24) rfl rfl ?_
    refine o_goto (pc' := 42) X0 hx (hb hby at_26) (by decide) (by decide) ?_
    exact J2 _ (if_pos c1).symm
  · refine o_ifT (pc' := 29) X0 hx (hb hby at_21) (XT.ll_ne_t c1) (by decide) (by decide) ?_
    refine o_lload (pc' := 31) X0 hx (hb hby at_29) rfl rfl ?_
    refine o_iconst (pc' := 32) (v := (4 : Int32)) X0 hx (hb hby at_31) rfl rfl ?_
    refine o_lshr (pc' := 33) X0 hx (hb hby at_32)  rfl ?_
    refine o_ldc2 (pc' := 36) (v := (7 : Int64)) X0 hx hZ hown (hw _ (List.mem_of_getElem? (i := 0) rfl)) (hb hby at_33) rfl ?_
    refine o_land (pc' := 37) X0 hx (hb hby at_36)  rfl ?_
    refine o_ldc2 (pc' := 40) (v := (6 : Int64)) X0 hx hZ hown (hw _ (List.mem_of_getElem? (i := 1) rfl)) (hb hby at_37) rfl ?_
    refine o_lrem (pc' := 41) X0 hx (hb hby at_40) (by decide) rfl ?_
    refine o_l2i (pc' := 42) X0 hx (hb hby at_41)  rfl ?_
    exact J2 _ (if_neg c1).symm
set_option maxRecDepth 65536 in
set_option maxHeartbeats 40000000 in
theorem comes_1 {Post : Tables → Env → Array Value → State → Outcome → State → Prop} (hpost : ∀ tb e args s v u, (limb_1_1.after args s (.returned v) u = true ∧ limb_1_2.after args s (.returned v) u = true ∧ True) → FrameEnd s (.returned v) u (Jvm.fieldLocs frame_1_writes args s ++ Jvm.arrayLocs frame_1_arrays args s ++ Jvm.staticLocs frame_1_statics s) 16 128 → Post tb e args s (.returned v) u) :
    ArmFor flags0 classFile x code maxLocals ret World_1 tables_1 room_1 Calls_1 rest_1 Pre_1 Post := by
  intro l hfl _ _ p e ha hc hk s m args below hf hA hF happ hP
  obtain ⟨hcalls, hrest, hpre⟩ := hP
  obtain ⟨-, -, -, hnamed, -, -, -, hat⟩ := (Spec.applies_iff hf).mp happ
  obtain ⟨hg, hn⟩ := and_e (Cond.before_iff.mp (show (Jvm.Cond.and given_1 narrow_1).before args s = true from hpre))
  obtain ⟨hcount, q0⟩ := and_e hg
  obtain ⟨a0, q1⟩ := and_e q0
  obtain ⟨a1, q2⟩ := and_e q1
  obtain ⟨a2, q3⟩ := and_e q2
  obtain ⟨a3, q4⟩ := and_e q3
  obtain ⟨a4, q5⟩ := and_e q4
  obtain ⟨w0, w1, w2, w3, w4, w5, rfl⟩ : ∃ w0 w1 w2 w3 w4 w5 : Value, args = #[w0, w1, w2, w3, w4, w5] := by
    have hs : args.size = 6 := by simpa [Cond.value, given_1] using hcount
    obtain ⟨L⟩ := args
    match L, hs with
    | [w0, w1, w2, w3, w4, w5], _ => exact ⟨w0, w1, w2, w3, w4, w5, rfl⟩
  have hw := fun d (hd : d ∈ tables_1) => atoms_spec (ws := Jvm.Cond.code x code maxLocals ret :: tables_1) hat d (List.mem_cons_of_mem _ hd)
  have hfit : Fit s := fun {y c} hc i hi => by
    obtain ⟨ha, rfl⟩ := Array.getElem?_eq_some_iff.mp hc
    have q := List.all_eq_true.mp ((Array.all_eq_true_iff_forall_mem.mp hF) _ (Array.getElem_mem ha)) i (List.mem_range.mpr hi)
    simpa [Array.getElem?_eq_getElem hi] using q
  obtain ⟨x0, e0⟩ := is_v a0
  obtain rfl : w0 = (.int x0) := Option.some.inj e0
  obtain ⟨x1, e1⟩ := is_v a1
  obtain rfl : w1 = (.int x1) := Option.some.inj e1
  obtain ⟨x2, e2⟩ := is_v a2
  obtain rfl : w2 = (.int x2) := Option.some.inj e2
  obtain ⟨x3, e3⟩ := is_v a3
  obtain rfl : w3 = (.int x3) := Option.some.inj e3
  obtain ⟨x4, e4⟩ := is_v a4
  obtain rfl : w4 = (.int x4) := Option.some.inj e4
  obtain ⟨x5, e5⟩ := isL_v q5
  obtain rfl : w5 = (.long x5) := Option.some.inj e5
  obtain ⟨n0, m0⟩ := and_e hn
  obtain ⟨r_YEAR_FIRST, v_YEAR_FIRST⟩ := exa_v n0
  have S_YEAR_FIRST := Sta.start v_YEAR_FIRST (Or.inr ⟨(hw _ (List.mem_of_getElem? (i := 8) rfl)), (hw _ (List.mem_of_getElem? (i := 9) rfl))⟩)
  obtain ⟨n1, m1⟩ := and_e m0
  obtain ⟨r_GREGORIAN, v_GREGORIAN⟩ := exa_v n1
  have S_GREGORIAN := Sta.start v_GREGORIAN (Or.inr ⟨(hw _ (List.mem_of_getElem? (i := 17) rfl)), (hw _ (List.mem_of_getElem? (i := 18) rfl))⟩)
  obtain ⟨n2, m2⟩ := and_e m1
  obtain ⟨r_JULIAN_NATAL, v_JULIAN_NATAL⟩ := exa_v n2
  have S_JULIAN_NATAL := Sta.start v_JULIAN_NATAL (Or.inr ⟨(hw _ (List.mem_of_getElem? (i := 17) rfl)), (hw _ (List.mem_of_getElem? (i := 54) rfl))⟩)
  obtain ⟨n3, m3⟩ := and_e m2
  obtain ⟨r_HIJRI, v_HIJRI⟩ := exa_v n3
  have S_HIJRI := Sta.start v_HIJRI (Or.inr ⟨(hw _ (List.mem_of_getElem? (i := 17) rfl)), (hw _ (List.mem_of_getElem? (i := 56) rfl))⟩)
  obtain ⟨n4, m4⟩ := and_e m3
  obtain ⟨r_OTHER, v_OTHER⟩ := exa_v n4
  have S_OTHER := Sta.start v_OTHER (Or.inr ⟨(hw _ (List.mem_of_getElem? (i := 8) rfl)), (hw _ (List.mem_of_getElem? (i := 58) rfl))⟩)
  obtain ⟨n5, m5⟩ := and_e m4
  obtain ⟨r_JULIAN, v_JULIAN⟩ := exa_v n5
  have S_JULIAN := Sta.start v_JULIAN (Or.inr ⟨(hw _ (List.mem_of_getElem? (i := 17) rfl)), (hw _ (List.mem_of_getElem? (i := 60) rfl))⟩)
  obtain ⟨n6, m6⟩ := and_e m5
  obtain ⟨r_MONTH_FIRST, v_MONTH_FIRST⟩ := exa_v n6
  have S_MONTH_FIRST := Sta.start v_MONTH_FIRST (Or.inr ⟨(hw _ (List.mem_of_getElem? (i := 8) rfl)), (hw _ (List.mem_of_getElem? (i := 66) rfl))⟩)
  obtain ⟨n7, m7⟩ := and_e m6
  obtain ⟨r_FRENCH_REPUBLICAN, v_FRENCH_REPUBLICAN⟩ := exa_v n7
  have S_FRENCH_REPUBLICAN := Sta.start v_FRENCH_REPUBLICAN (Or.inr ⟨(hw _ (List.mem_of_getElem? (i := 17) rfl)), (hw _ (List.mem_of_getElem? (i := 68) rfl))⟩)
  obtain ⟨n8, m8⟩ := and_e m7
  obtain ⟨r_JULIAN_ANNUNCIATION, v_JULIAN_ANNUNCIATION⟩ := exa_v n8
  have S_JULIAN_ANNUNCIATION := Sta.start v_JULIAN_ANNUNCIATION (Or.inr ⟨(hw _ (List.mem_of_getElem? (i := 17) rfl)), (hw _ (List.mem_of_getElem? (i := 70) rfl))⟩)
  obtain ⟨n9, m9⟩ := and_e m8
  obtain ⟨n10, m10⟩ := and_e m9
  obtain ⟨n11, m11⟩ := and_e m10
  obtain ⟨n12, m12⟩ := and_e m11
  obtain ⟨n13, m13⟩ := and_e m12
  have o_GREGORIAN := eqv_i (Term.int_eval (0)) n12
  rw [fld_at v_GREGORIAN] at o_GREGORIAN
  have o_JULIAN := eqv_i (Term.int_eval (1)) n10
  rw [fld_at v_JULIAN] at o_JULIAN
  have o_JULIAN_ANNUNCIATION := eqv_i (Term.int_eval (2)) n9
  rw [fld_at v_JULIAN_ANNUNCIATION] at o_JULIAN_ANNUNCIATION
  have o_JULIAN_NATAL := eqv_i (Term.int_eval (3)) m13
  rw [fld_at v_JULIAN_NATAL] at o_JULIAN_NATAL
  have o_FRENCH_REPUBLICAN := eqv_i (Term.int_eval (4)) n13
  rw [fld_at v_FRENCH_REPUBLICAN] at o_FRENCH_REPUBLICAN
  have o_HIJRI := eqv_i (Term.int_eval (5)) n11
  rw [fld_at v_HIJRI] at o_HIJRI
  have nq : ∀ {a b : Addr} {i j : Int32}, s.fieldOf? a "java/lang/Enum" "ordinal" "I" = some (.int i) → s.fieldOf? b "java/lang/Enum" "ordinal" "I" = some (.int j) → i ≠ j → a ≠ b := fun ha hb hn e => hn (by rw [e, hb] at ha; cases ha; rfl)
  have hne : oDist r_GREGORIAN r_JULIAN r_JULIAN_ANNUNCIATION r_JULIAN_NATAL r_FRENCH_REPUBLICAN r_HIJRI := ⟨nq o_GREGORIAN o_JULIAN (by decide), nq o_GREGORIAN o_JULIAN_ANNUNCIATION (by decide), nq o_GREGORIAN o_JULIAN_NATAL (by decide), nq o_GREGORIAN o_FRENCH_REPUBLICAN (by decide), nq o_GREGORIAN o_HIJRI (by decide), nq o_JULIAN o_JULIAN_ANNUNCIATION (by decide), nq o_JULIAN o_JULIAN_NATAL (by decide), nq o_JULIAN o_FRENCH_REPUBLICAN (by decide), nq o_JULIAN o_HIJRI (by decide), nq o_JULIAN_ANNUNCIATION o_JULIAN_NATAL (by decide), nq o_JULIAN_ANNUNCIATION o_FRENCH_REPUBLICAN (by decide), nq o_JULIAN_ANNUNCIATION o_HIJRI (by decide), nq o_JULIAN_NATAL o_FRENCH_REPUBLICAN (by decide), nq o_JULIAN_NATAL o_HIJRI (by decide), nq o_FRENCH_REPUBLICAN o_HIJRI (by decide)⟩
  obtain ⟨n, o, h1, h2, h3, _, L, rfl, ⟨rfl, N⟩, hq⟩ := rm0 l s _ hw x0 x1 x2 x3 x4 x5 r_YEAR_FIRST r_MONTH_FIRST r_OTHER r_GREGORIAN r_JULIAN r_JULIAN_ANNUNCIATION r_JULIAN_NATAL r_FRENCH_REPUBLICAN r_HIJRI s.heap s.heap.size (Nat.le_refl _) (Old.start s) S_YEAR_FIRST S_MONTH_FIRST S_OTHER S_GREGORIAN S_JULIAN S_JULIAN_ANNUNCIATION S_JULIAN_NATAL S_FRENCH_REPUBLICAN S_HIJRI hne tables_1 p e ha hc hk s m _ below hf ((Spec.applies_iff_loose hf).mp happ).1 ⟨rfl, State.Warmed39.refl s, rfl⟩ trivial
  refine ⟨n, _, h1, h2, h3, hpost _ _ _ _ _ _ ⟨Cond.after_iff.mpr rfl, Cond.after_iff.mpr (eq_i res_at (Term.int_eval (1)) rfl), trivial⟩ ⟨hq.1, hq.2.1, (hq.2.2.sift fun y hy => Or.inr (N y hy)).mono (by decide) (by decide)⟩⟩
theorem main_1_1 : Claimed_1_1 := comes_1 fun _ _ _ _ _ _ h hF => ⟨h.1, hF⟩
theorem main_1_2 : Claimed_1_2 := comes_1 fun _ _ _ _ _ _ h hF => ⟨h.2.1, hF⟩
end Jvm.Pilot.@@N@@
namespace Jvm.Pilot.@@N@@
open Jvm Jvm.ClassFile Sem Op Lib Jvm.Free Jvm.Stand Jvm.Pilot.@@N@@.Jvm.D
/-! MADE BY PROGRAM (witnessworld.py) out of the Statement's table words and the real class files: 15 classes; the members and pool entries that the words name. The judged class is class 1, her method 3. -/
namespace start1
open Jvm.ClassFile
def u (s : String) : CpInfo := .utf8 (stringToUtf16 s)
/-- a pool by its gaps: so many unusable entries, then the entry; so many at the end -/
def gap : Nat → List CpInfo → List CpInfo
  | 0, r => r
  | n + 1, r => .unusable :: gap n r
def poolList (es : List (Nat × CpInfo)) (last : Nat) : List CpInfo := es.foldr (fun e r => gap e.1 (e.2 :: r)) (gap last [])
def pool (es : List (Nat × CpInfo)) (last : Nat) : Array CpInfo := ⟨poolList es last⟩
def fileOf (pool : Array CpInfo) (this : Nat) (attrs : Array Attribute := #[]) (ms : Array MethodInfo := #[]) (fl : Nat := 33) (sup : Nat := 0) (ifs : Array Nat := #[]) (fds : Array FieldInfo := #[]) : ClassFile where
  minorVersion := 0
  majorVersion := 65
  constantPool := pool
  accessFlags := fl
  thisClass := this
  superClass := sup
  interfaces := ifs
  fields := fds
  methods := ms
  attributes := attrs
def plain (name : String) (sup : Option ClassId) : Class where
  name := name
  kind := .ordinary
  loader := none
  accessFlags := 33
  super := sup
  interfaces := #[]
  cf := none
  fields := #[]
  methods := #[]
  instanceTypes := #[]
  staticTypes := #[]
  resolved := #[]
  callSites := []
  init := .initialized
  statics := none
  mirror := none

def pool0 : Array CpInfo := pool [(5, u "<init>"), (0, u "()V"), (1, .class_ 10), (1, u "java/lang/Object")] 113

def k0c0 : Code := { maxStack := 0, maxLocals := 1, code := object_method_1_code, exceptionTable := #[], attributes := #[] }
def k0m0 : Method := { name := "<init>", desc := "()V", sig := { parameters := [], returnType := none }, accessFlags := 1, code := some k0c0 }
/-- java/lang/Object -/
def k0 : Class := { plain "java/lang/Object" none with
  accessFlags := 33
  interfaces := #[]
  cf := some (fileOf pool0 8 #[] #[{ accessFlags := 1, nameIndex := 5, descriptorIndex := 6, attributes := #[] }] 33 0 #[] #[])
  fields := #[]
  methods := #[k0m0]
  instanceTypes := #[]
  staticTypes := #[]
  resolved := Array.replicate 124 none
  statics := none }

def pool1 : Array CpInfo := pool [(2, .class_ 4), (1, u "java/lang/Object"), (0, u "<init>"), (0, u "()V"), (0, .fieldref 8 9), (0, .class_ 10), (0, .nameAndType 11 12), (0, u "org/kalends/calendars/Calendar"), (0, u "GREGORIAN"), (0, u "Lorg/kalends/calendars/Calendar;"), (0, .fieldref 8 14), (0, .nameAndType 15 12), (0, u "JULIAN"), (0, .fieldref 8 17), (0, .nameAndType 18 12), (0, u "JULIAN_ANNUNCIATION"), (0, .fieldref 8 20), (0, .nameAndType 21 12), (0, u "JULIAN_NATAL"), (0, .fieldref 8 23), (0, .nameAndType 24 12), (0, u "FRENCH_REPUBLICAN"), (0, .fieldref 8 26), (0, .nameAndType 27 12), (0, u "HIJRI"), (0, .fieldref 29 30), (0, .class_ 31), (0, .nameAndType 32 33), (0, u "org/kalends/expressions/WrittenDate$Order"), (0, u "YEAR_FIRST"), (0, u "Lorg/kalends/expressions/WrittenDate$Order;"), (0, .fieldref 29 35), (0, .nameAndType 36 33), (0, u "MONTH_FIRST"), (0, .fieldref 29 38), (0, .nameAndType 39 33), (0, u "OTHER"), (0, .long 7), (1, .long 6), (1, .long 3), (1, .methodref 47 48), (0, .class_ 49), (0, .nameAndType 50 51), (0, u "org/kalends/expressions/WrittenDateSlashJoinsPinLaw"), (0, u "order"), (0, u "(I)Lorg/kalends/expressions/WrittenDate$Order;"), (0, .class_ 53), (0, u "org/kalends/expressions/WrittenDate"), (0, .methodref 47 55), (0, .nameAndType 56 57), (0, u "calendar"), (0, u "(I)Lorg/kalends/calendars/Calendar;"), (0, .methodref 52 59), (0, .nameAndType 5 60), (0, u "(IIILorg/kalends/expressions/WrittenDate$Order;Lorg/kalends/calendars/Calendar;)V"), (0, .methodref 52 62), (0, .nameAndType 5 63), (0, u "(IIIILorg/kalends/expressions/WrittenDate$Order;Ljava/time/DayOfWeek;ZLorg/kalends/calendars/Calendar;Z)V"), (0, .methodref 52 65), (0, .nameAndType 66 67), (0, u "slashJoins"), (0, u "(Lorg/kalends/expressions/WrittenDate;)Z"), (3, u "law"), (0, u "(IIIIIJ)Z")] 4

def k1m0 : Method := { name := "<init>", desc := "()V", sig := { parameters := [], returnType := none }, accessFlags := 2, code := none }
def k1c1 : Code := { maxStack := 2, maxLocals := 1, code := method_2_code, exceptionTable := #[], attributes := #[] }
def k1m1 : Method := { name := "calendar", desc := "(I)Lorg/kalends/calendars/Calendar;", sig := { parameters := [.int], returnType := some (.object "org/kalends/calendars/Calendar") }, accessFlags := 10, code := some k1c1 }
def k1c2 : Code := { maxStack := 2, maxLocals := 1, code := method_3_code, exceptionTable := #[], attributes := #[] }
def k1m2 : Method := { name := "order", desc := "(I)Lorg/kalends/expressions/WrittenDate$Order;", sig := { parameters := [.int], returnType := some (.object "org/kalends/expressions/WrittenDate$Order") }, accessFlags := 10, code := some k1c2 }
def k1c3 : Code := { maxStack := 11, maxLocals := 30, code := code, exceptionTable := #[], attributes := #[] }
def k1m3 : Method := { name := "law", desc := "(IIIIIJ)Z", sig := { parameters := [.int, .int, .int, .int, .int, .long], returnType := some .boolean }, accessFlags := 9, code := some k1c3 }
/-- org/kalends/expressions/WrittenDateSlashJoinsPinLaw -/
def k1 : Class := { plain "org/kalends/expressions/WrittenDateSlashJoinsPinLaw" (some 0) with
  accessFlags := 49
  interfaces := #[]
  cf := some (fileOf pool1 47 #[] #[{ accessFlags := 2, nameIndex := 5, descriptorIndex := 6, attributes := #[] }, { accessFlags := 10, nameIndex := 56, descriptorIndex := 57, attributes := #[] }, { accessFlags := 10, nameIndex := 50, descriptorIndex := 51, attributes := #[] }, { accessFlags := 9, nameIndex := 71, descriptorIndex := 72, attributes := #[] }] 49 2 #[] #[])
  fields := #[]
  methods := #[k1m0, k1m1, k1m2, k1m3]
  instanceTypes := #[]
  staticTypes := #[]
  resolved := Array.replicate 77 none
  statics := none }

def pool2 : Array CpInfo := pool [(1, .class_ 2), (0, u "java/lang/constant/Constable"), (0, .class_ 4), (0, u "java/lang/Object")] 6

/-- java/lang/constant/Constable -/
def k2 : Class := { plain "java/lang/constant/Constable" (some 0) with
  accessFlags := 1537
  interfaces := #[]
  cf := some (fileOf pool2 1 #[] #[] 1537 3 #[] #[])
  fields := #[]
  methods := #[]
  instanceTypes := #[]
  staticTypes := #[]
  resolved := Array.replicate 11 none
  statics := none }

def pool3 : Array CpInfo := pool [(1, .class_ 2), (0, u "java/lang/Comparable"), (0, .class_ 4), (0, u "java/lang/Object")] 7

/-- java/lang/Comparable -/
def k3 : Class := { plain "java/lang/Comparable" (some 0) with
  accessFlags := 1537
  interfaces := #[]
  cf := some (fileOf pool3 1 #[] #[] 1537 3 #[] #[])
  fields := #[]
  methods := #[]
  instanceTypes := #[]
  staticTypes := #[]
  resolved := Array.replicate 12 none
  statics := none }

def pool4 : Array CpInfo := pool [(1, .class_ 2), (0, u "java/io/Serializable"), (0, .class_ 4), (0, u "java/lang/Object")] 2

/-- java/io/Serializable -/
def k4 : Class := { plain "java/io/Serializable" (some 0) with
  accessFlags := 1537
  interfaces := #[]
  cf := some (fileOf pool4 1 #[] #[] 1537 3 #[] #[])
  fields := #[]
  methods := #[]
  instanceTypes := #[]
  staticTypes := #[]
  resolved := Array.replicate 7 none
  statics := none }

def pool5 : Array CpInfo := pool [(2, .class_ 4), (1, u "java/lang/Enum"), (0, u "name"), (0, u "Ljava/lang/String;"), (2, u "ordinal"), (0, u "I"), (1, .class_ 14), (1, u "java/lang/Object"), (4, u "hash"), (86, .class_ 108), (1, u "java/lang/Enum$EnumDesc"), (2, .class_ 112), (0, u "java/lang/constant/Constable"), (0, .class_ 114), (0, u "java/lang/Comparable"), (0, .class_ 116), (0, u "java/io/Serializable")] 87

/-- java/lang/Enum -/
def k5 : Class := { plain "java/lang/Enum" (some 0) with
  accessFlags := 1057
  interfaces := #[2, 3, 4]
  cf := some (fileOf pool5 2 #[.nestMembers #[106]] #[] 1057 12 #[111, 113, 115] #[{ accessFlags := 18, nameIndex := 5, descriptorIndex := 6, attributes := #[] }, { accessFlags := 18, nameIndex := 9, descriptorIndex := 10, attributes := #[] }, { accessFlags := 2, nameIndex := 19, descriptorIndex := 10, attributes := #[] }])
  fields := #[{ name := "name", type := (.object "java/lang/String"), accessFlags := 18, slot := 0, constantValue := 0 }, { name := "ordinal", type := .int, accessFlags := 18, slot := 1, constantValue := 0 }, { name := "hash", type := .int, accessFlags := 2, slot := 2, constantValue := 0 }]
  methods := #[]
  instanceTypes := #[(.object "java/lang/String"), .int, .int]
  staticTypes := #[]
  resolved := Array.replicate 204 none
  statics := none }

def pool6 : Array CpInfo := pool [(1, .class_ 2), (0, u "org/kalends/expressions/WrittenDate$Order"), (2, u "YEAR_FIRST"), (0, u "Lorg/kalends/expressions/WrittenDate$Order;"), (2, u "MONTH_FIRST"), (2, u "OTHER"), (2, u "$VALUES"), (0, u "[Lorg/kalends/expressions/WrittenDate$Order;"), (6, .class_ 25), (1, u "java/lang/Enum"), (26, .class_ 53), (0, u "org/kalends/expressions/WrittenDate")] 2

/-- org/kalends/expressions/WrittenDate$Order -/
def k6 : Class := { plain "org/kalends/expressions/WrittenDate$Order" (some 5) with
  accessFlags := 16432
  interfaces := #[]
  cf := some (fileOf pool6 1 #[.nestHost 52] #[] 16432 23 #[] #[{ accessFlags := 16409, nameIndex := 5, descriptorIndex := 6, attributes := #[] }, { accessFlags := 16409, nameIndex := 9, descriptorIndex := 6, attributes := #[] }, { accessFlags := 16409, nameIndex := 12, descriptorIndex := 6, attributes := #[] }, { accessFlags := 4122, nameIndex := 15, descriptorIndex := 16, attributes := #[] }])
  fields := #[{ name := "YEAR_FIRST", type := (.object "org/kalends/expressions/WrittenDate$Order"), accessFlags := 16409, slot := 0, constantValue := 0 }, { name := "MONTH_FIRST", type := (.object "org/kalends/expressions/WrittenDate$Order"), accessFlags := 16409, slot := 1, constantValue := 0 }, { name := "OTHER", type := (.object "org/kalends/expressions/WrittenDate$Order"), accessFlags := 16409, slot := 2, constantValue := 0 }, { name := "$VALUES", type := (.array (.object "org/kalends/expressions/WrittenDate$Order")), accessFlags := 4122, slot := 3, constantValue := 0 }]
  methods := #[]
  instanceTypes := #[(.object "java/lang/String"), .int, .int]
  staticTypes := #[(.object "org/kalends/expressions/WrittenDate$Order"), (.object "org/kalends/expressions/WrittenDate$Order"), (.object "org/kalends/expressions/WrittenDate$Order"), (.array (.object "org/kalends/expressions/WrittenDate$Order"))]
  resolved := Array.replicate 56 none
  statics := some 0 }

def pool7 : Array CpInfo := pool [(1, .methodref 2 3), (0, .class_ 4), (0, .nameAndType 5 6), (0, u "java/lang/Object"), (0, u "<init>"), (0, u "()V"), (0, .class_ 8), (0, u "java/lang/Record")] 13

def k7c0 : Code := { maxStack := 1, maxLocals := 1, code := jdk_30_method_1_code, exceptionTable := #[], attributes := #[] }
def k7m0 : Method := { name := "<init>", desc := "()V", sig := { parameters := [], returnType := none }, accessFlags := 4, code := some k7c0 }
/-- java/lang/Record -/
def k7 : Class := { plain "java/lang/Record" (some 0) with
  accessFlags := 1057
  interfaces := #[]
  cf := some (fileOf pool7 7 #[] #[{ accessFlags := 4, nameIndex := 5, descriptorIndex := 6, attributes := #[] }] 1057 2 #[] #[])
  fields := #[]
  methods := #[k7m0]
  instanceTypes := #[]
  staticTypes := #[]
  resolved := Array.replicate 22 none
  statics := none }

def pool8 : Array CpInfo := pool [(1, .methodref 2 3), (0, .class_ 4), (0, .nameAndType 5 6), (0, u "java/lang/Record"), (0, u "<init>"), (0, u "()V"), (0, .fieldref 8 9), (0, .class_ 10), (0, .nameAndType 11 12), (0, u "org/kalends/expressions/WrittenDate"), (0, u "year"), (0, u "I"), (0, .fieldref 8 14), (0, .nameAndType 15 12), (0, u "month"), (0, .fieldref 8 17), (0, .nameAndType 18 12), (0, u "day"), (0, .fieldref 8 20), (0, .nameAndType 21 12), (0, u "length"), (0, .fieldref 8 23), (0, .nameAndType 24 25), (0, u "order"), (0, u "Lorg/kalends/expressions/WrittenDate$Order;"), (0, .fieldref 8 27), (0, .nameAndType 28 29), (0, u "weekday"), (0, u "Ljava/time/DayOfWeek;"), (0, .fieldref 8 31), (0, .nameAndType 32 33), (0, u "mayBeDecade"), (0, u "Z"), (0, .fieldref 8 35), (0, .nameAndType 36 37), (0, u "calendar"), (0, u "Lorg/kalends/calendars/Calendar;"), (0, .fieldref 8 39), (0, .nameAndType 40 33), (0, u "namesCalendar"), (1, .class_ 44), (1, u "org/kalends/expressions/WrittenDate$Order"), (3, u "(IIILorg/kalends/expressions/WrittenDate$Order;Lorg/kalends/calendars/Calendar;)V"), (0, .methodref 8 50), (0, .nameAndType 5 51), (0, u "(IIIILorg/kalends/expressions/WrittenDate$Order;Ljava/time/DayOfWeek;ZLorg/kalends/calendars/Calendar;Z)V"), (45, .class_ 98), (0, u "org/kalends/expressions/WrittenDate$Span"), (12, .class_ 112), (0, u "org/kalends/expressions/WrittenDate$Days"), (133, u "NONE"), (27, u "slashJoins"), (0, u "(Lorg/kalends/expressions/WrittenDate;)Z")] 54

def k8c0 : Code := { maxStack := 10, maxLocals := 6, code := prog_44_method_2_code, exceptionTable := #[], attributes := #[] }
def k8m0 : Method := { name := "<init>", desc := "(IIILorg/kalends/expressions/WrittenDate$Order;Lorg/kalends/calendars/Calendar;)V", sig := { parameters := [.int, .int, .int, (.object "org/kalends/expressions/WrittenDate$Order"), (.object "org/kalends/calendars/Calendar")], returnType := none }, accessFlags := 0, code := some k8c0 }
def k8c1 : Code := { maxStack := 2, maxLocals := 10, code := prog_44_method_3_code, exceptionTable := #[], attributes := #[] }
def k8m1 : Method := { name := "<init>", desc := "(IIIILorg/kalends/expressions/WrittenDate$Order;Ljava/time/DayOfWeek;ZLorg/kalends/calendars/Calendar;Z)V", sig := { parameters := [.int, .int, .int, .int, (.object "org/kalends/expressions/WrittenDate$Order"), (.object "java/time/DayOfWeek"), .boolean, (.object "org/kalends/calendars/Calendar"), .boolean], returnType := none }, accessFlags := 0, code := some k8c1 }
def k8c2 : Code := { maxStack := 3, maxLocals := 2, code := prog_44_method_19_code, exceptionTable := #[], attributes := #[] }
def k8m2 : Method := { name := "slashJoins", desc := "(Lorg/kalends/expressions/WrittenDate;)Z", sig := { parameters := [(.object "org/kalends/expressions/WrittenDate")], returnType := some .boolean }, accessFlags := 0, code := some k8c2 }
/-- org/kalends/expressions/WrittenDate -/
def k8 : Class := { plain "org/kalends/expressions/WrittenDate" (some 7) with
  accessFlags := 48
  interfaces := #[]
  cf := some (fileOf pool8 8 #[.nestMembers #[97, 111, 42]] #[{ accessFlags := 0, nameIndex := 5, descriptorIndex := 48, attributes := #[] }, { accessFlags := 0, nameIndex := 5, descriptorIndex := 51, attributes := #[] }, { accessFlags := 0, nameIndex := 274, descriptorIndex := 275, attributes := #[] }] 48 2 #[] #[{ accessFlags := 18, nameIndex := 11, descriptorIndex := 12, attributes := #[] }, { accessFlags := 18, nameIndex := 15, descriptorIndex := 12, attributes := #[] }, { accessFlags := 18, nameIndex := 18, descriptorIndex := 12, attributes := #[] }, { accessFlags := 18, nameIndex := 21, descriptorIndex := 12, attributes := #[] }, { accessFlags := 18, nameIndex := 24, descriptorIndex := 25, attributes := #[] }, { accessFlags := 18, nameIndex := 28, descriptorIndex := 29, attributes := #[] }, { accessFlags := 18, nameIndex := 32, descriptorIndex := 33, attributes := #[] }, { accessFlags := 18, nameIndex := 36, descriptorIndex := 37, attributes := #[] }, { accessFlags := 18, nameIndex := 40, descriptorIndex := 33, attributes := #[] }, { accessFlags := 24, nameIndex := 246, descriptorIndex := 12, attributes := #[] }])
  fields := #[{ name := "year", type := .int, accessFlags := 18, slot := 0, constantValue := 0 }, { name := "month", type := .int, accessFlags := 18, slot := 1, constantValue := 0 }, { name := "day", type := .int, accessFlags := 18, slot := 2, constantValue := 0 }, { name := "length", type := .int, accessFlags := 18, slot := 3, constantValue := 0 }, { name := "order", type := (.object "org/kalends/expressions/WrittenDate$Order"), accessFlags := 18, slot := 4, constantValue := 0 }, { name := "weekday", type := (.object "java/time/DayOfWeek"), accessFlags := 18, slot := 5, constantValue := 0 }, { name := "mayBeDecade", type := .boolean, accessFlags := 18, slot := 6, constantValue := 0 }, { name := "calendar", type := (.object "org/kalends/calendars/Calendar"), accessFlags := 18, slot := 7, constantValue := 0 }, { name := "namesCalendar", type := .boolean, accessFlags := 18, slot := 8, constantValue := 0 }, { name := "NONE", type := .int, accessFlags := 24, slot := 0, constantValue := 0 }]
  methods := #[k8m0, k8m1, k8m2]
  instanceTypes := #[.int, .int, .int, .int, (.object "org/kalends/expressions/WrittenDate$Order"), (.object "java/time/DayOfWeek"), .boolean, (.object "org/kalends/calendars/Calendar"), .boolean]
  staticTypes := #[.int]
  resolved := Array.replicate 330 none
  statics := none }

def pool9 : Array CpInfo := pool [(1, .class_ 2), (0, u "org/kalends/calendars/Calendar"), (2, u "GREGORIAN"), (0, u "Lorg/kalends/calendars/Calendar;"), (2, u "JULIAN"), (2, u "JULIAN_ANNUNCIATION"), (2, u "JULIAN_NATAL"), (2, u "FRENCH_REPUBLICAN"), (2, u "HIJRI"), (2, u "$VALUES"), (0, u "[Lorg/kalends/calendars/Calendar;"), (6, .class_ 34), (1, u "java/lang/Enum"), (8, u "reckoning"), (0, u "Lorg/kalends/calendars/Reckoning;"), (2, u "gregorianMonths"), (0, u "Z"), (2, u "inFigures"), (18, u "written"), (0, u "Ljava/lang/String;")] 94

/-- org/kalends/calendars/Calendar -/
def k9 : Class := { plain "org/kalends/calendars/Calendar" (some 5) with
  accessFlags := 16433
  interfaces := #[]
  cf := some (fileOf pool9 1 #[] #[] 16433 32 #[] #[{ accessFlags := 16409, nameIndex := 5, descriptorIndex := 6, attributes := #[] }, { accessFlags := 16409, nameIndex := 9, descriptorIndex := 6, attributes := #[] }, { accessFlags := 16409, nameIndex := 12, descriptorIndex := 6, attributes := #[] }, { accessFlags := 16409, nameIndex := 15, descriptorIndex := 6, attributes := #[] }, { accessFlags := 16409, nameIndex := 18, descriptorIndex := 6, attributes := #[] }, { accessFlags := 16409, nameIndex := 21, descriptorIndex := 6, attributes := #[] }, { accessFlags := 18, nameIndex := 43, descriptorIndex := 44, attributes := #[] }, { accessFlags := 18, nameIndex := 47, descriptorIndex := 48, attributes := #[] }, { accessFlags := 18, nameIndex := 51, descriptorIndex := 48, attributes := #[] }, { accessFlags := 18, nameIndex := 70, descriptorIndex := 71, attributes := #[] }, { accessFlags := 4122, nameIndex := 24, descriptorIndex := 25, attributes := #[] }])
  fields := #[{ name := "GREGORIAN", type := (.object "org/kalends/calendars/Calendar"), accessFlags := 16409, slot := 0, constantValue := 0 }, { name := "JULIAN", type := (.object "org/kalends/calendars/Calendar"), accessFlags := 16409, slot := 1, constantValue := 0 }, { name := "JULIAN_ANNUNCIATION", type := (.object "org/kalends/calendars/Calendar"), accessFlags := 16409, slot := 2, constantValue := 0 }, { name := "JULIAN_NATAL", type := (.object "org/kalends/calendars/Calendar"), accessFlags := 16409, slot := 3, constantValue := 0 }, { name := "FRENCH_REPUBLICAN", type := (.object "org/kalends/calendars/Calendar"), accessFlags := 16409, slot := 4, constantValue := 0 }, { name := "HIJRI", type := (.object "org/kalends/calendars/Calendar"), accessFlags := 16409, slot := 5, constantValue := 0 }, { name := "reckoning", type := (.object "org/kalends/calendars/Reckoning"), accessFlags := 18, slot := 3, constantValue := 0 }, { name := "gregorianMonths", type := .boolean, accessFlags := 18, slot := 4, constantValue := 0 }, { name := "inFigures", type := .boolean, accessFlags := 18, slot := 5, constantValue := 0 }, { name := "written", type := (.object "java/lang/String"), accessFlags := 18, slot := 6, constantValue := 0 }, { name := "$VALUES", type := (.array (.object "org/kalends/calendars/Calendar")), accessFlags := 4122, slot := 6, constantValue := 0 }]
  methods := #[]
  instanceTypes := #[(.object "java/lang/String"), .int, .int, (.object "org/kalends/calendars/Reckoning"), .boolean, .boolean, (.object "java/lang/String")]
  staticTypes := #[(.object "org/kalends/calendars/Calendar"), (.object "org/kalends/calendars/Calendar"), (.object "org/kalends/calendars/Calendar"), (.object "org/kalends/calendars/Calendar"), (.object "org/kalends/calendars/Calendar"), (.object "org/kalends/calendars/Calendar"), (.array (.object "org/kalends/calendars/Calendar"))]
  resolved := Array.replicate 166 none
  statics := some 1 }

def pool10 : Array CpInfo := pool [(1, u "java/lang/Cloneable"), (0, .class_ 1), (0, u "java/lang/Object"), (0, .class_ 3)] 3

/-- java/lang/Cloneable -/
def k10 : Class := { plain "java/lang/Cloneable" (some 0) with
  accessFlags := 1537
  interfaces := #[]
  cf := some (fileOf pool10 2 #[] #[] 1537 4 #[] #[])
  fields := #[]
  methods := #[]
  instanceTypes := #[]
  staticTypes := #[]
  resolved := Array.replicate 8 none
  statics := none }

/-- the primitive byte -/
def k11 : Class := { plain "byte" none with kind := .primitive 'B', accessFlags := 0x411 }
/-- [B -/
def k12 : Class := { plain "[B" (some 0) with kind := .array 11 .byte, interfaces := #[10, 4], accessFlags := 1041 }

/-- the primitive int -/
def k13 : Class := { plain "int" none with kind := .primitive 'I', accessFlags := 0x411 }
/-- [I -/
def k14 : Class := { plain "[I" (some 0) with kind := .array 13 .int, interfaces := #[10, 4], accessFlags := 1041 }

def heap : Heap := #[{ cls := 6, slots := #[.ref 2, .ref 3, .ref 4, .null], vm := .statics 6 },
  { cls := 9, slots := #[.ref 5, .ref 6, .ref 7, .ref 8, .ref 9, .ref 10, .null], vm := .statics 9 },
  { cls := 6, slots := #[.null, .int 0, .int 0], vm := .none },
  { cls := 6, slots := #[.null, .int 1, .int 0], vm := .none },
  { cls := 6, slots := #[.null, .int 2, .int 0], vm := .none },
  { cls := 9, slots := #[.null, .int 0, .int 0, .null, .int 0, .int 0, .null], vm := .none },
  { cls := 9, slots := #[.null, .int 1, .int 0, .null, .int 0, .int 0, .null], vm := .none },
  { cls := 9, slots := #[.null, .int 2, .int 0, .null, .int 0, .int 0, .null], vm := .none },
  { cls := 9, slots := #[.null, .int 3, .int 0, .null, .int 0, .int 0, .null], vm := .none },
  { cls := 9, slots := #[.null, .int 4, .int 0, .null, .int 0, .int 0, .null], vm := .none },
  { cls := 9, slots := #[.null, .int 5, .int 0, .null, .int 0, .int 0, .null], vm := .none }]
def classes : Array Class := #[k0, k1, k2, k3, k4, k5, k6, k7, k8, k9, k10, k11, k12, k13, k14]
def interned : List (Array UInt16 × Addr) := []
def slotsUsed : Nat := 62
def theMethod : MethodId := ⟨1, 3⟩
def args0 : Array Value := #[.int 5, .int 5, .int 5, .int 5, .int 5, .long 5]
def aboutOver (below : List Frame) : State where
  vm := { classes := classes, interned := interned.toArray }
  heap := heap
  slotsUsed := slotsUsed
  threads := #[{ frames := .invoking theMethod args0 :: below }]
def below0 : List Frame := [.native { method := ⟨0, 0⟩, args := #[] }]
def about1 : State := aboutOver below0
def p0 : Program := .bare "" "" ""
def e0 : Env := launch0.env 0 0 0
theorem w_frames : about1.frames = Frame.invoking theMethod args0 :: below0 := rfl
set_option maxRecDepth 65536 in
theorem w_args : argsFit about1.vm theMethod args0 = true := by decide +kernel
set_option maxRecDepth 65536 in
theorem w_heap : heapFits about1 = true := by decide +kernel
set_option maxRecDepth 65536 in
theorem w_runnable : about1.curStatus? = some .runnable := by decide +kernel
set_option maxRecDepth 65536 in
theorem w_alone : about1.alone = true := by decide +kernel
set_option maxRecDepth 65536 in
theorem w_named : about1.methodNamed? x = some theMethod := by decide +kernel
set_option maxRecDepth 65536 in
theorem w_hears : about1.hears theMethod below0 = true := by decide +kernel
set_option maxRecDepth 65536 in
theorem w_ripe : about1.ripe theMethod args0 below0 = true := by decide +kernel
theorem w_running : about1.status = .running := rfl
set_option maxRecDepth 65536 in
theorem w_room : about1.hasRoom e0.platform room_1 = true :=
  launch0.hasRoom_least _ room_1 (by decide +kernel) (by decide +kernel) (by decide +kernel) (by decide +kernel) (by decide +kernel) (by decide +kernel)
theorem allAtoms_all (ts : List Jvm.Cond) (a : Array Jvm.Value) (st : Jvm.State) : (allAtoms ts).before a st = ts.all (fun c => c.before a st) := by
  induction ts with
  | nil => rfl
  | cons c t ih =>
    show (Jvm.Cond.and c (allAtoms t)).before a st = _
    rw [Jvm.Cond.before_and, ih, List.all_cons]
def words1 : List Jvm.Cond := Jvm.Cond.code x code maxLocals ret :: tables_1
/-- a 'code' word, met by the world's own term for the bytes: nothing is compared byte by byte -/
theorem code_word {y : MethodName} {bytes : ByteArray} {mx : Nat} {rt : Option FieldType} {a : Array Value} {s : State} {m : MethodId} {meth : Method} {c : Code} (h1 : s.methodNamed? y = some m) (h2 : s.vm.method? m = some meth) (h3 : meth.code = some c) (h4 : c.code = bytes)
    (h5 : (c.maxLocals == mx && c.exceptionTable.isEmpty && decide (c.maxStack ≤ mostOperands) && decide (meth.sig.returnType = rt) && !meth.locks && decide (parseMethodDescriptor y.desc = some meth.sig)) = true) : (Jvm.Cond.code y bytes mx rt).before a s = true := by
  simp only [Bool.and_eq_true, beq_iff_eq, Bool.not_eq_true', decide_eq_true_eq] at h5
  obtain ⟨⟨⟨⟨⟨g1, g2⟩, g3⟩, g4⟩, g5⟩, g6⟩ := h5
  simp [Cond.before, Cond.holds, Cond.value, h1, h2, h3, h4, g1, g2, g3, g4, g5, g6]
def isCode : Jvm.Cond → Bool
  | .code _ _ _ _ => true
  | _ => false
theorem all_split {L : List Jvm.Cond} {P : Jvm.Cond → Bool} (h1 : L.all (fun c => isCode c || P c) = true) (h2 : ∀ c ∈ L.filter isCode, P c = true) : L.all P = true := by
  refine List.all_eq_true.mpr fun c hc => ?_
  have h := List.all_eq_true.mp h1 c hc
  rcases Bool.eq_false_or_eq_true (isCode c) with hi | hi
  · exact h2 c (List.mem_filter.mpr ⟨hc, hi⟩)
  · simpa [hi] using h
set_option maxRecDepth 65536 in
theorem w_c0 : (Jvm.Cond.code x code maxLocals ret).before args0 about1 = true := code_word (m := ⟨1, 3⟩) (meth := k1m3) (c := k1c3) (by decide +kernel) rfl rfl rfl (by decide +kernel)
set_option maxRecDepth 65536 in
theorem w_c1 : (Jvm.Cond.code ({ cls := "org/kalends/expressions/WrittenDateSlashJoinsPinLaw", name := "order", desc := "(I)Lorg/kalends/expressions/WrittenDate$Order;" } : Jvm.MethodName) method_3_code (1 : Nat) (Option.some (Jvm.ClassFile.FieldType.object "org/kalends/expressions/WrittenDate$Order"))).before args0 about1 = true := code_word (m := ⟨1, 2⟩) (meth := k1m2) (c := k1c2) (by decide +kernel) rfl rfl rfl (by decide +kernel)
set_option maxRecDepth 65536 in
theorem w_c2 : (Jvm.Cond.code ({ cls := "org/kalends/expressions/WrittenDateSlashJoinsPinLaw", name := "calendar", desc := "(I)Lorg/kalends/calendars/Calendar;" } : Jvm.MethodName) method_2_code (1 : Nat) (Option.some (Jvm.ClassFile.FieldType.object "org/kalends/calendars/Calendar"))).before args0 about1 = true := code_word (m := ⟨1, 1⟩) (meth := k1m1) (c := k1c1) (by decide +kernel) rfl rfl rfl (by decide +kernel)
set_option maxRecDepth 65536 in
theorem w_c3 : (Jvm.Cond.code ({ cls := "org/kalends/expressions/WrittenDate", name := "<init>", desc := "(IIIILorg/kalends/expressions/WrittenDate$Order;Ljava/time/DayOfWeek;ZLorg/kalends/calendars/Calendar;Z)V" } : Jvm.MethodName) prog_44_method_3_code (10 : Nat) (Option.none : Option Jvm.ClassFile.FieldType)).before args0 about1 = true := code_word (m := ⟨8, 1⟩) (meth := k8m1) (c := k8c1) (by decide +kernel) rfl rfl rfl (by decide +kernel)
set_option maxRecDepth 65536 in
theorem w_c4 : (Jvm.Cond.code ({ cls := "java/lang/Record", name := "<init>", desc := "()V" } : Jvm.MethodName) jdk_30_method_1_code (1 : Nat) (Option.none : Option Jvm.ClassFile.FieldType)).before args0 about1 = true := code_word (m := ⟨7, 0⟩) (meth := k7m0) (c := k7c0) (by decide +kernel) rfl rfl rfl (by decide +kernel)
set_option maxRecDepth 65536 in
theorem w_c5 : (Jvm.Cond.code ({ cls := "java/lang/Object", name := "<init>", desc := "()V" } : Jvm.MethodName) object_method_1_code (1 : Nat) (Option.none : Option Jvm.ClassFile.FieldType)).before args0 about1 = true := code_word (m := ⟨0, 0⟩) (meth := k0m0) (c := k0c0) (by decide +kernel) rfl rfl rfl (by decide +kernel)
set_option maxRecDepth 65536 in
theorem w_c6 : (Jvm.Cond.code ({ cls := "org/kalends/expressions/WrittenDate", name := "slashJoins", desc := "(Lorg/kalends/expressions/WrittenDate;)Z" } : Jvm.MethodName) prog_44_method_19_code (2 : Nat) (Option.some Jvm.ClassFile.FieldType.boolean)).before args0 about1 = true := code_word (m := ⟨8, 2⟩) (meth := k8m2) (c := k8c2) (by decide +kernel) rfl rfl rfl (by decide +kernel)
set_option maxRecDepth 65536 in
theorem w_c7 : (Jvm.Cond.code ({ cls := "org/kalends/expressions/WrittenDate", name := "<init>", desc := "(IIILorg/kalends/expressions/WrittenDate$Order;Lorg/kalends/calendars/Calendar;)V" } : Jvm.MethodName) prog_44_method_2_code (6 : Nat) (Option.none : Option Jvm.ClassFile.FieldType)).before args0 about1 = true := code_word (m := ⟨8, 0⟩) (meth := k8m0) (c := k8c0) (by decide +kernel) rfl rfl rfl (by decide +kernel)
def codes1 : List Jvm.Cond := [Jvm.Cond.code x code maxLocals ret, Jvm.Cond.code ({ cls := "org/kalends/expressions/WrittenDateSlashJoinsPinLaw", name := "order", desc := "(I)Lorg/kalends/expressions/WrittenDate$Order;" } : Jvm.MethodName) method_3_code (1 : Nat) (Option.some (Jvm.ClassFile.FieldType.object "org/kalends/expressions/WrittenDate$Order")), Jvm.Cond.code ({ cls := "org/kalends/expressions/WrittenDateSlashJoinsPinLaw", name := "calendar", desc := "(I)Lorg/kalends/calendars/Calendar;" } : Jvm.MethodName) method_2_code (1 : Nat) (Option.some (Jvm.ClassFile.FieldType.object "org/kalends/calendars/Calendar")), Jvm.Cond.code ({ cls := "org/kalends/expressions/WrittenDate", name := "<init>", desc := "(IIIILorg/kalends/expressions/WrittenDate$Order;Ljava/time/DayOfWeek;ZLorg/kalends/calendars/Calendar;Z)V" } : Jvm.MethodName) prog_44_method_3_code (10 : Nat) (Option.none : Option Jvm.ClassFile.FieldType), Jvm.Cond.code ({ cls := "java/lang/Record", name := "<init>", desc := "()V" } : Jvm.MethodName) jdk_30_method_1_code (1 : Nat) (Option.none : Option Jvm.ClassFile.FieldType), Jvm.Cond.code ({ cls := "java/lang/Object", name := "<init>", desc := "()V" } : Jvm.MethodName) object_method_1_code (1 : Nat) (Option.none : Option Jvm.ClassFile.FieldType), Jvm.Cond.code ({ cls := "org/kalends/expressions/WrittenDate", name := "slashJoins", desc := "(Lorg/kalends/expressions/WrittenDate;)Z" } : Jvm.MethodName) prog_44_method_19_code (2 : Nat) (Option.some Jvm.ClassFile.FieldType.boolean), Jvm.Cond.code ({ cls := "org/kalends/expressions/WrittenDate", name := "<init>", desc := "(IIILorg/kalends/expressions/WrittenDate$Order;Lorg/kalends/calendars/Calendar;)V" } : Jvm.MethodName) prog_44_method_2_code (6 : Nat) (Option.none : Option Jvm.ClassFile.FieldType)]
set_option maxRecDepth 65536 in
theorem codes_eq : words1.filter isCode = codes1 := rfl
theorem w_codes : ∀ c ∈ words1.filter isCode, c.before args0 about1 = true := by
  rw [codes_eq]
  intro c hc
  simp only [codes1, List.mem_cons, List.not_mem_nil, or_false] at hc
  rcases hc with rfl | rfl | rfl | rfl | rfl | rfl | rfl | rfl
  · exact w_c0
  · exact w_c1
  · exact w_c2
  · exact w_c3
  · exact w_c4
  · exact w_c5
  · exact w_c6
  · exact w_c7
set_option maxRecDepth 65536 in
theorem w_t1 : (words1.take 24).all (fun c => isCode c || c.before args0 about1) = true := by decide +kernel
set_option maxRecDepth 65536 in
theorem w_t2 : ((words1.drop 24).take 24).all (fun c => isCode c || c.before args0 about1) = true := by decide +kernel
set_option maxRecDepth 65536 in
theorem w_t3 : ((words1.drop 24).drop 24).all (fun c => isCode c || c.before args0 about1) = true := by decide +kernel
theorem w_tables : (allAtoms (Jvm.Cond.code x code maxLocals ret :: tables_1)).before args0 about1 = true := by
  rw [allAtoms_all]
  show words1.all (fun c => c.before args0 about1) = true
  refine all_split ?_ w_codes
  rw [← List.take_append_drop 24 words1, List.all_append, w_t1, ← List.take_append_drop 24 (words1.drop 24), List.all_append, w_t2, w_t3]
  rfl
set_option maxRecDepth 65536 in
theorem w_case : (Jvm.Cond.and given_1 narrow_1).before args0 about1 = true := by decide +kernel
theorem w_applies : (headSpec (Jvm.Cond.code x code maxLocals ret :: tables_1) room_1).applies x e0.platform about1 = true :=
  (Spec.applies_iff w_frames).mpr ⟨w_running, w_runnable, w_alone, w_named, w_hears, w_ripe, w_room, w_tables⟩
theorem atStart : AtStart classFile x code maxLocals ret World_1 tables_1 room_1 Calls_1 rest_1 Pre_1 launch0 p0 e0 about1 theMethod args0 below0 :=
  ⟨lists_1, trivial, launch0.admits_env _ _ _, launch0.least_env, fairChoices_fair.cas, fairChoices_fair.clock, w_frames, w_args, w_heap, w_applies, trivial, trivial, w_case⟩
end start1
theorem witness_1 : WitnessClaimed_1 := ⟨start1.p0, start1.e0, start1.about1, start1.theMethod, start1.args0, start1.below0, start1.atStart⟩
end Jvm.Pilot.@@N@@
