import JvmDerived
import JvmDerived.Pilot.@@N@@Statement
import JvmDerived.Pilot.@@N@@Code
set_option linter.unusedVariables false
set_option linter.unusedSimpArgs false
namespace Jvm.Pilot.@@N@@
open Jvm Jvm.ClassFile Sem Op Lib Jvm.Free Jvm.Stand Jvm.LawKit Jvm.RoadKit Bundle Jvm.Pilot.@@N@@.Jvm.D
section OwnKit
variable {p : Program} {l : Launch} {e : Env} {R : Room} {s : State} {m : MethodId} {args : Array Value} {below : List Frame} {meth : Method} {c : Code} {T : State} {locs : List Loc} {cells slots : Nat} {Z : State} {a0 : Array Value} {h : Heap} {G : Outcome → State → Prop}
def oGo (p : Program) (e : Env) (below : List Frame) (G : Outcome → State → Prop) (T : State) (f : JFrame) : Prop :=
  ∃ s₂ o, Steps p.tables e below (T.setTop f) s₂ ∧ s₂.status = .running ∧ Ended s₂ below o ∧ G o s₂
theorem oGo.step {T' : State} {f f' : JFrame} (st : ∀ t, Steps p.tables e below (T'.setTop f') t → Steps p.tables e below (T.setTop f) t) (k : oGo p e below G T' f') : oGo p e below G T f := by
  obtain ⟨s₂, o, h1, h2⟩ := k
  exact ⟨s₂, o, st _ h1, h2⟩
def oG (s : State) (Q : Option Value → Heap → List Loc → Prop) (C N : Nat) : Outcome → State → Prop := fun o U' => ∃ v L, o = .returned v ∧ Q v U'.heap L ∧ FrameEnd s o U' L C N
def oCon (l : Launch) (Z : State) (y : MethodName) (bytes : ByteArray) (maxL : Nat) (ret : Option FieldType) (rm : Room) (as' : Array Value) (h : Heap) (Q : Option Value → Heap → List Loc → Prop) : Prop :=
  ∀ ws, MetFree l y (head1 (Jvm.Cond.code y bytes maxL ret :: ws) rm) (fun a U => a = as' ∧ Z.Warmed39 U.vm ∧ U.heap = h) (fun _ _ _ _ _ => True) (fun _ U o U' => ∃ v L, o = .returned v ∧ Q v U'.heap L ∧ FrameEnd U o U' L rm.cells rm.slots)
theorem oCon.of {y : MethodName} {bytes : ByteArray} {maxL : Nat} {ret : Option FieldType} {rm : Room} {as' : Array Value} {Q : Option Value → Heap → List Loc → Prop} (hpn : plainFor y = true)
    (body : ∀ p e s m below meth c s₁, p.tables.exec = Jvm.exec → c.code = bytes → c.maxLocals = maxL → s.vm.findClass y.cls = some m.cls → meth.name = y.name → meth.sig.returnType = ret → meth.locks = false → Z.Warmed39 s.vm → Stand p l e rm s m as' below meth c s₁ [] 0 0 → s₁.heap = h → oGo p e below (oG s Q rm.cells rm.slots) s₁ (entryFrame m as' maxL)) :
    oCon l Z y bytes maxL ret rm as' h Q := by
  intro ws
  refine MetFree.of_bodySF hpn hisR ?_
  intro p e s m args below meth c s₁ Bd hml0 hP hK
  obtain ⟨rfl, hZ, hh⟩ := hP
  exact body p e s m below meth c s₁ Bd.exec Bd.bytes hml0 (findClass_of_methodNamed Bd.named) (name_of_methodNamed Bd.named Bd.method).1 Bd.returns (BodyLoose.notSynchronized Bd) hZ (Stand.of_body Bd) (by rw [← hh, Bd.state]; rfl)
theorem o_iloadN (X : Stand p l e R s m args below meth c T locs cells slots) (hx : p.tables.exec = Jvm.exec) {pc pc' : Nat} {Ls : Array Slot} {st : List Value} {k : Fin 4} {v : Int32} (hd : decode c.code pc = .ok (.iload_n k, 1)) (hl : Ls[k.val]? = some (.val (.int v))) (hp : pc + 1 = pc') (q : oGo p e below G T (mkF m pc' Ls (.int v :: st))) : oGo p e below G T (mkF m pc Ls (st)) := by
  subst hp; exact q.step fun t r => XS.iloadN X.here hx rfl hd hl r
theorem o_iload (X : Stand p l e R s m args below meth c T locs cells slots) (hx : p.tables.exec = Jvm.exec) {pc pc' : Nat} {Ls : Array Slot} {st : List Value} {k : Nat} {v : Int32} (hd : decode c.code pc = .ok (.iload k, 2)) (hl : Ls[k]? = some (.val (.int v))) (hp : pc + 2 = pc') (q : oGo p e below G T (mkF m pc' Ls (.int v :: st))) : oGo p e below G T (mkF m pc Ls (st)) := by
  subst hp; exact q.step fun t r => XS.iload X.here hx rfl hd hl r
theorem o_istoreN (X : Stand p l e R s m args below meth c T locs cells slots) (hx : p.tables.exec = Jvm.exec) {pc pc' : Nat} {Ls : Array Slot} {st : List Value} {k : Fin 4} {v : Int32} {l' : Array Slot} (hd : decode c.code pc = .ok (.istore_n k, 1)) (hl : storeLocals Ls k.val (.int v) = some l') (hp : pc + 1 = pc') (q : oGo p e below G T (mkF m pc' l' (st))) : oGo p e below G T (mkF m pc Ls (.int v :: st)) := by
  subst hp; exact q.step fun t r => XS.istoreN X.here hx rfl hd rfl hl r
theorem o_istore (X : Stand p l e R s m args below meth c T locs cells slots) (hx : p.tables.exec = Jvm.exec) {pc pc' : Nat} {Ls : Array Slot} {st : List Value} {k : Nat} {v : Int32} {l' : Array Slot} (hd : decode c.code pc = .ok (.istore k, 2)) (hl : storeLocals Ls k (.int v) = some l') (hp : pc + 2 = pc') (q : oGo p e below G T (mkF m pc' l' (st))) : oGo p e below G T (mkF m pc Ls (.int v :: st)) := by
  subst hp; exact q.step fun t r => XS.istore X.here hx rfl hd rfl hl r
theorem o_lloadN (X : Stand p l e R s m args below meth c T locs cells slots) (hx : p.tables.exec = Jvm.exec) {pc pc' : Nat} {Ls : Array Slot} {st : List Value} {k : Fin 4} {v : Int64} (hd : decode c.code pc = .ok (.lload_n k, 1)) (hl : Ls[k.val]? = some (.val (.long v))) (hp : pc + 1 = pc') (q : oGo p e below G T (mkF m pc' Ls (.long v :: st))) : oGo p e below G T (mkF m pc Ls (st)) := by
  subst hp; exact q.step fun t r => XT.lloadN X.here hx rfl hd hl r
theorem o_lload (X : Stand p l e R s m args below meth c T locs cells slots) (hx : p.tables.exec = Jvm.exec) {pc pc' : Nat} {Ls : Array Slot} {st : List Value} {k : Nat} {v : Int64} (hd : decode c.code pc = .ok (.lload k, 2)) (hl : Ls[k]? = some (.val (.long v))) (hp : pc + 2 = pc') (q : oGo p e below G T (mkF m pc' Ls (.long v :: st))) : oGo p e below G T (mkF m pc Ls (st)) := by
  subst hp; exact q.step fun t r => XT.lload X.here hx rfl hd hl r
theorem o_lstoreN (X : Stand p l e R s m args below meth c T locs cells slots) (hx : p.tables.exec = Jvm.exec) {pc pc' : Nat} {Ls : Array Slot} {st : List Value} {k : Fin 4} {v : Int64} {l' : Array Slot} (hd : decode c.code pc = .ok (.lstore_n k, 1)) (hl : storeLocals Ls k.val (.long v) = some l') (hp : pc + 1 = pc') (q : oGo p e below G T (mkF m pc' l' (st))) : oGo p e below G T (mkF m pc Ls (.long v :: st)) := by
  subst hp; exact q.step fun t r => XT.lstoreN X.here hx rfl hd rfl hl r
theorem o_lstore (X : Stand p l e R s m args below meth c T locs cells slots) (hx : p.tables.exec = Jvm.exec) {pc pc' : Nat} {Ls : Array Slot} {st : List Value} {k : Nat} {v : Int64} {l' : Array Slot} (hd : decode c.code pc = .ok (.lstore k, 2)) (hl : storeLocals Ls k (.long v) = some l') (hp : pc + 2 = pc') (q : oGo p e below G T (mkF m pc' l' (st))) : oGo p e below G T (mkF m pc Ls (.long v :: st)) := by
  subst hp; exact q.step fun t r => XT.lstore X.here hx rfl hd rfl hl r
theorem o_aloadN (X : Stand p l e R s m args below meth c T locs cells slots) (hx : p.tables.exec = Jvm.exec) {pc pc' : Nat} {Ls : Array Slot} {st : List Value} {k : Fin 4} {v : Value} (hd : decode c.code pc = .ok (.aload_n k, 1)) (hl : Ls[k.val]? = some (.val v)) (hv : v.isRef = true) (hp : pc + 1 = pc') (q : oGo p e below G T (mkF m pc' Ls (v :: st))) : oGo p e below G T (mkF m pc Ls (st)) := by
  subst hp; exact q.step fun t r => XS.aloadN X.here hx rfl hd hl hv r
theorem o_aload (X : Stand p l e R s m args below meth c T locs cells slots) (hx : p.tables.exec = Jvm.exec) {pc pc' : Nat} {Ls : Array Slot} {st : List Value} {k : Nat} {v : Value} (hd : decode c.code pc = .ok (.aload k, 2)) (hl : Ls[k]? = some (.val v)) (hv : v.isRef = true) (hp : pc + 2 = pc') (q : oGo p e below G T (mkF m pc' Ls (v :: st))) : oGo p e below G T (mkF m pc Ls (st)) := by
  subst hp; exact q.step fun t r => XS.aload X.here hx rfl hd hl hv r
theorem o_astoreN (X : Stand p l e R s m args below meth c T locs cells slots) (hx : p.tables.exec = Jvm.exec) {pc pc' : Nat} {Ls : Array Slot} {st : List Value} {k : Fin 4} {v : Value} {l' : Array Slot} (hd : decode c.code pc = .ok (.astore_n k, 1)) (hv : v.isRef = true) (hl : storeLocals Ls k.val v = some l') (hp : pc + 1 = pc') (q : oGo p e below G T (mkF m pc' l' (st))) : oGo p e below G T (mkF m pc Ls (v :: st)) := by
  subst hp; exact q.step fun t r => XS.astoreN X.here hx rfl hd rfl hv hl r
theorem o_astore (X : Stand p l e R s m args below meth c T locs cells slots) (hx : p.tables.exec = Jvm.exec) {pc pc' : Nat} {Ls : Array Slot} {st : List Value} {k : Nat} {v : Value} {l' : Array Slot} (hd : decode c.code pc = .ok (.astore k, 2)) (hv : v.isRef = true) (hl : storeLocals Ls k v = some l') (hp : pc + 2 = pc') (q : oGo p e below G T (mkF m pc' l' (st))) : oGo p e below G T (mkF m pc Ls (v :: st)) := by
  subst hp; exact q.step fun t r => XS.astore X.here hx rfl hd rfl hv hl r
theorem o_iconst (X : Stand p l e R s m args below meth c T locs cells slots) (hx : p.tables.exec = Jvm.exec) {pc pc' : Nat} {Ls : Array Slot} {st : List Value} {i : Int} (v : Int32) (hd : decode c.code pc = .ok (.iconst i, 1)) (hv : Int32.ofInt i = v) (hp : pc + 1 = pc') (q : oGo p e below G T (mkF m pc' Ls (.int v :: st))) : oGo p e below G T (mkF m pc Ls (st)) := by
  subst hp; exact q.step fun t r => XT.iconstV X.here hx rfl v hd hv r
theorem o_bipush (X : Stand p l e R s m args below meth c T locs cells slots) (hx : p.tables.exec = Jvm.exec) {pc pc' : Nat} {Ls : Array Slot} {st : List Value} {i : Int} (v : Int32) (hd : decode c.code pc = .ok (.bipush i, 2)) (hv : (Int8.ofInt i).toInt32 = v) (hp : pc + 2 = pc') (q : oGo p e below G T (mkF m pc' Ls (.int v :: st))) : oGo p e below G T (mkF m pc Ls (st)) := by
  subst hp; exact q.step fun t r => XT.bipushV X.here hx rfl v hd hv r
theorem o_sipush (X : Stand p l e R s m args below meth c T locs cells slots) (hx : p.tables.exec = Jvm.exec) {pc pc' : Nat} {Ls : Array Slot} {st : List Value} {i : Int} (v : Int32) (hd : decode c.code pc = .ok (.sipush i, 3)) (hv : (Int16.ofInt i).toInt32 = v) (hp : pc + 3 = pc') (q : oGo p e below G T (mkF m pc' Ls (.int v :: st))) : oGo p e below G T (mkF m pc Ls (st)) := by
  subst hp; exact q.step fun t r => XT.sipushV X.here hx rfl v hd hv r
theorem o_lconst (X : Stand p l e R s m args below meth c T locs cells slots) (hx : p.tables.exec = Jvm.exec) {pc pc' : Nat} {Ls : Array Slot} {st : List Value} {k : Fin 2} (v : Int64) (hd : decode c.code pc = .ok (.lconst k, 1)) (hv : Int64.ofNat k = v) (hp : pc + 1 = pc') (q : oGo p e below G T (mkF m pc' Ls (.long v :: st))) : oGo p e below G T (mkF m pc Ls (st)) := by
  subst hp; exact q.step fun t r => XT.lconstV X.here hx rfl v hd hv r
theorem o_anull (X : Stand p l e R s m args below meth c T locs cells slots) (hx : p.tables.exec = Jvm.exec) {pc pc' : Nat} {Ls : Array Slot} {st : List Value} (hd : decode c.code pc = .ok (.aconst_null, 1)) (hp : pc + 1 = pc') (q : oGo p e below G T (mkF m pc' Ls (.null :: st))) : oGo p e below G T (mkF m pc Ls (st)) := by
  subst hp; exact q.step fun t r => XS.aconstNull X.here hx rfl hd r
theorem o_ldc (X : Stand p l e R s m args below meth c T locs cells slots) (hx : p.tables.exec = Jvm.exec) {pc pc' : Nat} {Ls : Array Slot} {st : List Value} {own : String} {index : Nat} {v : Int32} (hZ : Z.Warmed39 s.vm) (hown : s.vm.findClass own = some m.cls) (w : (Jvm.Cond.constant own index v).before a0 Z = true) (hd : decode c.code pc = .ok (.ldc index, 2)) (hp : pc + 2 = pc') (q : oGo p e below G T (mkF m pc' Ls (.int v :: st))) : oGo p e below G T (mkF m pc Ls (st)) := by
  subst hp; exact q.step fun t r => X.ldcI hx hown (mvT hZ w) rfl hd r
theorem o_ldcw (X : Stand p l e R s m args below meth c T locs cells slots) (hx : p.tables.exec = Jvm.exec) {pc pc' : Nat} {Ls : Array Slot} {st : List Value} {own : String} {index : Nat} {v : Int32} (hZ : Z.Warmed39 s.vm) (hown : s.vm.findClass own = some m.cls) (w : (Jvm.Cond.constant own index v).before a0 Z = true) (hd : decode c.code pc = .ok (.ldc_w index, 3)) (hp : pc + 3 = pc') (q : oGo p e below G T (mkF m pc' Ls (.int v :: st))) : oGo p e below G T (mkF m pc Ls (st)) := by
  subst hp; exact q.step fun t r => X.ldcWI hx hown (mvT hZ w) rfl hd r
theorem o_ldc2 (X : Stand p l e R s m args below meth c T locs cells slots) (hx : p.tables.exec = Jvm.exec) {pc pc' : Nat} {Ls : Array Slot} {st : List Value} {own : String} {index : Nat} {v : Int64} (hZ : Z.Warmed39 s.vm) (hown : s.vm.findClass own = some m.cls) (w : (Jvm.Cond.constantLong own index v).before a0 Z = true) (hd : decode c.code pc = .ok (.ldc2_w index, 3)) (hp : pc + 3 = pc') (q : oGo p e below G T (mkF m pc' Ls (.long v :: st))) : oGo p e below G T (mkF m pc Ls (st)) := by
  subst hp; exact q.step fun t r => X.ldc2J hx hown (mvT hZ w) rfl hd r
theorem o_iadd (X : Stand p l e R s m args below meth c T locs cells slots) (hx : p.tables.exec = Jvm.exec) {pc pc' : Nat} {Ls : Array Slot} {st : List Value} {x y : Int32} (hd : decode c.code pc = .ok (.iadd, 1)) (hp : pc + 1 = pc') (q : oGo p e below G T (mkF m pc' Ls (.int (x + y) :: st))) : oGo p e below G T (mkF m pc Ls (.int y :: .int x :: st)) := by
  subst hp; exact q.step fun t r => XS.iadd X.here hx rfl hd rfl r
theorem o_isub (X : Stand p l e R s m args below meth c T locs cells slots) (hx : p.tables.exec = Jvm.exec) {pc pc' : Nat} {Ls : Array Slot} {st : List Value} {x y : Int32} (hd : decode c.code pc = .ok (.isub, 1)) (hp : pc + 1 = pc') (q : oGo p e below G T (mkF m pc' Ls (.int (x - y) :: st))) : oGo p e below G T (mkF m pc Ls (.int y :: .int x :: st)) := by
  subst hp; exact q.step fun t r => XS.isub X.here hx rfl hd rfl r
theorem o_imul (X : Stand p l e R s m args below meth c T locs cells slots) (hx : p.tables.exec = Jvm.exec) {pc pc' : Nat} {Ls : Array Slot} {st : List Value} {x y : Int32} (hd : decode c.code pc = .ok (.imul, 1)) (hp : pc + 1 = pc') (q : oGo p e below G T (mkF m pc' Ls (.int (x * y) :: st))) : oGo p e below G T (mkF m pc Ls (.int y :: .int x :: st)) := by
  subst hp; exact q.step fun t r => XS.imul X.here hx rfl hd rfl r
theorem o_iand (X : Stand p l e R s m args below meth c T locs cells slots) (hx : p.tables.exec = Jvm.exec) {pc pc' : Nat} {Ls : Array Slot} {st : List Value} {x y : Int32} (hd : decode c.code pc = .ok (.iand, 1)) (hp : pc + 1 = pc') (q : oGo p e below G T (mkF m pc' Ls (.int (x &&& y) :: st))) : oGo p e below G T (mkF m pc Ls (.int y :: .int x :: st)) := by
  subst hp; exact q.step fun t r => XS.iand X.here hx rfl hd rfl r
theorem o_ior (X : Stand p l e R s m args below meth c T locs cells slots) (hx : p.tables.exec = Jvm.exec) {pc pc' : Nat} {Ls : Array Slot} {st : List Value} {x y : Int32} (hd : decode c.code pc = .ok (.ior, 1)) (hp : pc + 1 = pc') (q : oGo p e below G T (mkF m pc' Ls (.int (x ||| y) :: st))) : oGo p e below G T (mkF m pc Ls (.int y :: .int x :: st)) := by
  subst hp; exact q.step fun t r => XT.ior X.here hx rfl hd rfl r
theorem o_ixor (X : Stand p l e R s m args below meth c T locs cells slots) (hx : p.tables.exec = Jvm.exec) {pc pc' : Nat} {Ls : Array Slot} {st : List Value} {x y : Int32} (hd : decode c.code pc = .ok (.ixor, 1)) (hp : pc + 1 = pc') (q : oGo p e below G T (mkF m pc' Ls (.int (x ^^^ y) :: st))) : oGo p e below G T (mkF m pc Ls (.int y :: .int x :: st)) := by
  subst hp; exact q.step fun t r => XT.ixor X.here hx rfl hd rfl r
theorem o_ishl (X : Stand p l e R s m args below meth c T locs cells slots) (hx : p.tables.exec = Jvm.exec) {pc pc' : Nat} {Ls : Array Slot} {st : List Value} {x y : Int32} (hd : decode c.code pc = .ok (.ishl, 1)) (hp : pc + 1 = pc') (q : oGo p e below G T (mkF m pc' Ls (.int (x <<< (y &&& 31)) :: st))) : oGo p e below G T (mkF m pc Ls (.int y :: .int x :: st)) := by
  subst hp; exact q.step fun t r => XT.ishl X.here hx rfl hd rfl r
theorem o_ishr (X : Stand p l e R s m args below meth c T locs cells slots) (hx : p.tables.exec = Jvm.exec) {pc pc' : Nat} {Ls : Array Slot} {st : List Value} {x y : Int32} (hd : decode c.code pc = .ok (.ishr, 1)) (hp : pc + 1 = pc') (q : oGo p e below G T (mkF m pc' Ls (.int (x >>> (y &&& 31)) :: st))) : oGo p e below G T (mkF m pc Ls (.int y :: .int x :: st)) := by
  subst hp; exact q.step fun t r => XT.ishr X.here hx rfl hd rfl r
theorem o_iushr (X : Stand p l e R s m args below meth c T locs cells slots) (hx : p.tables.exec = Jvm.exec) {pc pc' : Nat} {Ls : Array Slot} {st : List Value} {x y : Int32} (hd : decode c.code pc = .ok (.iushr, 1)) (hp : pc + 1 = pc') (q : oGo p e below G T (mkF m pc' Ls (.int (XT.ushr x y) :: st))) : oGo p e below G T (mkF m pc Ls (.int y :: .int x :: st)) := by
  subst hp; exact q.step fun t r => XT.iushr X.here hx rfl hd rfl r
theorem o_ladd (X : Stand p l e R s m args below meth c T locs cells slots) (hx : p.tables.exec = Jvm.exec) {pc pc' : Nat} {Ls : Array Slot} {st : List Value} {x y : Int64} (hd : decode c.code pc = .ok (.ladd, 1)) (hp : pc + 1 = pc') (q : oGo p e below G T (mkF m pc' Ls (.long (x + y) :: st))) : oGo p e below G T (mkF m pc Ls (.long y :: .long x :: st)) := by
  subst hp; exact q.step fun t r => XT.ladd X.here hx rfl hd rfl r
theorem o_lsub (X : Stand p l e R s m args below meth c T locs cells slots) (hx : p.tables.exec = Jvm.exec) {pc pc' : Nat} {Ls : Array Slot} {st : List Value} {x y : Int64} (hd : decode c.code pc = .ok (.lsub, 1)) (hp : pc + 1 = pc') (q : oGo p e below G T (mkF m pc' Ls (.long (x - y) :: st))) : oGo p e below G T (mkF m pc Ls (.long y :: .long x :: st)) := by
  subst hp; exact q.step fun t r => XT.lsub X.here hx rfl hd rfl r
theorem o_lmul (X : Stand p l e R s m args below meth c T locs cells slots) (hx : p.tables.exec = Jvm.exec) {pc pc' : Nat} {Ls : Array Slot} {st : List Value} {x y : Int64} (hd : decode c.code pc = .ok (.lmul, 1)) (hp : pc + 1 = pc') (q : oGo p e below G T (mkF m pc' Ls (.long (x * y) :: st))) : oGo p e below G T (mkF m pc Ls (.long y :: .long x :: st)) := by
  subst hp; exact q.step fun t r => XT.lmul X.here hx rfl hd rfl r
theorem o_land (X : Stand p l e R s m args below meth c T locs cells slots) (hx : p.tables.exec = Jvm.exec) {pc pc' : Nat} {Ls : Array Slot} {st : List Value} {x y : Int64} (hd : decode c.code pc = .ok (.land, 1)) (hp : pc + 1 = pc') (q : oGo p e below G T (mkF m pc' Ls (.long (x &&& y) :: st))) : oGo p e below G T (mkF m pc Ls (.long y :: .long x :: st)) := by
  subst hp; exact q.step fun t r => XT.land X.here hx rfl hd rfl r
theorem o_lor (X : Stand p l e R s m args below meth c T locs cells slots) (hx : p.tables.exec = Jvm.exec) {pc pc' : Nat} {Ls : Array Slot} {st : List Value} {x y : Int64} (hd : decode c.code pc = .ok (.lor, 1)) (hp : pc + 1 = pc') (q : oGo p e below G T (mkF m pc' Ls (.long (x ||| y) :: st))) : oGo p e below G T (mkF m pc Ls (.long y :: .long x :: st)) := by
  subst hp; exact q.step fun t r => XT.lor X.here hx rfl hd rfl r
theorem o_lxor (X : Stand p l e R s m args below meth c T locs cells slots) (hx : p.tables.exec = Jvm.exec) {pc pc' : Nat} {Ls : Array Slot} {st : List Value} {x y : Int64} (hd : decode c.code pc = .ok (.lxor, 1)) (hp : pc + 1 = pc') (q : oGo p e below G T (mkF m pc' Ls (.long (x ^^^ y) :: st))) : oGo p e below G T (mkF m pc Ls (.long y :: .long x :: st)) := by
  subst hp; exact q.step fun t r => XT.lxor X.here hx rfl hd rfl r
theorem o_lshl (X : Stand p l e R s m args below meth c T locs cells slots) (hx : p.tables.exec = Jvm.exec) {pc pc' : Nat} {Ls : Array Slot} {st : List Value} {x : Int64} {y : Int32} (hd : decode c.code pc = .ok (.lshl, 1)) (hp : pc + 1 = pc') (q : oGo p e below G T (mkF m pc' Ls (.long (x <<< (y.toInt64 &&& 63)) :: st))) : oGo p e below G T (mkF m pc Ls (.int y :: .long x :: st)) := by
  subst hp; exact q.step fun t r => XT.lshl X.here hx rfl hd rfl r
theorem o_lshr (X : Stand p l e R s m args below meth c T locs cells slots) (hx : p.tables.exec = Jvm.exec) {pc pc' : Nat} {Ls : Array Slot} {st : List Value} {x : Int64} {y : Int32} (hd : decode c.code pc = .ok (.lshr, 1)) (hp : pc + 1 = pc') (q : oGo p e below G T (mkF m pc' Ls (.long (x >>> (y.toInt64 &&& 63)) :: st))) : oGo p e below G T (mkF m pc Ls (.int y :: .long x :: st)) := by
  subst hp; exact q.step fun t r => XT.lshr X.here hx rfl hd rfl r
theorem o_lushr (X : Stand p l e R s m args below meth c T locs cells slots) (hx : p.tables.exec = Jvm.exec) {pc pc' : Nat} {Ls : Array Slot} {st : List Value} {x : Int64} {y : Int32} (hd : decode c.code pc = .ok (.lushr, 1)) (hp : pc + 1 = pc') (q : oGo p e below G T (mkF m pc' Ls (.long (XT.ushrL x y) :: st))) : oGo p e below G T (mkF m pc Ls (.int y :: .long x :: st)) := by
  subst hp; exact q.step fun t r => XT.lushr X.here hx rfl hd rfl r
theorem o_lcmp (X : Stand p l e R s m args below meth c T locs cells slots) (hx : p.tables.exec = Jvm.exec) {pc pc' : Nat} {Ls : Array Slot} {st : List Value} {x y : Int64} (hd : decode c.code pc = .ok (.lcmp, 1)) (hp : pc + 1 = pc') (q : oGo p e below G T (mkF m pc' Ls (.int (XT.cmpL x y) :: st))) : oGo p e below G T (mkF m pc Ls (.long y :: .long x :: st)) := by
  subst hp; exact q.step fun t r => XT.lcmp X.here hx rfl hd rfl r
theorem o_irem (X : Stand p l e R s m args below meth c T locs cells slots) (hx : p.tables.exec = Jvm.exec) {pc pc' : Nat} {Ls : Array Slot} {st : List Value} {x y : Int32} (hd : decode c.code pc = .ok (.irem, 1)) (hy : y ≠ 0) (hp : pc + 1 = pc') (q : oGo p e below G T (mkF m pc' Ls (.int (x % y) :: st))) : oGo p e below G T (mkF m pc Ls (.int y :: .int x :: st)) := by
  subst hp; exact q.step fun t r => iremM X hx rfl hd rfl hy r
theorem o_lrem (X : Stand p l e R s m args below meth c T locs cells slots) (hx : p.tables.exec = Jvm.exec) {pc pc' : Nat} {Ls : Array Slot} {st : List Value} {x y : Int64} (hd : decode c.code pc = .ok (.lrem, 1)) (hy : y ≠ 0) (hp : pc + 1 = pc') (q : oGo p e below G T (mkF m pc' Ls (.long (x % y) :: st))) : oGo p e below G T (mkF m pc Ls (.long y :: .long x :: st)) := by
  subst hp; exact q.step fun t r => XT.lrem X.here hx rfl hd rfl hy (by rw [lrem_mod]; exact r)
theorem o_i2l (X : Stand p l e R s m args below meth c T locs cells slots) (hx : p.tables.exec = Jvm.exec) {pc pc' : Nat} {Ls : Array Slot} {st : List Value} {x : Int32} (hd : decode c.code pc = .ok (.i2l, 1)) (hp : pc + 1 = pc') (q : oGo p e below G T (mkF m pc' Ls (.long (x.toInt64) :: st))) : oGo p e below G T (mkF m pc Ls (.int x :: st)) := by
  subst hp; exact q.step fun t r => XT.i2l X.here hx rfl hd rfl r
theorem o_l2i (X : Stand p l e R s m args below meth c T locs cells slots) (hx : p.tables.exec = Jvm.exec) {pc pc' : Nat} {Ls : Array Slot} {st : List Value} {x : Int64} (hd : decode c.code pc = .ok (.l2i, 1)) (hp : pc + 1 = pc') (q : oGo p e below G T (mkF m pc' Ls (.int (x.toInt32) :: st))) : oGo p e below G T (mkF m pc Ls (.long x :: st)) := by
  subst hp; exact q.step fun t r => XT.l2i X.here hx rfl hd rfl r
theorem o_i2c (X : Stand p l e R s m args below meth c T locs cells slots) (hx : p.tables.exec = Jvm.exec) {pc pc' : Nat} {Ls : Array Slot} {st : List Value} {x : Int32} (hd : decode c.code pc = .ok (.i2c, 1)) (hp : pc + 1 = pc') (q : oGo p e below G T (mkF m pc' Ls (.int (x.toUInt32.toUInt16.toUInt32.toInt32) :: st))) : oGo p e below G T (mkF m pc Ls (.int x :: st)) := by
  subst hp; exact q.step fun t r => XT.i2c X.here hx rfl hd rfl r
theorem o_i2b (X : Stand p l e R s m args below meth c T locs cells slots) (hx : p.tables.exec = Jvm.exec) {pc pc' : Nat} {Ls : Array Slot} {st : List Value} {x : Int32} (hd : decode c.code pc = .ok (.i2b, 1)) (hp : pc + 1 = pc') (q : oGo p e below G T (mkF m pc' Ls (.int (x.toInt8.toInt32) :: st))) : oGo p e below G T (mkF m pc Ls (.int x :: st)) := by
  subst hp; exact q.step fun t r => XT.i2b X.here hx rfl hd rfl r
theorem o_iinc (X : Stand p l e R s m args below meth c T locs cells slots) (hx : p.tables.exec = Jvm.exec) {pc pc' : Nat} {Ls : Array Slot} {st : List Value} {k : Nat} {cst : Int} {x : Int32} {l' : Array Slot} (v : Int32) (hd : decode c.code pc = .ok (.iinc k cst, 3)) (hv : Int32.ofInt cst = v) (hl : Ls[k]? = some (.val (.int x))) (hl' : storeLocals Ls k (.int (x + v)) = some l') (hp : pc + 3 = pc') (q : oGo p e below G T (mkF m pc' l' (st))) : oGo p e below G T (mkF m pc Ls (st)) := by
  subst hp; exact q.step fun t r => XT.iincV X.here hx rfl v hd hv hl hl' r
theorem o_dup (X : Stand p l e R s m args below meth c T locs cells slots) (hx : p.tables.exec = Jvm.exec) {pc pc' : Nat} {Ls : Array Slot} {st : List Value} {v : Value} (hd : decode c.code pc = .ok (.dup, 1)) (hc : v.category = 1) (hp : pc + 1 = pc') (q : oGo p e below G T (mkF m pc' Ls (v :: v :: st))) : oGo p e below G T (mkF m pc Ls (v :: st)) := by
  subst hp; exact q.step fun t r => XS.dup X.here hx rfl hd rfl hc r
theorem o_pop (X : Stand p l e R s m args below meth c T locs cells slots) (hx : p.tables.exec = Jvm.exec) {pc pc' : Nat} {Ls : Array Slot} {st : List Value} {v : Value} (hd : decode c.code pc = .ok (.pop, 1)) (hc : v.category = 1) (hp : pc + 1 = pc') (q : oGo p e below G T (mkF m pc' Ls (st))) : oGo p e below G T (mkF m pc Ls (v :: st)) := by
  subst hp; exact q.step fun t r => XT.pop X.here hx rfl hd rfl hc r
theorem o_goto (X : Stand p l e R s m args below meth c T locs cells slots) (hx : p.tables.exec = Jvm.exec) {pc pc' : Nat} {Ls : Array Slot} {st : List Value} {o : Int} (hd : decode c.code pc = .ok (.goto o, 3)) (ho : 0 ≤ (pc : Int) + o) (hp : ((pc : Int) + o).toNat = pc') (q : oGo p e below G T (mkF m pc' Ls (st))) : oGo p e below G T (mkF m pc Ls (st)) :=
  q.step fun t r => XS.goto X.here hx rfl rfl hd ho hp r
theorem o_icmpT (X : Stand p l e R s m args below meth c T locs cells slots) (hx : p.tables.exec = Jvm.exec) {pc pc' : Nat} {Ls : Array Slot} {st : List Value} {o : Int} {cd : ClassFile.Cond} {x y : Int32} (hd : decode c.code pc = .ok (.if_icmp cd o, 3)) (hc : if_icmp.holds cd x y = true) (ho : 0 ≤ (pc : Int) + o) (hp : ((pc : Int) + o).toNat = pc') (q : oGo p e below G T (mkF m pc' Ls (st))) : oGo p e below G T (mkF m pc Ls (.int y :: .int x :: st)) :=
  q.step fun t r => XS.icmpYes X.here hx rfl rfl hd rfl hc ho hp r
theorem o_icmpF (X : Stand p l e R s m args below meth c T locs cells slots) (hx : p.tables.exec = Jvm.exec) {pc pc' : Nat} {Ls : Array Slot} {st : List Value} {o : Int} {cd : ClassFile.Cond} {x y : Int32} (hd : decode c.code pc = .ok (.if_icmp cd o, 3)) (hc : if_icmp.holds cd x y = false) (hp : pc + 3 = pc') (q : oGo p e below G T (mkF m pc' Ls (st))) : oGo p e below G T (mkF m pc Ls (.int y :: .int x :: st)) := by
  subst hp; exact q.step fun t r => XS.icmpNo X.here hx rfl hd rfl hc r
theorem o_ifT (X : Stand p l e R s m args below meth c T locs cells slots) (hx : p.tables.exec = Jvm.exec) {pc pc' : Nat} {Ls : Array Slot} {st : List Value} {o : Int} {cd : ClassFile.Cond} {x : Int32} (hd : decode c.code pc = .ok (.ifCond cd o, 3)) (hc : ifCond.holds cd x = true) (ho : 0 ≤ (pc : Int) + o) (hp : ((pc : Int) + o).toNat = pc') (q : oGo p e below G T (mkF m pc' Ls (st))) : oGo p e below G T (mkF m pc Ls (.int x :: st)) :=
  q.step fun t r => XS.ifYes X.here hx rfl rfl hd rfl hc ho hp r
theorem o_ifF (X : Stand p l e R s m args below meth c T locs cells slots) (hx : p.tables.exec = Jvm.exec) {pc pc' : Nat} {Ls : Array Slot} {st : List Value} {o : Int} {cd : ClassFile.Cond} {x : Int32} (hd : decode c.code pc = .ok (.ifCond cd o, 3)) (hc : ifCond.holds cd x = false) (hp : pc + 3 = pc') (q : oGo p e below G T (mkF m pc' Ls (st))) : oGo p e below G T (mkF m pc Ls (.int x :: st)) := by
  subst hp; exact q.step fun t r => XS.ifNo X.here hx rfl hd rfl hc r
theorem o_acmpT (X : Stand p l e R s m args below meth c T locs cells slots) (hx : p.tables.exec = Jvm.exec) {pc pc' : Nat} {Ls : Array Slot} {st : List Value} {o : Int} {cd : ClassFile.ACond} {x y : Value} (hd : decode c.code pc = .ok (.if_acmp cd o, 3)) (h1 : x.isRef = true) (h2 : y.isRef = true) (hc : XT.acmp cd x y = true) (ho : 0 ≤ (pc : Int) + o) (hp : ((pc : Int) + o).toNat = pc') (q : oGo p e below G T (mkF m pc' Ls (st))) : oGo p e below G T (mkF m pc Ls (y :: x :: st)) :=
  q.step fun t r => XT.acmpYes X.here hx rfl rfl hd rfl h1 h2 hc ho hp r
theorem o_acmpF (X : Stand p l e R s m args below meth c T locs cells slots) (hx : p.tables.exec = Jvm.exec) {pc pc' : Nat} {Ls : Array Slot} {st : List Value} {o : Int} {cd : ClassFile.ACond} {x y : Value} (hd : decode c.code pc = .ok (.if_acmp cd o, 3)) (h1 : x.isRef = true) (h2 : y.isRef = true) (hc : XT.acmp cd x y = false) (hp : pc + 3 = pc') (q : oGo p e below G T (mkF m pc' Ls (st))) : oGo p e below G T (mkF m pc Ls (y :: x :: st)) := by
  subst hp; exact q.step fun t r => XT.acmpNo X.here hx rfl hd rfl h1 h2 hc r
theorem o_retI (X : Stand p l e R s m args below meth c T locs cells slots) (hx : p.tables.exec = Jvm.exec) (hret : meth.sig.returnType = some .int) (hlk : meth.locks = false) {pc : Nat} {Ls : Array Slot} {st : List Value} {z : Int32} (hd : decode c.code pc = .ok (.ireturn, 1)) {Q : Option Value → Heap → List Loc → Prop} {C N : Nat} (hc : cells ≤ C) (hn : slots ≤ N) (hQ : Q (some (.int z)) T.heap locs) : oGo p e below (oG s Q C N) T (mkF m pc Ls (.int z :: st)) := by
  obtain ⟨fs, hr, hrun, hended, hW, hsame⟩ := X.leave (v := some (.int z)) (fun h => by rw [hret] at h; cases h) hlk
  exact ⟨_, _, retOut X hx hret rfl (Or.inl ⟨rfl, Or.inl rfl, _, rfl⟩) hd hr, hrun, hended, _, _, rfl, hQ, ⟨_, rfl⟩, hW, hsame.mono hc hn⟩
theorem o_retJ (X : Stand p l e R s m args below meth c T locs cells slots) (hx : p.tables.exec = Jvm.exec) (hret : meth.sig.returnType = some .long) (hlk : meth.locks = false) {pc : Nat} {Ls : Array Slot} {st : List Value} {z : Int64} (hd : decode c.code pc = .ok (.lreturn, 1)) {Q : Option Value → Heap → List Loc → Prop} {C N : Nat} (hc : cells ≤ C) (hn : slots ≤ N) (hQ : Q (some (.long z)) T.heap locs) : oGo p e below (oG s Q C N) T (mkF m pc Ls (.long z :: st)) := by
  obtain ⟨fs, hr, hrun, hended, hW, hsame⟩ := X.leave (v := some (.long z)) (fun h => by rw [hret] at h; cases h) hlk
  exact ⟨_, _, retOut X hx hret rfl (Or.inr (Or.inl ⟨rfl, rfl, _, rfl⟩)) hd hr, hrun, hended, _, _, rfl, hQ, ⟨_, rfl⟩, hW, hsame.mono hc hn⟩
theorem o_retD (X : Stand p l e R s m args below meth c T locs cells slots) (hx : p.tables.exec = Jvm.exec) (hret : meth.sig.returnType = some .double) (hlk : meth.locks = false) {pc : Nat} {Ls : Array Slot} {st : List Value} {z : UInt64} (hd : decode c.code pc = .ok (.dreturn, 1)) {Q : Option Value → Heap → List Loc → Prop} {C N : Nat} (hc : cells ≤ C) (hn : slots ≤ N) (hQ : Q (some (.double z)) T.heap locs) : oGo p e below (oG s Q C N) T (mkF m pc Ls (.double z :: st)) := by
  obtain ⟨fs, hr, hrun, hended, hW, hsame⟩ := X.leave (v := some (.double z)) (fun h => by rw [hret] at h; cases h) hlk
  exact ⟨_, _, retOut X hx hret rfl (Or.inr (Or.inr (Or.inl ⟨rfl, rfl, _, rfl⟩))) hd hr, hrun, hended, _, _, rfl, hQ, ⟨_, rfl⟩, hW, hsame.mono hc hn⟩
theorem o_retZ (X : Stand p l e R s m args below meth c T locs cells slots) (hx : p.tables.exec = Jvm.exec) (hret : meth.sig.returnType = some .boolean) (hlk : meth.locks = false) {pc : Nat} {Ls : Array Slot} {st : List Value} {z : Int32} (hd : decode c.code pc = .ok (.ireturn, 1)) (hz : z &&& 1 = z) {Q : Option Value → Heap → List Loc → Prop} {C N : Nat} (hc : cells ≤ C) (hn : slots ≤ N) (hQ : Q (some (.int z)) T.heap locs) : oGo p e below (oG s Q C N) T (mkF m pc Ls (.int z :: st)) := by
  obtain ⟨fs, hr, hrun, hended, hW, hsame⟩ := X.leave (v := some (.int z)) (fun h => by rw [hret] at h; cases h) hlk
  have hz' : nar .boolean z = z := hz
  exact ⟨_, _, retN X hx (t := .boolean) hret (Or.inl rfl) hd (by rw [hz']; exact hr), hrun, hended, _, _, rfl, hQ, ⟨_, rfl⟩, hW, hsame.mono hc hn⟩
theorem o_retA (X : Stand p l e R s m args below meth c T locs cells slots) (hx : p.tables.exec = Jvm.exec) {C1 : FieldType} (hret : meth.sig.returnType = some C1) (ht : C1.isReference = true) (hlk : meth.locks = false) {pc : Nat} {Ls : Array Slot} {st : List Value} {z : Value} (hz : z.isRef = true) (hna : narrow C1 z = z) (hd : decode c.code pc = .ok (.areturn, 1)) {Q : Option Value → Heap → List Loc → Prop} {C N : Nat} (hc : cells ≤ C) (hn : slots ≤ N) (hQ : Q (some z) T.heap locs) : oGo p e below (oG s Q C N) T (mkF m pc Ls (z :: st)) := by
  obtain ⟨fs, hr, hrun, hended, hW, hsame⟩ := X.leave (v := some z) (fun h => by rw [hret] at h; cases h) hlk
  exact ⟨_, _, retOut X hx hret hna (Or.inr (Or.inr (Or.inr (Or.inr ⟨rfl, ht, hz⟩)))) hd hr, hrun, hended, _, _, rfl, hQ, ⟨_, rfl⟩, hW, hsame.mono hc hn⟩
theorem o_retV (X : Stand p l e R s m args below meth c T locs cells slots) (hx : p.tables.exec = Jvm.exec) (hret : meth.sig.returnType = none) (hlk : meth.locks = false) {pc : Nat} {Ls : Array Slot} (hd : decode c.code pc = .ok (.return_, 1)) {Q : Option Value → Heap → List Loc → Prop} {C N : Nat} (hc : cells ≤ C) (hn : slots ≤ N) (hQ : Q none T.heap locs) : oGo p e below (oG s Q C N) T (mkF m pc Ls []) := by
  obtain ⟨fs, hr, hrun, hended, hW, hsame⟩ := X.leave (v := none) (fun _ => rfl) hlk
  exact ⟨_, _, X.returnOut hx hret hd hr, hrun, hended, _, _, rfl, hQ, ⟨_, rfl⟩, hW, hsame.mono hc hn⟩
theorem o_callS (X : Stand p l e R s m args below meth c T locs cells slots) (hx : p.tables.exec = Jvm.exec) (hZ : Z.Warmed39 s.vm) {own : String} {index : Nat} {y : MethodName} {bytes : ByteArray} {maxL : Nat} {ret : Option FieldType} (hown : s.vm.findClass own = some m.cls) (w1 : (Jvm.Cond.methodLink own index y).before a0 Z = true) (w2 : (Jvm.Cond.static y).before a0 Z = true) (w3 : (Jvm.Cond.initialized y.cls).before a0 Z = true) (w4 : (Jvm.Cond.code y bytes maxL ret).before a0 Z = true) (hy : y.cls ≠ "java/lang/invoke/MethodHandle" ∧ y.cls ≠ "java/lang/invoke/VarHandle") {rm : Room} {as' : Array Value} {Q : Option Value → Heap → List Loc → Prop} (hM : oCon l Z y bytes maxL ret rm as' h Q) (eT : T.heap = h) {pc pc' : Nat} {Ls : Array Slot} {st : List Value} (hsz : Ls.size = c.maxLocals) (argsL rest : List Value) (has : argsL.toArray = as') {ps : List FieldType} {rr : Option FieldType} (hpd : parseMethodDescriptor y.desc = some ⟨ps, rr⟩) (hlen : argsL.length = ps.length) (hst : st = argsL.reverse ++ rest) (W : Nat) (hW : (rest.map fun v => v.category).sum ≤ W) (hd : decode c.code pc = .ok (.invokestatic index, 3)) (hp : pc + 3 = pc') (hf : rm.frames + 1 ≤ R.frames) (hl : W + (maxL + 11) + rm.locals ≤ R.locals) (hc : cells + rm.cells ≤ R.cells) (hn : slots + rm.slots ≤ R.slots) :
    ∃ v T' L, Stand p l e R s m args below meth c T' (locs ++ L) (cells + rm.cells) (slots + rm.slots) ∧ Q v T'.heap L ∧ ∀ t, Steps p.tables e below (T'.setTop (mkF m pc' Ls (v.toList ++ rest))) t → Steps p.tables e below (T.setTop (mkF m pc Ls st)) t := by
  subst hp has
  obtain ⟨v, vm₁, ⟨T', L', k', n'⟩, -, X', ⟨Lc, hQ, l1, y1, z1⟩, st'⟩ := Jvm.LawKit.callS X hx hown (mvT hZ w1) (mvT hZ w2) (mvT hZ w3) (mvT hZ w4) hy (backOf (W := W) (hM []) hZ w4 w3 hf hl) (g := mkF m pc Ls st) rfl hsz (argsL := argsL) (rest := rest) (lenOf hpd hlen) hst (by show 2 * 0 + _ ≤ _; omega) hd (fun _ _ => ⟨rfl, eT, hc, hn⟩)
  dsimp only [Pt.U, Pt.locs, Pt.cells, Pt.slots] at X' l1 y1 z1 st' hQ
  subst l1 y1 z1
  exact ⟨v, T', Lc, X', hQ, st'⟩
theorem o_callN (X : Stand p l e R s m args below meth c T locs cells slots) (hx : p.tables.exec = Jvm.exec) (hZ : Z.Warmed39 s.vm) {own : String} {index : Nat} {y : MethodName} {bytes : ByteArray} {maxL : Nat} (hown : s.vm.findClass own = some m.cls) (hi : y.name = "<init>") (w1 : (Jvm.Cond.methodLink own index y).before a0 Z = true) (w2 : (Jvm.Cond.instanceMethod y).before a0 Z = true) (w3 : (Jvm.Cond.initialized y.cls).before a0 Z = true) (w4 : (Jvm.Cond.code y bytes maxL none).before a0 Z = true) (hy : y.cls ≠ "java/lang/invoke/MethodHandle" ∧ y.cls ≠ "java/lang/invoke/VarHandle") {rm : Room} {as' : Array Value} {Q : Option Value → Heap → List Loc → Prop} (hM : oCon l Z y bytes maxL none rm as' h Q) (eT : T.heap = h) {pc pc' : Nat} {Ls : Array Slot} {st : List Value} (hsz : Ls.size = c.maxLocals) {a : Addr} (argsL rest : List Value) (has : (Value.ref a :: argsL).toArray = as') {ps : List FieldType} {rr : Option FieldType} (hpd : parseMethodDescriptor y.desc = some ⟨ps, rr⟩) (hlen : argsL.length = ps.length) (hst : st = argsL.reverse ++ .ref a :: rest) (W : Nat) (hW : (rest.map fun v => v.category).sum ≤ W) (hd : decode c.code pc = .ok (.invokespecial index, 3)) (hp : pc + 3 = pc') (hf : rm.frames + 1 ≤ R.frames) (hl : W + (maxL + 11) + rm.locals ≤ R.locals) (hc : cells + rm.cells ≤ R.cells) (hn : slots + rm.slots ≤ R.slots) :
    ∃ v T' L, Stand p l e R s m args below meth c T' (locs ++ L) (cells + rm.cells) (slots + rm.slots) ∧ Q v T'.heap L ∧ ∀ t, Steps p.tables e below (T'.setTop (mkF m pc' Ls (v.toList ++ rest))) t → Steps p.tables e below (T.setTop (mkF m pc Ls st)) t := by
  subst hp has
  obtain ⟨v, vm₁, ⟨T', L', k', n'⟩, -, X', ⟨Lc, hQ, l1, y1, z1⟩, st'⟩ := X.specialBack hx hi hown (mvT hZ w1) (mvT hZ w2) (mvT hZ w4) hy (backOf (W := W) (hM []) hZ w4 w3 hf hl) (g := mkF m pc Ls st) rfl hsz (Steps.refl _) (a := a) (argsL := argsL) (rest := rest) (lenOf hpd hlen) hst (by show 2 * 0 + _ ≤ _; omega) hd (fun _ _ => ⟨rfl, eT, hc, hn⟩)
  dsimp only [Pt.U, Pt.locs, Pt.cells, Pt.slots] at X' l1 y1 z1 st' hQ
  subst l1 y1 z1
  exact ⟨v, T', Lc, X', hQ, fun t r => st'.trans r⟩
theorem o_callV (X : Stand p l e R s m args below meth c T locs cells slots) (hx : p.tables.exec = Jvm.exec) (hZ : Z.Warmed39 s.vm) {own : String} {index : Nat} {y : MethodName} {bytes : ByteArray} {maxL : Nat} {ret : Option FieldType} (hown : s.vm.findClass own = some m.cls) {C : String} (w1 : (Jvm.Cond.methodLink own index y).before a0 Z = true) (w2 : (Jvm.Cond.declares y).before a0 Z = true) (w5 : (Jvm.Cond.selects C y y).before a0 Z = true) (w6 : (Jvm.Cond.instanceMethod y).before a0 Z = true) (w3 : (Jvm.Cond.initialized y.cls).before a0 Z = true) (w4 : (Jvm.Cond.code y bytes maxL ret).before a0 Z = true) (hy : y.cls ≠ "java/lang/invoke/MethodHandle" ∧ y.cls ≠ "java/lang/invoke/VarHandle") {aa : Addr} (E : Exa Z h aa C) {rm : Room} {as' : Array Value} {Q : Option Value → Heap → List Loc → Prop} (hM : oCon l Z y bytes maxL ret rm as' h Q) (eT : T.heap = h) {pc pc' : Nat} {Ls : Array Slot} {st : List Value} (hsz : Ls.size = c.maxLocals) (argsL rest : List Value) (has : (Value.ref aa :: argsL).toArray = as') {ps : List FieldType} {rr : Option FieldType} (hpd : parseMethodDescriptor y.desc = some ⟨ps, rr⟩) (hlen : argsL.length = ps.length) (hst : st = argsL.reverse ++ .ref aa :: rest) (W : Nat) (hW : (rest.map fun v => v.category).sum ≤ W) (hd : decode c.code pc = .ok (.invokevirtual index, 3)) (hp : pc + 3 = pc') (hf : rm.frames + 1 ≤ R.frames) (hl : W + (maxL + 11) + rm.locals ≤ R.locals) (hc : cells + rm.cells ≤ R.cells) (hn : slots + rm.slots ≤ R.slots) :
    ∃ v T' L, Stand p l e R s m args below meth c T' (locs ++ L) (cells + rm.cells) (slots + rm.slots) ∧ Q v T'.heap L ∧ ∀ t, Steps p.tables e below (T'.setTop (mkF m pc' Ls (v.toList ++ rest))) t → Steps p.tables e below (T.setTop (mkF m pc Ls st)) t := by
  subst hp has
  obtain ⟨v, vm₁, ⟨T', L', k', n'⟩, -, X', ⟨Lc, hQ, l1, y1, z1⟩, st'⟩ := X.virtualBack hx hown (mvT hZ w1) (mvT hZ w2) (notFace_of_selects (args := #[]) (mvT hZ w5)) (mvT hZ w5) (mvT hZ w6) hy (backOf (W := W) (hM []) hZ w4 w3 hf hl) (isOf hZ eT E).choose_spec.choose_spec.1 (isOf hZ eT E).choose_spec.choose_spec.2.2 (g := mkF m pc Ls st) rfl hsz (Steps.refl _) (argsL := argsL) (rest := rest) (lenOf hpd hlen) hst (by show 2 * 0 + _ ≤ _; omega) hd (fun _ _ => ⟨rfl, eT, hc, hn⟩)
  dsimp only [Pt.U, Pt.locs, Pt.cells, Pt.slots] at X' l1 y1 z1 st' hQ
  subst l1 y1 z1
  exact ⟨v, T', Lc, X', hQ, fun t r => st'.trans r⟩
theorem o_bz (b : Prop) [Decidable b] : (if b then (1 : Int32) else 0) &&& 1 = if b then 1 else 0 := by by_cases q : b <;> simp [q]
theorem o_same {k n : Nat} (X : Stand p l e R s m args below meth c T (locs ++ []) (cells + k) (slots + n)) (hk : k = 0) (hn : n = 0) : Stand p l e R s m args below meth c T locs cells slots := by subst hk hn; simpa using X
theorem o_flat {k n : Nat} (X : Stand p l e R s m args below meth c T locs (cells + k) (slots + n)) (hk : k = 0) (hn : n = 0) : Stand p l e R s m args below meth c T locs cells slots := by subst hk hn; exact X
theorem o_fldI {a : Addr} {C n d : String} {x y : Int32} (q : y = x) (F : Fld Z h a C n d (.int x)) : Fld Z h a C n d (.int y) := q ▸ F
theorem o_fldJ {a : Addr} {C n d : String} {x y : Int64} (q : y = x) (F : Fld Z h a C n d (.long x)) : Fld Z h a C n d (.long y) := q ▸ F
theorem o_nb {z : Int32} (q : z = 0 ∨ z = 1) : narrow .boolean (.int z) = .int z := by rcases q with rfl | rfl <;> rfl
theorem o_fb {z : Int32} (q : z = 0 ∨ z = 1) : fits .boolean (.int z) = true := by rcases q with rfl | rfl <;> rfl
theorem o_zb {z : Int32} (q : z = 0 ∨ z = 1) : z &&& 1 = z := by rcases q with rfl | rfl <;> rfl
theorem o_or1 {z : Int32} (q : z = 0 ∨ z = 1) : (z ||| 1) = 0 ∨ (z ||| 1) = 1 := by rcases q with rfl | rfl <;> simp
theorem o_or0 {z : Int32} (q : z = 0 ∨ z = 1) : (z ||| 0) = 0 ∨ (z ||| 0) = 1 := by rcases q with rfl | rfl <;> simp
def oInts (Z : State) (h : Heap) (a : Addr) (xs : List Int32) : Prop := ∃ c : Cell, Arr Z h a c .int ∧ c.slots = (xs.map Value.int).toArray ∧ xs.length < 2 ^ 31
theorem oInts.lt {a : Addr} {xs : List Int32} (F : oInts Z h a xs) : a < h.size := by obtain ⟨c, A, -⟩ := F; exact A.lt
theorem oInts.ext {h' : Heap} {a : Addr} {xs : List Int32} (F : oInts Z h a xs) (E : Ext h h') : oInts Z h' a xs := by obtain ⟨c, A, r⟩ := F; exact ⟨c, A.ext E, r⟩
theorem oInts.keep {h' : Heap} {a : Addr} {xs : List Int32} {ws : List Addr} (F : oInts Z h a xs) (K : Keep h h' ws) (q : a ∉ ws) : oInts Z h' a xs := by obtain ⟨c, A, r⟩ := F; exact ⟨c, ⟨K.2.1 a c A.1 q, A.2⟩, r⟩
theorem oInts.set {h' : Heap} {a : Addr} {xs : List Int32} {i : Nat} {v : Int32} (F : oInts Z h a xs) (W : Wr h h' a i (.int v)) : oInts Z h' a (xs.set i v) := by
  obtain ⟨c, A, S, L⟩ := F
  refine ⟨_, A.same W, ?_, by simpa using L⟩
  simp [Cell.setSlot, S, List.map_set]
theorem oInts.new {a : Addr} {k : ClassId} {n : Int32} (A : Arr Z h a (newA k .int n) .int) (q : ¬ n < 0) : oInts Z h a (List.replicate n.toNatClampNeg 0) := by
  refine ⟨_, A, ?_, ?_⟩
  · simp [newA, defaultValue]
  · have := n.toInt_lt; simp only [List.length_replicate]; have h2 : n.toInt = (n.toNatClampNeg : Int) := nat_of q; omega
theorem oInts.at {a : Addr} {xs : List Int32} {j v : Int32} (F : oInts Z h a xs) (q : ¬ j < 0) (hj : xs[j.toNatClampNeg]? = some v) : ∃ c : Cell, Arr Z h a c .int ∧ ¬ (j < 0 ∨ c.slots.size ≤ j.toNatClampNeg) ∧ c.slots[j.toNatClampNeg]? = some (.int v) := by
  obtain ⟨c, A, S, L⟩ := F
  have hl : j.toNatClampNeg < xs.length := by
    rcases Nat.lt_or_ge j.toNatClampNeg xs.length with r | r
    · exact r
    · rw [List.getElem?_eq_none r] at hj; cases hj
  refine ⟨c, A, ?_, ?_⟩
  · rw [S]; simp only [List.size_toArray, List.length_map]; rintro (r | r)
    · exact q r
    · omega
  · rw [S]; simp [hj]
theorem o_iaload (X : Stand p l e R s m args below meth c T locs cells slots) (hx : p.tables.exec = Jvm.exec) (hZ : Z.Warmed39 s.vm) (eT : T.heap = h) {a : Addr} {xs : List Int32} (F : oInts Z h a xs) {pc pc' : Nat} {Ls : Array Slot} {st : List Value} {j v : Int32} (hd : decode c.code pc = .ok (.iaload, 1)) (q0 : ¬ j < 0) (hj : xs[j.toNatClampNeg]? = some v) (hp : pc + 1 = pc') (q : oGo p e below G T (mkF m pc' Ls (.int v :: st))) : oGo p e below G T (mkF m pc Ls (.int j :: .ref a :: st)) := by
  subst hp
  obtain ⟨cl, A, h1, h2⟩ := F.at q0 hj
  exact q.step fun t r => X.iaload (g := mkF m pc Ls (.int j :: .ref a :: st)) (rest := st) hx (by rw [eT]; exact A.1) (State.isArrayOf_alike hZ.alike A.2.1) A.2.2 h1 h2 rfl rfl hd t r
theorem o_alen (X : Stand p l e R s m args below meth c T locs cells slots) (hx : p.tables.exec = Jvm.exec) (hZ : Z.Warmed39 s.vm) (eT : T.heap = h) {a : Addr} {xs : List Int32} (F : oInts Z h a xs) {pc pc' : Nat} {Ls : Array Slot} {st : List Value} (hd : decode c.code pc = .ok (.arraylength, 1)) (hp : pc + 1 = pc') (q : oGo p e below G T (mkF m pc' Ls (.int xs.length.toInt32 :: st))) : oGo p e below G T (mkF m pc Ls (.ref a :: st)) := by
  subst hp
  obtain ⟨cl, A, S, L⟩ := F
  refine q.step fun t r => X.arraylength (g := mkF m pc Ls (.ref a :: st)) (rest := st) hx (by rw [eT]; exact A.1) (State.isArrayOf_alike hZ.alike A.2.1) rfl rfl hd t ?_
  have : cl.slots.size = xs.length := by rw [S]; simp
  rw [this]; exact r
theorem o_iastore (X : Stand p l e R s m args below meth c T locs cells slots) (hx : p.tables.exec = Jvm.exec) (hZ : Z.Warmed39 s.vm) (eT : T.heap = h) {a : Addr} {xs : List Int32} (F : oInts Z h a xs) {pc pc' : Nat} {Ls : Array Slot} {st : List Value} {j x : Int32} (hd : decode c.code pc = .ok (.iastore, 1)) (q0 : ¬ j < 0) (hj : j.toNatClampNeg < xs.length) (hp : pc + 1 = pc') :
    ∃ T' h', Stand p l e R s m args below meth c T' (locs ++ [⟨a, j.toNatClampNeg⟩]) cells slots ∧ T'.heap = h' ∧ Wr h h' a j.toNatClampNeg (.int x) ∧ ∀ t, Steps p.tables e below (T'.setTop (mkF m pc' Ls st)) t → Steps p.tables e below (T.setTop (mkF m pc Ls (.int x :: .int j :: .ref a :: st))) t := by
  subst hp
  obtain ⟨v, hv⟩ : ∃ v, xs[j.toNatClampNeg]? = some v := ⟨_, List.getElem?_eq_getElem hj⟩
  obtain ⟨cl, A, h1, h2⟩ := F.at q0 hv
  obtain ⟨T', h', X', e', W', st'⟩ := stI X hx hZ eT A (x := x) h1 (g := mkF m pc Ls (.int x :: .int j :: .ref a :: st)) (rest := st) rfl rfl hd
  exact ⟨T', h', X', e', W', st'⟩
theorem o_newI (X : Stand p l e R s m args below meth c T locs cells slots) (hx : p.tables.exec = Jvm.exec) (hZ : Z.Warmed39 s.vm) (w : (Jvm.Cond.arrayClass .int).before a0 Z = true) (eT : T.heap = h) {pc pc' : Nat} {Ls : Array Slot} {st : List Value} {n : Int32} (hd : decode c.code pc = .ok (.newarray .int, 2)) (hn : ¬ n < 0) (cap : Nat) (hcap : n.toNatClampNeg ≤ cap) (hb : cap * 8 ≤ 536870912) (hc : cells + 1 ≤ R.cells) (hl : slots + cap ≤ R.slots) (hp : pc + 2 = pc') :
    ∃ T' h', Stand p l e R s m args below meth c T' locs (cells + 1) (slots + cap) ∧ T'.heap = h' ∧ Ext h h' ∧ oInts Z h' h.size (List.replicate n.toNatClampNeg 0) ∧ ∀ t, Steps p.tables e below (T'.setTop (mkF m pc' Ls (.ref h.size :: st))) t → Steps p.tables e below (T.setTop (mkF m pc Ls (.int n :: st))) t := by
  subst hp
  obtain ⟨T', h', cA, X', e', E, A, st'⟩ := newP X hx hZ (aty := .int) w eT (g := mkF m pc Ls (.int n :: st)) rfl hd (n := n) (rest := st) rfl hn hcap hb hc hl
  have A' := oInts.new A hn
  exact ⟨T', h', X', e', E, A', st'⟩
end OwnKit
theorem d1_0 : decode method_2_code 0 = .ok (.iload_n 0, 1) := by decide +kernel
theorem d1_1 : decode method_2_code 1 = .ok (.ifCond .ne 7, 3) := by decide +kernel
theorem d1_4 : decode method_2_code 4 = .ok (.getstatic 7, 3) := by decide +kernel
theorem d1_7 : decode method_2_code 7 = .ok (.areturn, 1) := by decide +kernel
theorem d1_8 : decode method_2_code 8 = .ok (.iload_n 0, 1) := by decide +kernel
theorem d1_9 : decode method_2_code 9 = .ok (.iconst 1, 1) := by decide +kernel
theorem d1_10 : decode method_2_code 10 = .ok (.if_icmp .ne 7, 3) := by decide +kernel
theorem d1_13 : decode method_2_code 13 = .ok (.getstatic 13, 3) := by decide +kernel
theorem d1_16 : decode method_2_code 16 = .ok (.areturn, 1) := by decide +kernel
theorem d1_17 : decode method_2_code 17 = .ok (.getstatic 16, 3) := by decide +kernel
theorem d1_20 : decode method_2_code 20 = .ok (.areturn, 1) := by decide +kernel
theorem pn_1 : plainName "org/kalends/expressions/WrittenDateGivesMonthPinLaw" = true := by first | (simp [plainName, overriddenIn]; done) | decide +kernel
theorem ef_1 (m : MethodId) (x0 : Int32) : entryFrame m #[(.int x0)] 1 = mkF m 0 #[.val (.int x0)] [] := by first | (simp [entryFrame, mkF, argsToLocals, Value.category]; done) | rfl
def spec1 (x0 : Int32) (r_YEAR_FIRST r_MONTH_FIRST r_OTHER : Addr) : Addr := (if x0 = 0 then r_YEAR_FIRST else (if x0 = (1 : Int32) then r_MONTH_FIRST else r_OTHER))
def room1 : Room := { frames := 0, cells := 0, slots := 0, locals := 0 }
set_option maxRecDepth 65536 in
set_option maxHeartbeats 40000000 in
theorem rm1 (l : Launch) (Z : State) (a0 : Array Value) (hw : ∀ d ∈ tables_1, d.before a0 Z = true) (x0 : Int32) (r_YEAR_FIRST r_MONTH_FIRST r_OTHER : Addr) (h0 : Heap) (n0 : Nat) (Z0 : n0 ≤ h0.size) (O0 : Old Z n0 h0) (S_YEAR_FIRST : Sta Z Z.heap "org/kalends/expressions/WrittenDate$Order" "YEAR_FIRST" "Lorg/kalends/expressions/WrittenDate$Order;" (.ref r_YEAR_FIRST)) (S_MONTH_FIRST : Sta Z Z.heap "org/kalends/expressions/WrittenDate$Order" "MONTH_FIRST" "Lorg/kalends/expressions/WrittenDate$Order;" (.ref r_MONTH_FIRST)) (S_OTHER : Sta Z Z.heap "org/kalends/expressions/WrittenDate$Order" "OTHER" "Lorg/kalends/expressions/WrittenDate$Order;" (.ref r_OTHER)) :
    oCon l Z (⟨"org/kalends/expressions/WrittenDateGivesMonthPinLaw", "order", "(I)Lorg/kalends/expressions/WrittenDate$Order;"⟩ : MethodName) method_2_code 1 (some (.object "org/kalends/expressions/WrittenDate$Order")) room1 #[(.int x0)] h0 (fun v h L => v = some (.ref (spec1 x0 r_YEAR_FIRST r_MONTH_FIRST r_OTHER)) ∧ L = [] ∧ h = h0) := by
  refine oCon.of (plainFor_of_name pn_1) ?_
  intro p e s m below meth c s₁ hx hby hml hown hnm hret hlk hZ X0 e0
  rw [ef_1 m x0]
  have N0 := Fr.nil n0
  refine o_iloadN (pc' := 1) X0 hx (hb hby d1_0) rfl rfl ?_
  by_cases c1 : x0 = 0
  · refine o_ifF (pc' := 4) X0 hx (hb hby d1_1) (XT.i0_ne_f c1) rfl ?_
    obtain ⟨T2, X2, e2, st2⟩ := getS X0 hx hZ (host := "") hown (hw _ (List.mem_of_getElem? (i := 4) rfl)) Via.refl e0 (S_YEAR_FIRST.ext O0.2) (g := (mkF m 4 #[.val (.int x0)] [])) rfl (hb hby d1_4)
    refine oGo.step (f' := (mkF m 7 #[.val (.int x0)] [(.ref r_YEAR_FIRST)])) st2 ?_
    refine o_retA X2 hx hret rfl hlk rfl rfl (hb hby d1_7) (by decide) (by decide) ?_
    exact ⟨congrArg (fun z => some (Value.ref z)) (show _ = spec1 x0 r_YEAR_FIRST r_MONTH_FIRST r_OTHER from (if_pos c1).symm), rfl, e2⟩
  · refine o_ifT (pc' := 8) X0 hx (hb hby d1_1) (XT.i0_ne_t c1) (by decide) (by decide) ?_
    refine o_iloadN (pc' := 9) X0 hx (hb hby d1_8) rfl rfl ?_
    refine o_iconst (pc' := 10) (v := (1 : Int32)) X0 hx (hb hby d1_9) rfl rfl ?_
    by_cases c3 : x0 = (1 : Int32)
    · refine o_icmpF (pc' := 13) X0 hx (hb hby d1_10) (XT.ii_ne_f c3) rfl ?_
      obtain ⟨T4, X4, e4, st4⟩ := getS X0 hx hZ (host := "") hown (hw _ (List.mem_of_getElem? (i := 54) rfl)) Via.refl e0 (S_MONTH_FIRST.ext O0.2) (g := (mkF m 13 #[.val (.int x0)] [])) rfl (hb hby d1_13)
      refine oGo.step (f' := (mkF m 16 #[.val (.int x0)] [(.ref r_MONTH_FIRST)])) st4 ?_
      refine o_retA X4 hx hret rfl hlk rfl rfl (hb hby d1_16) (by decide) (by decide) ?_
      exact ⟨congrArg (fun z => some (Value.ref z)) (show _ = spec1 x0 r_YEAR_FIRST r_MONTH_FIRST r_OTHER from ((if_neg c1).trans (if_pos c3)).symm), rfl, e4⟩
    · refine o_icmpT (pc' := 17) X0 hx (hb hby d1_10) (XT.ii_ne_t c3) (by decide) (by decide) ?_
      obtain ⟨T5, X5, e5, st5⟩ := getS X0 hx hZ (host := "") hown (hw _ (List.mem_of_getElem? (i := 58) rfl)) Via.refl e0 (S_OTHER.ext O0.2) (g := (mkF m 17 #[.val (.int x0)] [])) rfl (hb hby d1_17)
      refine oGo.step (f' := (mkF m 20 #[.val (.int x0)] [(.ref r_OTHER)])) st5 ?_
      refine o_retA X5 hx hret rfl hlk rfl rfl (hb hby d1_20) (by decide) (by decide) ?_
      exact ⟨congrArg (fun z => some (Value.ref z)) (show _ = spec1 x0 r_YEAR_FIRST r_MONTH_FIRST r_OTHER from ((if_neg c1).trans (if_neg c3)).symm), rfl, e5⟩
theorem d2_0 : decode method_3_code 0 = .ok (.iload_n 0, 1) := by decide +kernel
theorem d2_1 : decode method_3_code 1 = .ok (.iconst 1, 1) := by decide +kernel
theorem d2_2 : decode method_3_code 2 = .ok (.if_icmp .ne 7, 3) := by decide +kernel
theorem d2_5 : decode method_3_code 5 = .ok (.getstatic 19, 3) := by decide +kernel
theorem d2_8 : decode method_3_code 8 = .ok (.areturn, 1) := by decide +kernel
theorem d2_9 : decode method_3_code 9 = .ok (.iload_n 0, 1) := by decide +kernel
theorem d2_10 : decode method_3_code 10 = .ok (.iconst 2, 1) := by decide +kernel
theorem d2_11 : decode method_3_code 11 = .ok (.if_icmp .ne 7, 3) := by decide +kernel
theorem d2_14 : decode method_3_code 14 = .ok (.getstatic 25, 3) := by decide +kernel
theorem d2_17 : decode method_3_code 17 = .ok (.areturn, 1) := by decide +kernel
theorem d2_18 : decode method_3_code 18 = .ok (.iload_n 0, 1) := by decide +kernel
theorem d2_19 : decode method_3_code 19 = .ok (.iconst 3, 1) := by decide +kernel
theorem d2_20 : decode method_3_code 20 = .ok (.if_icmp .ne 7, 3) := by decide +kernel
theorem d2_23 : decode method_3_code 23 = .ok (.getstatic 28, 3) := by decide +kernel
theorem d2_26 : decode method_3_code 26 = .ok (.areturn, 1) := by decide +kernel
theorem d2_27 : decode method_3_code 27 = .ok (.iload_n 0, 1) := by decide +kernel
theorem d2_28 : decode method_3_code 28 = .ok (.iconst 4, 1) := by decide +kernel
theorem d2_29 : decode method_3_code 29 = .ok (.if_icmp .ne 7, 3) := by decide +kernel
theorem d2_32 : decode method_3_code 32 = .ok (.getstatic 31, 3) := by decide +kernel
theorem d2_35 : decode method_3_code 35 = .ok (.areturn, 1) := by decide +kernel
theorem d2_36 : decode method_3_code 36 = .ok (.iload_n 0, 1) := by decide +kernel
theorem d2_37 : decode method_3_code 37 = .ok (.iconst 5, 1) := by decide +kernel
theorem d2_38 : decode method_3_code 38 = .ok (.if_icmp .ne 7, 3) := by decide +kernel
theorem d2_41 : decode method_3_code 41 = .ok (.getstatic 34, 3) := by decide +kernel
theorem d2_44 : decode method_3_code 44 = .ok (.areturn, 1) := by decide +kernel
theorem d2_45 : decode method_3_code 45 = .ok (.getstatic 37, 3) := by decide +kernel
theorem d2_48 : decode method_3_code 48 = .ok (.areturn, 1) := by decide +kernel
theorem ef_2 (m : MethodId) (x0 : Int32) : entryFrame m #[(.int x0)] 1 = mkF m 0 #[.val (.int x0)] [] := by first | (simp [entryFrame, mkF, argsToLocals, Value.category]; done) | rfl
def spec2 (x0 : Int32) (r_GREGORIAN r_JULIAN r_JULIAN_ANNUNCIATION r_JULIAN_NATAL r_FRENCH_REPUBLICAN r_HIJRI : Addr) : Addr := (if x0 = (1 : Int32) then r_JULIAN else (if x0 = (2 : Int32) then r_JULIAN_ANNUNCIATION else (if x0 = (3 : Int32) then r_JULIAN_NATAL else (if x0 = (4 : Int32) then r_FRENCH_REPUBLICAN else (if x0 = (5 : Int32) then r_HIJRI else r_GREGORIAN)))))
def room2 : Room := { frames := 0, cells := 0, slots := 0, locals := 0 }
set_option maxRecDepth 65536 in
set_option maxHeartbeats 40000000 in
theorem rm2 (l : Launch) (Z : State) (a0 : Array Value) (hw : ∀ d ∈ tables_1, d.before a0 Z = true) (x0 : Int32) (r_GREGORIAN r_JULIAN r_JULIAN_ANNUNCIATION r_JULIAN_NATAL r_FRENCH_REPUBLICAN r_HIJRI : Addr) (h0 : Heap) (n0 : Nat) (Z0 : n0 ≤ h0.size) (O0 : Old Z n0 h0) (S_GREGORIAN : Sta Z Z.heap "org/kalends/calendars/Calendar" "GREGORIAN" "Lorg/kalends/calendars/Calendar;" (.ref r_GREGORIAN)) (S_JULIAN : Sta Z Z.heap "org/kalends/calendars/Calendar" "JULIAN" "Lorg/kalends/calendars/Calendar;" (.ref r_JULIAN)) (S_JULIAN_ANNUNCIATION : Sta Z Z.heap "org/kalends/calendars/Calendar" "JULIAN_ANNUNCIATION" "Lorg/kalends/calendars/Calendar;" (.ref r_JULIAN_ANNUNCIATION)) (S_JULIAN_NATAL : Sta Z Z.heap "org/kalends/calendars/Calendar" "JULIAN_NATAL" "Lorg/kalends/calendars/Calendar;" (.ref r_JULIAN_NATAL)) (S_FRENCH_REPUBLICAN : Sta Z Z.heap "org/kalends/calendars/Calendar" "FRENCH_REPUBLICAN" "Lorg/kalends/calendars/Calendar;" (.ref r_FRENCH_REPUBLICAN)) (S_HIJRI : Sta Z Z.heap "org/kalends/calendars/Calendar" "HIJRI" "Lorg/kalends/calendars/Calendar;" (.ref r_HIJRI)) :
    oCon l Z (⟨"org/kalends/expressions/WrittenDateGivesMonthPinLaw", "calendar", "(I)Lorg/kalends/calendars/Calendar;"⟩ : MethodName) method_3_code 1 (some (.object "org/kalends/calendars/Calendar")) room2 #[(.int x0)] h0 (fun v h L => v = some (.ref (spec2 x0 r_GREGORIAN r_JULIAN r_JULIAN_ANNUNCIATION r_JULIAN_NATAL r_FRENCH_REPUBLICAN r_HIJRI)) ∧ L = [] ∧ h = h0) := by
  refine oCon.of (plainFor_of_name pn_1) ?_
  intro p e s m below meth c s₁ hx hby hml hown hnm hret hlk hZ X0 e0
  rw [ef_2 m x0]
  have N0 := Fr.nil n0
  refine o_iloadN (pc' := 1) X0 hx (hb hby d2_0) rfl rfl ?_
  refine o_iconst (pc' := 2) (v := (1 : Int32)) X0 hx (hb hby d2_1) rfl rfl ?_
  by_cases c1 : x0 = (1 : Int32)
  · refine o_icmpF (pc' := 5) X0 hx (hb hby d2_2) (XT.ii_ne_f c1) rfl ?_
    obtain ⟨T2, X2, e2, st2⟩ := getS X0 hx hZ (host := "") hown (hw _ (List.mem_of_getElem? (i := 56) rfl)) Via.refl e0 (S_JULIAN.ext O0.2) (g := (mkF m 5 #[.val (.int x0)] [])) rfl (hb hby d2_5)
    refine oGo.step (f' := (mkF m 8 #[.val (.int x0)] [(.ref r_JULIAN)])) st2 ?_
    refine o_retA X2 hx hret rfl hlk rfl rfl (hb hby d2_8) (by decide) (by decide) ?_
    exact ⟨congrArg (fun z => some (Value.ref z)) (show _ = spec2 x0 r_GREGORIAN r_JULIAN r_JULIAN_ANNUNCIATION r_JULIAN_NATAL r_FRENCH_REPUBLICAN r_HIJRI from (if_pos c1).symm), rfl, e2⟩
  · refine o_icmpT (pc' := 9) X0 hx (hb hby d2_2) (XT.ii_ne_t c1) (by decide) (by decide) ?_
    refine o_iloadN (pc' := 10) X0 hx (hb hby d2_9) rfl rfl ?_
    refine o_iconst (pc' := 11) (v := (2 : Int32)) X0 hx (hb hby d2_10) rfl rfl ?_
    by_cases c3 : x0 = (2 : Int32)
    · refine o_icmpF (pc' := 14) X0 hx (hb hby d2_11) (XT.ii_ne_f c3) rfl ?_
      obtain ⟨T4, X4, e4, st4⟩ := getS X0 hx hZ (host := "") hown (hw _ (List.mem_of_getElem? (i := 64) rfl)) Via.refl e0 (S_JULIAN_ANNUNCIATION.ext O0.2) (g := (mkF m 14 #[.val (.int x0)] [])) rfl (hb hby d2_14)
      refine oGo.step (f' := (mkF m 17 #[.val (.int x0)] [(.ref r_JULIAN_ANNUNCIATION)])) st4 ?_
      refine o_retA X4 hx hret rfl hlk rfl rfl (hb hby d2_17) (by decide) (by decide) ?_
      exact ⟨congrArg (fun z => some (Value.ref z)) (show _ = spec2 x0 r_GREGORIAN r_JULIAN r_JULIAN_ANNUNCIATION r_JULIAN_NATAL r_FRENCH_REPUBLICAN r_HIJRI from ((if_neg c1).trans (if_pos c3)).symm), rfl, e4⟩
    · refine o_icmpT (pc' := 18) X0 hx (hb hby d2_11) (XT.ii_ne_t c3) (by decide) (by decide) ?_
      refine o_iloadN (pc' := 19) X0 hx (hb hby d2_18) rfl rfl ?_
      refine o_iconst (pc' := 20) (v := (3 : Int32)) X0 hx (hb hby d2_19) rfl rfl ?_
      by_cases c5 : x0 = (3 : Int32)
      · refine o_icmpF (pc' := 23) X0 hx (hb hby d2_20) (XT.ii_ne_f c5) rfl ?_
        obtain ⟨T6, X6, e6, st6⟩ := getS X0 hx hZ (host := "") hown (hw _ (List.mem_of_getElem? (i := 62) rfl)) Via.refl e0 (S_JULIAN_NATAL.ext O0.2) (g := (mkF m 23 #[.val (.int x0)] [])) rfl (hb hby d2_23)
        refine oGo.step (f' := (mkF m 26 #[.val (.int x0)] [(.ref r_JULIAN_NATAL)])) st6 ?_
        refine o_retA X6 hx hret rfl hlk rfl rfl (hb hby d2_26) (by decide) (by decide) ?_
        exact ⟨congrArg (fun z => some (Value.ref z)) (show _ = spec2 x0 r_GREGORIAN r_JULIAN r_JULIAN_ANNUNCIATION r_JULIAN_NATAL r_FRENCH_REPUBLICAN r_HIJRI from ((if_neg c1).trans ((if_neg c3).trans (if_pos c5))).symm), rfl, e6⟩
      · refine o_icmpT (pc' := 27) X0 hx (hb hby d2_20) (XT.ii_ne_t c5) (by decide) (by decide) ?_
        refine o_iloadN (pc' := 28) X0 hx (hb hby d2_27) rfl rfl ?_
        refine o_iconst (pc' := 29) (v := (4 : Int32)) X0 hx (hb hby d2_28) rfl rfl ?_
        by_cases c7 : x0 = (4 : Int32)
        · refine o_icmpF (pc' := 32) X0 hx (hb hby d2_29) (XT.ii_ne_f c7) rfl ?_
          obtain ⟨T8, X8, e8, st8⟩ := getS X0 hx hZ (host := "") hown (hw _ (List.mem_of_getElem? (i := 66) rfl)) Via.refl e0 (S_FRENCH_REPUBLICAN.ext O0.2) (g := (mkF m 32 #[.val (.int x0)] [])) rfl (hb hby d2_32)
          refine oGo.step (f' := (mkF m 35 #[.val (.int x0)] [(.ref r_FRENCH_REPUBLICAN)])) st8 ?_
          refine o_retA X8 hx hret rfl hlk rfl rfl (hb hby d2_35) (by decide) (by decide) ?_
          exact ⟨congrArg (fun z => some (Value.ref z)) (show _ = spec2 x0 r_GREGORIAN r_JULIAN r_JULIAN_ANNUNCIATION r_JULIAN_NATAL r_FRENCH_REPUBLICAN r_HIJRI from ((if_neg c1).trans ((if_neg c3).trans ((if_neg c5).trans (if_pos c7)))).symm), rfl, e8⟩
        · refine o_icmpT (pc' := 36) X0 hx (hb hby d2_29) (XT.ii_ne_t c7) (by decide) (by decide) ?_
          refine o_iloadN (pc' := 37) X0 hx (hb hby d2_36) rfl rfl ?_
          refine o_iconst (pc' := 38) (v := (5 : Int32)) X0 hx (hb hby d2_37) rfl rfl ?_
          by_cases c9 : x0 = (5 : Int32)
          · refine o_icmpF (pc' := 41) X0 hx (hb hby d2_38) (XT.ii_ne_f c9) rfl ?_
            obtain ⟨T10, X10, e10, st10⟩ := getS X0 hx hZ (host := "") hown (hw _ (List.mem_of_getElem? (i := 60) rfl)) Via.refl e0 (S_HIJRI.ext O0.2) (g := (mkF m 41 #[.val (.int x0)] [])) rfl (hb hby d2_41)
            refine oGo.step (f' := (mkF m 44 #[.val (.int x0)] [(.ref r_HIJRI)])) st10 ?_
            refine o_retA X10 hx hret rfl hlk rfl rfl (hb hby d2_44) (by decide) (by decide) ?_
            exact ⟨congrArg (fun z => some (Value.ref z)) (show _ = spec2 x0 r_GREGORIAN r_JULIAN r_JULIAN_ANNUNCIATION r_JULIAN_NATAL r_FRENCH_REPUBLICAN r_HIJRI from ((if_neg c1).trans ((if_neg c3).trans ((if_neg c5).trans ((if_neg c7).trans (if_pos c9))))).symm), rfl, e10⟩
          · refine o_icmpT (pc' := 45) X0 hx (hb hby d2_38) (XT.ii_ne_t c9) (by decide) (by decide) ?_
            obtain ⟨T11, X11, e11, st11⟩ := getS X0 hx hZ (host := "") hown (hw _ (List.mem_of_getElem? (i := 10) rfl)) Via.refl e0 (S_GREGORIAN.ext O0.2) (g := (mkF m 45 #[.val (.int x0)] [])) rfl (hb hby d2_45)
            refine oGo.step (f' := (mkF m 48 #[.val (.int x0)] [(.ref r_GREGORIAN)])) st11 ?_
            refine o_retA X11 hx hret rfl hlk rfl rfl (hb hby d2_48) (by decide) (by decide) ?_
            exact ⟨congrArg (fun z => some (Value.ref z)) (show _ = spec2 x0 r_GREGORIAN r_JULIAN r_JULIAN_ANNUNCIATION r_JULIAN_NATAL r_FRENCH_REPUBLICAN r_HIJRI from ((if_neg c1).trans ((if_neg c3).trans ((if_neg c5).trans ((if_neg c7).trans (if_neg c9))))).symm), rfl, e11⟩
theorem d4_0 : decode jdk_30_method_1_code 0 = .ok (.aload_n 0, 1) := by decide +kernel
theorem d4_1 : decode jdk_30_method_1_code 1 = .ok (.invokespecial 1, 3) := by decide +kernel
theorem d4_4 : decode jdk_30_method_1_code 4 = .ok (.return_, 1) := by decide +kernel
theorem pn_4 : plainName "java/lang/Record" = true := by first | (simp [plainName, overriddenIn]; done) | decide +kernel
theorem ef4 (m : MethodId) (a1 : Addr) : entryFrame m #[(.ref a1)] 1 = mkF m 0 #[.val (.ref a1)] [] := by first | (simp [entryFrame, mkF, argsToLocals, Value.category]; done) | rfl
def room4 : Room := { frames := 1, cells := 0, slots := 0, locals := 12 }
set_option maxRecDepth 65536 in
set_option maxHeartbeats 40000000 in
theorem rm4 (l : Launch) (Z : State) (a0 : Array Value) (hw : ∀ d ∈ tables_1, d.before a0 Z = true) (a1 : Addr) (h0 : Heap) (n0 : Nat) (Z0 : n0 ≤ h0.size)   :
    oCon l Z (⟨"java/lang/Record", "<init>", "()V"⟩ : MethodName) jdk_30_method_1_code 1 none room4 #[(.ref a1)] h0 (fun v h L => v = none ∧ L = [] ∧ h = h0) := by
  refine oCon.of (plainFor_of_name pn_4) ?_
  intro p e s m below meth c s₁ hx hby hml hown hnm hret hlk hZ X0 e0
  rw [ef4 m a1]
  have N0 := Fr.nil n0
  refine o_aloadN (pc' := 1) X0 hx (hb hby d4_0) rfl rfl rfl ?_
  obtain ⟨T1, X1, e1, st1⟩ := initO X0 hx hZ hown (hw _ (List.mem_of_getElem? (i := 24) rfl)) (hw _ (List.mem_of_getElem? (i := 25) rfl)) (hw _ (List.mem_of_getElem? (i := 26) rfl)) e0 (g := (mkF m 1 #[.val (.ref a1)] [(.ref a1)])) rfl (by rw [hml]; rfl) rfl (hb hby d4_1) (by decide) (W := 0) (by show 2 * 0 + _ ≤ _; exact Nat.le_of_eq rfl) (by decide)
  refine oGo.step (f' := (mkF m 4 #[.val (.ref a1)] [])) st1 ?_
  refine o_retV X1 hx hret hlk (hb hby d4_4) (by decide) (by decide) ?_
  exact ⟨rfl, rfl, e1⟩
theorem d3_0 : decode prog_44_method_3_code 0 = .ok (.aload_n 0, 1) := by decide +kernel
theorem d3_1 : decode prog_44_method_3_code 1 = .ok (.invokespecial 1, 3) := by decide +kernel
theorem d3_4 : decode prog_44_method_3_code 4 = .ok (.aload_n 0, 1) := by decide +kernel
theorem d3_5 : decode prog_44_method_3_code 5 = .ok (.iload_n 1, 1) := by decide +kernel
theorem d3_6 : decode prog_44_method_3_code 6 = .ok (.putfield 7, 3) := by decide +kernel
theorem d3_9 : decode prog_44_method_3_code 9 = .ok (.aload_n 0, 1) := by decide +kernel
theorem d3_10 : decode prog_44_method_3_code 10 = .ok (.iload_n 2, 1) := by decide +kernel
theorem d3_11 : decode prog_44_method_3_code 11 = .ok (.putfield 13, 3) := by decide +kernel
theorem d3_14 : decode prog_44_method_3_code 14 = .ok (.aload_n 0, 1) := by decide +kernel
theorem d3_15 : decode prog_44_method_3_code 15 = .ok (.iload_n 3, 1) := by decide +kernel
theorem d3_16 : decode prog_44_method_3_code 16 = .ok (.putfield 16, 3) := by decide +kernel
theorem d3_19 : decode prog_44_method_3_code 19 = .ok (.aload_n 0, 1) := by decide +kernel
theorem d3_20 : decode prog_44_method_3_code 20 = .ok (.iload 4, 2) := by decide +kernel
theorem d3_22 : decode prog_44_method_3_code 22 = .ok (.putfield 19, 3) := by decide +kernel
theorem d3_25 : decode prog_44_method_3_code 25 = .ok (.aload_n 0, 1) := by decide +kernel
theorem d3_26 : decode prog_44_method_3_code 26 = .ok (.aload 5, 2) := by decide +kernel
theorem d3_28 : decode prog_44_method_3_code 28 = .ok (.putfield 22, 3) := by decide +kernel
theorem d3_31 : decode prog_44_method_3_code 31 = .ok (.aload_n 0, 1) := by decide +kernel
theorem d3_32 : decode prog_44_method_3_code 32 = .ok (.aload 6, 2) := by decide +kernel
theorem d3_34 : decode prog_44_method_3_code 34 = .ok (.putfield 26, 3) := by decide +kernel
theorem d3_37 : decode prog_44_method_3_code 37 = .ok (.aload_n 0, 1) := by decide +kernel
theorem d3_38 : decode prog_44_method_3_code 38 = .ok (.iload 7, 2) := by decide +kernel
theorem d3_40 : decode prog_44_method_3_code 40 = .ok (.putfield 30, 3) := by decide +kernel
theorem d3_43 : decode prog_44_method_3_code 43 = .ok (.aload_n 0, 1) := by decide +kernel
theorem d3_44 : decode prog_44_method_3_code 44 = .ok (.aload 8, 2) := by decide +kernel
theorem d3_46 : decode prog_44_method_3_code 46 = .ok (.putfield 34, 3) := by decide +kernel
theorem d3_49 : decode prog_44_method_3_code 49 = .ok (.aload_n 0, 1) := by decide +kernel
theorem d3_50 : decode prog_44_method_3_code 50 = .ok (.iload 9, 2) := by decide +kernel
theorem d3_52 : decode prog_44_method_3_code 52 = .ok (.putfield 38, 3) := by decide +kernel
theorem d3_55 : decode prog_44_method_3_code 55 = .ok (.return_, 1) := by decide +kernel
theorem pn_3 : plainName "org/kalends/expressions/WrittenDate" = true := by first | (simp [plainName, overriddenIn]; done) | decide +kernel
theorem ef3 (m : MethodId) (a1 : Addr) (x1 : Int32) (x2 : Int32) (x3 : Int32) (x4 : Int32) (x5 : Addr) (x7 : Int32) (x8 : Addr) (x9 : Int32) : entryFrame m #[(.ref a1), (.int x1), (.int x2), (.int x3), (.int x4), (.ref x5), .null, (.int x7), (.ref x8), (.int x9)] 10 = mkF m 0 #[.val (.ref a1), .val (.int x1), .val (.int x2), .val (.int x3), .val (.int x4), .val (.ref x5), .val .null, .val (.int x7), .val (.ref x8), .val (.int x9)] [] := by first | (simp [entryFrame, mkF, argsToLocals, Value.category]; done) | rfl
theorem pd0 : parseMethodDescriptor "()V" = some ⟨[], none⟩ := by decide +kernel
def room3 : Room := { frames := 2, cells := 0, slots := 0, locals := 24 }
set_option maxRecDepth 65536 in
set_option maxHeartbeats 40000000 in
theorem rm3 (l : Launch) (Z : State) (a0 : Array Value) (hw : ∀ d ∈ tables_1, d.before a0 Z = true) (a1 : Addr) (x1 : Int32) (x2 : Int32) (x3 : Int32) (x4 : Int32) (x5 : Addr) (x7 : Int32) (x8 : Addr) (x9 : Int32) (f_year : Int32) (f_month : Int32) (f_day : Int32) (f_length : Int32) (f_mayBeDecade : Int32) (f_namesCalendar : Int32) (h0 : Heap) (n0 : Nat) (Z0 : n0 ≤ h0.size) (E0 : Exa Z h0 a1 "org/kalends/expressions/WrittenDate") (F_year : Fld Z h0 a1 "org/kalends/expressions/WrittenDate" "year" "I" (.int f_year)) (F_month : Fld Z h0 a1 "org/kalends/expressions/WrittenDate" "month" "I" (.int f_month)) (F_day : Fld Z h0 a1 "org/kalends/expressions/WrittenDate" "day" "I" (.int f_day)) (F_length : Fld Z h0 a1 "org/kalends/expressions/WrittenDate" "length" "I" (.int f_length)) (F_order : Fld Z h0 a1 "org/kalends/expressions/WrittenDate" "order" "Lorg/kalends/expressions/WrittenDate$Order;" .null) (F_weekday : Fld Z h0 a1 "org/kalends/expressions/WrittenDate" "weekday" "Ljava/time/DayOfWeek;" .null) (F_mayBeDecade : Fld Z h0 a1 "org/kalends/expressions/WrittenDate" "mayBeDecade" "Z" (.int f_mayBeDecade)) (F_calendar : Fld Z h0 a1 "org/kalends/expressions/WrittenDate" "calendar" "Lorg/kalends/calendars/Calendar;" .null) (F_namesCalendar : Fld Z h0 a1 "org/kalends/expressions/WrittenDate" "namesCalendar" "Z" (.int f_namesCalendar)) (ga : n0 ≤ a1) (z_x7 : x7 = 0 ∨ x7 = 1) (z_x9 : x9 = 0 ∨ x9 = 1) :
    oCon l Z (⟨"org/kalends/expressions/WrittenDate", "<init>", "(IIIILorg/kalends/expressions/WrittenDate$Order;Ljava/time/DayOfWeek;ZLorg/kalends/calendars/Calendar;Z)V"⟩ : MethodName) prog_44_method_3_code 10 none room3 #[(.ref a1), (.int x1), (.int x2), (.int x3), (.int x4), (.ref x5), .null, (.int x7), (.ref x8), (.int x9)] h0 (fun v h L => v = none ∧ Fr n0 L ∧ Keep h0 h [a1] ∧ Exa Z h a1 "org/kalends/expressions/WrittenDate" ∧ Fld Z h a1 "org/kalends/expressions/WrittenDate" "year" "I" (.int x1) ∧ Fld Z h a1 "org/kalends/expressions/WrittenDate" "month" "I" (.int x2) ∧ Fld Z h a1 "org/kalends/expressions/WrittenDate" "day" "I" (.int x3) ∧ Fld Z h a1 "org/kalends/expressions/WrittenDate" "length" "I" (.int x4) ∧ Fld Z h a1 "org/kalends/expressions/WrittenDate" "order" "Lorg/kalends/expressions/WrittenDate$Order;" (.ref x5) ∧ Fld Z h a1 "org/kalends/expressions/WrittenDate" "weekday" "Ljava/time/DayOfWeek;" .null ∧ Fld Z h a1 "org/kalends/expressions/WrittenDate" "mayBeDecade" "Z" (.int x7) ∧ Fld Z h a1 "org/kalends/expressions/WrittenDate" "calendar" "Lorg/kalends/calendars/Calendar;" (.ref x8) ∧ Fld Z h a1 "org/kalends/expressions/WrittenDate" "namesCalendar" "Z" (.int x9)) := by
  refine oCon.of (plainFor_of_name pn_3) ?_
  intro p e s m below meth c s₁ hx hby hml hown hnm hret hlk hZ X0 e0
  rw [ef3 m a1 x1 x2 x3 x4 x5 x7 x8 x9]
  have N0 := Fr.nil n0
  have K0 := Keep.refl h0 [a1]
  refine o_aloadN (pc' := 1) X0 hx (hb hby d3_0) rfl rfl rfl ?_
  obtain ⟨r1, T1, L1, X1, hq1, st1⟩ := o_callN X0 hx hZ hown rfl (hw _ (List.mem_of_getElem? (i := 19) rfl)) (hw _ (List.mem_of_getElem? (i := 20) rfl)) (hw _ (List.mem_of_getElem? (i := 22) rfl)) (hw _ (List.mem_of_getElem? (i := 23) rfl)) (by decide) (rm4 l Z a0 hw a1 h0 n0 Z0 ) e0 (pc' := 4) (Ls := #[.val (.ref a1), .val (.int x1), .val (.int x2), .val (.int x3), .val (.int x4), .val (.ref x5), .val .null, .val (.int x7), .val (.ref x8), .val (.int x9)]) (by rw [hml]; rfl) [] [] rfl pd0 rfl rfl 0 (Nat.le_of_eq rfl) (hb hby d3_1) rfl (by decide) (by decide) (by decide) (by decide)
  obtain ⟨rfl, rfl, Kc1⟩ := hq1
  refine oGo.step (f' := (mkF m 4 #[.val (.ref a1), .val (.int x1), .val (.int x2), .val (.int x3), .val (.int x4), .val (.ref x5), .val .null, .val (.int x7), .val (.ref x8), .val (.int x9)] [])) st1 ?_
  have e1 : T1.heap = h0 := Kc1
  have X1 := o_same X1 rfl rfl
  refine o_aloadN (pc' := 5) X1 hx (hb hby d3_4) rfl rfl rfl ?_
  refine o_iloadN (pc' := 6) X1 hx (hb hby d3_5) rfl rfl ?_
  obtain ⟨T2, h2_, X2, e2, W2, st2⟩ := putF X1 hx hZ hown (host := "") (Or.inl (hw _ (List.mem_of_getElem? (i := 27) rfl))) Via.refl e1 F_year E0 (Or.inr ⟨(hw _ (List.mem_of_getElem? (i := 28) rfl)), rfl, hnm⟩) (hw _ (List.mem_of_getElem? (i := 14) rfl)) (ty := .int) (by decide) rfl rfl (g := (mkF m 6 #[.val (.ref a1), .val (.int x1), .val (.int x2), .val (.int x3), .val (.int x4), .val (.ref x5), .val .null, .val (.int x7), .val (.ref x8), .val (.int x9)] [(.int x1), (.ref a1)])) rfl rfl (hb hby d3_6)
  refine oGo.step (f' := (mkF m 9 #[.val (.ref a1), .val (.int x1), .val (.int x2), .val (.int x3), .val (.int x4), .val (.ref x5), .val .null, .val (.int x7), .val (.ref x8), .val (.int x9)] [])) st2 ?_
  have N2 := Fr.snoc X2 N0 ga
  have F3 := E0.wr W2
  have F4 := F_year.same W2
  have F5 := F_month.other W2 (Or.inr (slot_ne (Or.inr (hw _ (List.mem_of_getElem? (i := 30) rfl))) (Or.inr (hw _ (List.mem_of_getElem? (i := 28) rfl))) (by decide) (t := .int) (t' := .int) (by decide) (by decide)))
  have F6 := F_day.other W2 (Or.inr (slot_ne (Or.inr (hw _ (List.mem_of_getElem? (i := 32) rfl))) (Or.inr (hw _ (List.mem_of_getElem? (i := 28) rfl))) (by decide) (t := .int) (t' := .int) (by decide) (by decide)))
  have F7 := F_length.other W2 (Or.inr (slot_ne (Or.inr (hw _ (List.mem_of_getElem? (i := 34) rfl))) (Or.inr (hw _ (List.mem_of_getElem? (i := 28) rfl))) (by decide) (t := .int) (t' := .int) (by decide) (by decide)))
  have F8 := F_order.other W2 (Or.inr (slot_ne (Or.inr (hw _ (List.mem_of_getElem? (i := 36) rfl))) (Or.inr (hw _ (List.mem_of_getElem? (i := 28) rfl))) (by decide) (t := (.object "org/kalends/expressions/WrittenDate$Order")) (t' := .int) (by decide) (by decide)))
  have F9 := F_weekday.other W2 (Or.inr (slot_ne (Or.inr (hw _ (List.mem_of_getElem? (i := 38) rfl))) (Or.inr (hw _ (List.mem_of_getElem? (i := 28) rfl))) (by decide) (t := (.object "java/time/DayOfWeek")) (t' := .int) (by decide) (by decide)))
  have F10 := F_mayBeDecade.other W2 (Or.inr (slot_ne (Or.inr (hw _ (List.mem_of_getElem? (i := 40) rfl))) (Or.inr (hw _ (List.mem_of_getElem? (i := 28) rfl))) (by decide) (t := .boolean) (t' := .int) (by decide) (by decide)))
  have F11 := F_calendar.other W2 (Or.inr (slot_ne (Or.inr (hw _ (List.mem_of_getElem? (i := 42) rfl))) (Or.inr (hw _ (List.mem_of_getElem? (i := 28) rfl))) (by decide) (t := (.object "org/kalends/calendars/Calendar")) (t' := .int) (by decide) (by decide)))
  have F12 := F_namesCalendar.other W2 (Or.inr (slot_ne (Or.inr (hw _ (List.mem_of_getElem? (i := 44) rfl))) (Or.inr (hw _ (List.mem_of_getElem? (i := 28) rfl))) (by decide) (t := .boolean) (t' := .int) (by decide) (by decide)))
  have K13 := K0.wr W2 (Or.inl (List.mem_of_getElem? (i := 0) rfl))
  refine o_aloadN (pc' := 10) X2 hx (hb hby d3_9) rfl rfl rfl ?_
  refine o_iloadN (pc' := 11) X2 hx (hb hby d3_10) rfl rfl ?_
  obtain ⟨T14, h14_, X14, e14, W14, st14⟩ := putF X2 hx hZ hown (host := "") (Or.inl (hw _ (List.mem_of_getElem? (i := 29) rfl))) Via.refl e2 F5 F3 (Or.inr ⟨(hw _ (List.mem_of_getElem? (i := 30) rfl)), rfl, hnm⟩) (hw _ (List.mem_of_getElem? (i := 14) rfl)) (ty := .int) (by decide) rfl rfl (g := (mkF m 11 #[.val (.ref a1), .val (.int x1), .val (.int x2), .val (.int x3), .val (.int x4), .val (.ref x5), .val .null, .val (.int x7), .val (.ref x8), .val (.int x9)] [(.int x2), (.ref a1)])) rfl rfl (hb hby d3_11)
  refine oGo.step (f' := (mkF m 14 #[.val (.ref a1), .val (.int x1), .val (.int x2), .val (.int x3), .val (.int x4), .val (.ref x5), .val .null, .val (.int x7), .val (.ref x8), .val (.int x9)] [])) st14 ?_
  have N14 := Fr.snoc X14 N2 ga
  have F15 := F3.wr W14
  have F16 := F4.other W14 (Or.inr (slot_ne (Or.inr (hw _ (List.mem_of_getElem? (i := 28) rfl))) (Or.inr (hw _ (List.mem_of_getElem? (i := 30) rfl))) (by decide) (t := .int) (t' := .int) (by decide) (by decide)))
  have F17 := F5.same W14
  have F18 := F6.other W14 (Or.inr (slot_ne (Or.inr (hw _ (List.mem_of_getElem? (i := 32) rfl))) (Or.inr (hw _ (List.mem_of_getElem? (i := 30) rfl))) (by decide) (t := .int) (t' := .int) (by decide) (by decide)))
  have F19 := F7.other W14 (Or.inr (slot_ne (Or.inr (hw _ (List.mem_of_getElem? (i := 34) rfl))) (Or.inr (hw _ (List.mem_of_getElem? (i := 30) rfl))) (by decide) (t := .int) (t' := .int) (by decide) (by decide)))
  have F20 := F8.other W14 (Or.inr (slot_ne (Or.inr (hw _ (List.mem_of_getElem? (i := 36) rfl))) (Or.inr (hw _ (List.mem_of_getElem? (i := 30) rfl))) (by decide) (t := (.object "org/kalends/expressions/WrittenDate$Order")) (t' := .int) (by decide) (by decide)))
  have F21 := F9.other W14 (Or.inr (slot_ne (Or.inr (hw _ (List.mem_of_getElem? (i := 38) rfl))) (Or.inr (hw _ (List.mem_of_getElem? (i := 30) rfl))) (by decide) (t := (.object "java/time/DayOfWeek")) (t' := .int) (by decide) (by decide)))
  have F22 := F10.other W14 (Or.inr (slot_ne (Or.inr (hw _ (List.mem_of_getElem? (i := 40) rfl))) (Or.inr (hw _ (List.mem_of_getElem? (i := 30) rfl))) (by decide) (t := .boolean) (t' := .int) (by decide) (by decide)))
  have F23 := F11.other W14 (Or.inr (slot_ne (Or.inr (hw _ (List.mem_of_getElem? (i := 42) rfl))) (Or.inr (hw _ (List.mem_of_getElem? (i := 30) rfl))) (by decide) (t := (.object "org/kalends/calendars/Calendar")) (t' := .int) (by decide) (by decide)))
  have F24 := F12.other W14 (Or.inr (slot_ne (Or.inr (hw _ (List.mem_of_getElem? (i := 44) rfl))) (Or.inr (hw _ (List.mem_of_getElem? (i := 30) rfl))) (by decide) (t := .boolean) (t' := .int) (by decide) (by decide)))
  have K25 := K13.wr W14 (Or.inl (List.mem_of_getElem? (i := 0) rfl))
  refine o_aloadN (pc' := 15) X14 hx (hb hby d3_14) rfl rfl rfl ?_
  refine o_iloadN (pc' := 16) X14 hx (hb hby d3_15) rfl rfl ?_
  obtain ⟨T26, h26_, X26, e26, W26, st26⟩ := putF X14 hx hZ hown (host := "") (Or.inl (hw _ (List.mem_of_getElem? (i := 31) rfl))) Via.refl e14 F18 F15 (Or.inr ⟨(hw _ (List.mem_of_getElem? (i := 32) rfl)), rfl, hnm⟩) (hw _ (List.mem_of_getElem? (i := 14) rfl)) (ty := .int) (by decide) rfl rfl (g := (mkF m 16 #[.val (.ref a1), .val (.int x1), .val (.int x2), .val (.int x3), .val (.int x4), .val (.ref x5), .val .null, .val (.int x7), .val (.ref x8), .val (.int x9)] [(.int x3), (.ref a1)])) rfl rfl (hb hby d3_16)
  refine oGo.step (f' := (mkF m 19 #[.val (.ref a1), .val (.int x1), .val (.int x2), .val (.int x3), .val (.int x4), .val (.ref x5), .val .null, .val (.int x7), .val (.ref x8), .val (.int x9)] [])) st26 ?_
  have N26 := Fr.snoc X26 N14 ga
  have F27 := F15.wr W26
  have F28 := F16.other W26 (Or.inr (slot_ne (Or.inr (hw _ (List.mem_of_getElem? (i := 28) rfl))) (Or.inr (hw _ (List.mem_of_getElem? (i := 32) rfl))) (by decide) (t := .int) (t' := .int) (by decide) (by decide)))
  have F29 := F17.other W26 (Or.inr (slot_ne (Or.inr (hw _ (List.mem_of_getElem? (i := 30) rfl))) (Or.inr (hw _ (List.mem_of_getElem? (i := 32) rfl))) (by decide) (t := .int) (t' := .int) (by decide) (by decide)))
  have F30 := F18.same W26
  have F31 := F19.other W26 (Or.inr (slot_ne (Or.inr (hw _ (List.mem_of_getElem? (i := 34) rfl))) (Or.inr (hw _ (List.mem_of_getElem? (i := 32) rfl))) (by decide) (t := .int) (t' := .int) (by decide) (by decide)))
  have F32 := F20.other W26 (Or.inr (slot_ne (Or.inr (hw _ (List.mem_of_getElem? (i := 36) rfl))) (Or.inr (hw _ (List.mem_of_getElem? (i := 32) rfl))) (by decide) (t := (.object "org/kalends/expressions/WrittenDate$Order")) (t' := .int) (by decide) (by decide)))
  have F33 := F21.other W26 (Or.inr (slot_ne (Or.inr (hw _ (List.mem_of_getElem? (i := 38) rfl))) (Or.inr (hw _ (List.mem_of_getElem? (i := 32) rfl))) (by decide) (t := (.object "java/time/DayOfWeek")) (t' := .int) (by decide) (by decide)))
  have F34 := F22.other W26 (Or.inr (slot_ne (Or.inr (hw _ (List.mem_of_getElem? (i := 40) rfl))) (Or.inr (hw _ (List.mem_of_getElem? (i := 32) rfl))) (by decide) (t := .boolean) (t' := .int) (by decide) (by decide)))
  have F35 := F23.other W26 (Or.inr (slot_ne (Or.inr (hw _ (List.mem_of_getElem? (i := 42) rfl))) (Or.inr (hw _ (List.mem_of_getElem? (i := 32) rfl))) (by decide) (t := (.object "org/kalends/calendars/Calendar")) (t' := .int) (by decide) (by decide)))
  have F36 := F24.other W26 (Or.inr (slot_ne (Or.inr (hw _ (List.mem_of_getElem? (i := 44) rfl))) (Or.inr (hw _ (List.mem_of_getElem? (i := 32) rfl))) (by decide) (t := .boolean) (t' := .int) (by decide) (by decide)))
  have K37 := K25.wr W26 (Or.inl (List.mem_of_getElem? (i := 0) rfl))
  refine o_aloadN (pc' := 20) X26 hx (hb hby d3_19) rfl rfl rfl ?_
  refine o_iload (pc' := 22) X26 hx (hb hby d3_20) rfl rfl ?_
  obtain ⟨T38, h38_, X38, e38, W38, st38⟩ := putF X26 hx hZ hown (host := "") (Or.inl (hw _ (List.mem_of_getElem? (i := 33) rfl))) Via.refl e26 F31 F27 (Or.inr ⟨(hw _ (List.mem_of_getElem? (i := 34) rfl)), rfl, hnm⟩) (hw _ (List.mem_of_getElem? (i := 14) rfl)) (ty := .int) (by decide) rfl rfl (g := (mkF m 22 #[.val (.ref a1), .val (.int x1), .val (.int x2), .val (.int x3), .val (.int x4), .val (.ref x5), .val .null, .val (.int x7), .val (.ref x8), .val (.int x9)] [(.int x4), (.ref a1)])) rfl rfl (hb hby d3_22)
  refine oGo.step (f' := (mkF m 25 #[.val (.ref a1), .val (.int x1), .val (.int x2), .val (.int x3), .val (.int x4), .val (.ref x5), .val .null, .val (.int x7), .val (.ref x8), .val (.int x9)] [])) st38 ?_
  have N38 := Fr.snoc X38 N26 ga
  have F39 := F27.wr W38
  have F40 := F28.other W38 (Or.inr (slot_ne (Or.inr (hw _ (List.mem_of_getElem? (i := 28) rfl))) (Or.inr (hw _ (List.mem_of_getElem? (i := 34) rfl))) (by decide) (t := .int) (t' := .int) (by decide) (by decide)))
  have F41 := F29.other W38 (Or.inr (slot_ne (Or.inr (hw _ (List.mem_of_getElem? (i := 30) rfl))) (Or.inr (hw _ (List.mem_of_getElem? (i := 34) rfl))) (by decide) (t := .int) (t' := .int) (by decide) (by decide)))
  have F42 := F30.other W38 (Or.inr (slot_ne (Or.inr (hw _ (List.mem_of_getElem? (i := 32) rfl))) (Or.inr (hw _ (List.mem_of_getElem? (i := 34) rfl))) (by decide) (t := .int) (t' := .int) (by decide) (by decide)))
  have F43 := F31.same W38
  have F44 := F32.other W38 (Or.inr (slot_ne (Or.inr (hw _ (List.mem_of_getElem? (i := 36) rfl))) (Or.inr (hw _ (List.mem_of_getElem? (i := 34) rfl))) (by decide) (t := (.object "org/kalends/expressions/WrittenDate$Order")) (t' := .int) (by decide) (by decide)))
  have F45 := F33.other W38 (Or.inr (slot_ne (Or.inr (hw _ (List.mem_of_getElem? (i := 38) rfl))) (Or.inr (hw _ (List.mem_of_getElem? (i := 34) rfl))) (by decide) (t := (.object "java/time/DayOfWeek")) (t' := .int) (by decide) (by decide)))
  have F46 := F34.other W38 (Or.inr (slot_ne (Or.inr (hw _ (List.mem_of_getElem? (i := 40) rfl))) (Or.inr (hw _ (List.mem_of_getElem? (i := 34) rfl))) (by decide) (t := .boolean) (t' := .int) (by decide) (by decide)))
  have F47 := F35.other W38 (Or.inr (slot_ne (Or.inr (hw _ (List.mem_of_getElem? (i := 42) rfl))) (Or.inr (hw _ (List.mem_of_getElem? (i := 34) rfl))) (by decide) (t := (.object "org/kalends/calendars/Calendar")) (t' := .int) (by decide) (by decide)))
  have F48 := F36.other W38 (Or.inr (slot_ne (Or.inr (hw _ (List.mem_of_getElem? (i := 44) rfl))) (Or.inr (hw _ (List.mem_of_getElem? (i := 34) rfl))) (by decide) (t := .boolean) (t' := .int) (by decide) (by decide)))
  have K49 := K37.wr W38 (Or.inl (List.mem_of_getElem? (i := 0) rfl))
  refine o_aloadN (pc' := 26) X38 hx (hb hby d3_25) rfl rfl rfl ?_
  refine o_aload (pc' := 28) X38 hx (hb hby d3_26) rfl rfl rfl ?_
  obtain ⟨T50, h50_, X50, e50, W50, st50⟩ := putF X38 hx hZ hown (host := "") (Or.inl (hw _ (List.mem_of_getElem? (i := 35) rfl))) Via.refl e38 F44 F39 (Or.inr ⟨(hw _ (List.mem_of_getElem? (i := 36) rfl)), rfl, hnm⟩) (hw _ (List.mem_of_getElem? (i := 14) rfl)) (ty := (.object "org/kalends/expressions/WrittenDate$Order")) (by decide) rfl rfl (g := (mkF m 28 #[.val (.ref a1), .val (.int x1), .val (.int x2), .val (.int x3), .val (.int x4), .val (.ref x5), .val .null, .val (.int x7), .val (.ref x8), .val (.int x9)] [(.ref x5), (.ref a1)])) rfl rfl (hb hby d3_28)
  refine oGo.step (f' := (mkF m 31 #[.val (.ref a1), .val (.int x1), .val (.int x2), .val (.int x3), .val (.int x4), .val (.ref x5), .val .null, .val (.int x7), .val (.ref x8), .val (.int x9)] [])) st50 ?_
  have N50 := Fr.snoc X50 N38 ga
  have F51 := F39.wr W50
  have F52 := F40.other W50 (Or.inr (slot_ne (Or.inr (hw _ (List.mem_of_getElem? (i := 28) rfl))) (Or.inr (hw _ (List.mem_of_getElem? (i := 36) rfl))) (by decide) (t := .int) (t' := (.object "org/kalends/expressions/WrittenDate$Order")) (by decide) (by decide)))
  have F53 := F41.other W50 (Or.inr (slot_ne (Or.inr (hw _ (List.mem_of_getElem? (i := 30) rfl))) (Or.inr (hw _ (List.mem_of_getElem? (i := 36) rfl))) (by decide) (t := .int) (t' := (.object "org/kalends/expressions/WrittenDate$Order")) (by decide) (by decide)))
  have F54 := F42.other W50 (Or.inr (slot_ne (Or.inr (hw _ (List.mem_of_getElem? (i := 32) rfl))) (Or.inr (hw _ (List.mem_of_getElem? (i := 36) rfl))) (by decide) (t := .int) (t' := (.object "org/kalends/expressions/WrittenDate$Order")) (by decide) (by decide)))
  have F55 := F43.other W50 (Or.inr (slot_ne (Or.inr (hw _ (List.mem_of_getElem? (i := 34) rfl))) (Or.inr (hw _ (List.mem_of_getElem? (i := 36) rfl))) (by decide) (t := .int) (t' := (.object "org/kalends/expressions/WrittenDate$Order")) (by decide) (by decide)))
  have F56 := F44.same W50
  have F57 := F45.other W50 (Or.inr (slot_ne (Or.inr (hw _ (List.mem_of_getElem? (i := 38) rfl))) (Or.inr (hw _ (List.mem_of_getElem? (i := 36) rfl))) (by decide) (t := (.object "java/time/DayOfWeek")) (t' := (.object "org/kalends/expressions/WrittenDate$Order")) (by decide) (by decide)))
  have F58 := F46.other W50 (Or.inr (slot_ne (Or.inr (hw _ (List.mem_of_getElem? (i := 40) rfl))) (Or.inr (hw _ (List.mem_of_getElem? (i := 36) rfl))) (by decide) (t := .boolean) (t' := (.object "org/kalends/expressions/WrittenDate$Order")) (by decide) (by decide)))
  have F59 := F47.other W50 (Or.inr (slot_ne (Or.inr (hw _ (List.mem_of_getElem? (i := 42) rfl))) (Or.inr (hw _ (List.mem_of_getElem? (i := 36) rfl))) (by decide) (t := (.object "org/kalends/calendars/Calendar")) (t' := (.object "org/kalends/expressions/WrittenDate$Order")) (by decide) (by decide)))
  have F60 := F48.other W50 (Or.inr (slot_ne (Or.inr (hw _ (List.mem_of_getElem? (i := 44) rfl))) (Or.inr (hw _ (List.mem_of_getElem? (i := 36) rfl))) (by decide) (t := .boolean) (t' := (.object "org/kalends/expressions/WrittenDate$Order")) (by decide) (by decide)))
  have K61 := K49.wr W50 (Or.inl (List.mem_of_getElem? (i := 0) rfl))
  refine o_aloadN (pc' := 32) X50 hx (hb hby d3_31) rfl rfl rfl ?_
  refine o_aload (pc' := 34) X50 hx (hb hby d3_32) rfl rfl rfl ?_
  obtain ⟨T62, h62_, X62, e62, W62, st62⟩ := putF X50 hx hZ hown (host := "") (Or.inl (hw _ (List.mem_of_getElem? (i := 37) rfl))) Via.refl e50 F57 F51 (Or.inr ⟨(hw _ (List.mem_of_getElem? (i := 38) rfl)), rfl, hnm⟩) (hw _ (List.mem_of_getElem? (i := 14) rfl)) (ty := (.object "java/time/DayOfWeek")) (by decide) rfl rfl (g := (mkF m 34 #[.val (.ref a1), .val (.int x1), .val (.int x2), .val (.int x3), .val (.int x4), .val (.ref x5), .val .null, .val (.int x7), .val (.ref x8), .val (.int x9)] [.null, (.ref a1)])) rfl rfl (hb hby d3_34)
  refine oGo.step (f' := (mkF m 37 #[.val (.ref a1), .val (.int x1), .val (.int x2), .val (.int x3), .val (.int x4), .val (.ref x5), .val .null, .val (.int x7), .val (.ref x8), .val (.int x9)] [])) st62 ?_
  have N62 := Fr.snoc X62 N50 ga
  have F63 := F51.wr W62
  have F64 := F52.other W62 (Or.inr (slot_ne (Or.inr (hw _ (List.mem_of_getElem? (i := 28) rfl))) (Or.inr (hw _ (List.mem_of_getElem? (i := 38) rfl))) (by decide) (t := .int) (t' := (.object "java/time/DayOfWeek")) (by decide) (by decide)))
  have F65 := F53.other W62 (Or.inr (slot_ne (Or.inr (hw _ (List.mem_of_getElem? (i := 30) rfl))) (Or.inr (hw _ (List.mem_of_getElem? (i := 38) rfl))) (by decide) (t := .int) (t' := (.object "java/time/DayOfWeek")) (by decide) (by decide)))
  have F66 := F54.other W62 (Or.inr (slot_ne (Or.inr (hw _ (List.mem_of_getElem? (i := 32) rfl))) (Or.inr (hw _ (List.mem_of_getElem? (i := 38) rfl))) (by decide) (t := .int) (t' := (.object "java/time/DayOfWeek")) (by decide) (by decide)))
  have F67 := F55.other W62 (Or.inr (slot_ne (Or.inr (hw _ (List.mem_of_getElem? (i := 34) rfl))) (Or.inr (hw _ (List.mem_of_getElem? (i := 38) rfl))) (by decide) (t := .int) (t' := (.object "java/time/DayOfWeek")) (by decide) (by decide)))
  have F68 := F56.other W62 (Or.inr (slot_ne (Or.inr (hw _ (List.mem_of_getElem? (i := 36) rfl))) (Or.inr (hw _ (List.mem_of_getElem? (i := 38) rfl))) (by decide) (t := (.object "org/kalends/expressions/WrittenDate$Order")) (t' := (.object "java/time/DayOfWeek")) (by decide) (by decide)))
  have F69 := F57.same W62
  have F70 := F58.other W62 (Or.inr (slot_ne (Or.inr (hw _ (List.mem_of_getElem? (i := 40) rfl))) (Or.inr (hw _ (List.mem_of_getElem? (i := 38) rfl))) (by decide) (t := .boolean) (t' := (.object "java/time/DayOfWeek")) (by decide) (by decide)))
  have F71 := F59.other W62 (Or.inr (slot_ne (Or.inr (hw _ (List.mem_of_getElem? (i := 42) rfl))) (Or.inr (hw _ (List.mem_of_getElem? (i := 38) rfl))) (by decide) (t := (.object "org/kalends/calendars/Calendar")) (t' := (.object "java/time/DayOfWeek")) (by decide) (by decide)))
  have F72 := F60.other W62 (Or.inr (slot_ne (Or.inr (hw _ (List.mem_of_getElem? (i := 44) rfl))) (Or.inr (hw _ (List.mem_of_getElem? (i := 38) rfl))) (by decide) (t := .boolean) (t' := (.object "java/time/DayOfWeek")) (by decide) (by decide)))
  have K73 := K61.wr W62 (Or.inl (List.mem_of_getElem? (i := 0) rfl))
  refine o_aloadN (pc' := 38) X62 hx (hb hby d3_37) rfl rfl rfl ?_
  refine o_iload (pc' := 40) X62 hx (hb hby d3_38) rfl rfl ?_
  obtain ⟨T74, h74_, X74, e74, W74, st74⟩ := putF X62 hx hZ hown (host := "") (Or.inl (hw _ (List.mem_of_getElem? (i := 39) rfl))) Via.refl e62 F70 F63 (Or.inr ⟨(hw _ (List.mem_of_getElem? (i := 40) rfl)), rfl, hnm⟩) (hw _ (List.mem_of_getElem? (i := 14) rfl)) (ty := .boolean) (by decide) (o_nb z_x7) (o_fb z_x7) (g := (mkF m 40 #[.val (.ref a1), .val (.int x1), .val (.int x2), .val (.int x3), .val (.int x4), .val (.ref x5), .val .null, .val (.int x7), .val (.ref x8), .val (.int x9)] [(.int x7), (.ref a1)])) rfl rfl (hb hby d3_40)
  refine oGo.step (f' := (mkF m 43 #[.val (.ref a1), .val (.int x1), .val (.int x2), .val (.int x3), .val (.int x4), .val (.ref x5), .val .null, .val (.int x7), .val (.ref x8), .val (.int x9)] [])) st74 ?_
  have N74 := Fr.snoc X74 N62 ga
  have F75 := F63.wr W74
  have F76 := F64.other W74 (Or.inr (slot_ne (Or.inr (hw _ (List.mem_of_getElem? (i := 28) rfl))) (Or.inr (hw _ (List.mem_of_getElem? (i := 40) rfl))) (by decide) (t := .int) (t' := .boolean) (by decide) (by decide)))
  have F77 := F65.other W74 (Or.inr (slot_ne (Or.inr (hw _ (List.mem_of_getElem? (i := 30) rfl))) (Or.inr (hw _ (List.mem_of_getElem? (i := 40) rfl))) (by decide) (t := .int) (t' := .boolean) (by decide) (by decide)))
  have F78 := F66.other W74 (Or.inr (slot_ne (Or.inr (hw _ (List.mem_of_getElem? (i := 32) rfl))) (Or.inr (hw _ (List.mem_of_getElem? (i := 40) rfl))) (by decide) (t := .int) (t' := .boolean) (by decide) (by decide)))
  have F79 := F67.other W74 (Or.inr (slot_ne (Or.inr (hw _ (List.mem_of_getElem? (i := 34) rfl))) (Or.inr (hw _ (List.mem_of_getElem? (i := 40) rfl))) (by decide) (t := .int) (t' := .boolean) (by decide) (by decide)))
  have F80 := F68.other W74 (Or.inr (slot_ne (Or.inr (hw _ (List.mem_of_getElem? (i := 36) rfl))) (Or.inr (hw _ (List.mem_of_getElem? (i := 40) rfl))) (by decide) (t := (.object "org/kalends/expressions/WrittenDate$Order")) (t' := .boolean) (by decide) (by decide)))
  have F81 := F69.other W74 (Or.inr (slot_ne (Or.inr (hw _ (List.mem_of_getElem? (i := 38) rfl))) (Or.inr (hw _ (List.mem_of_getElem? (i := 40) rfl))) (by decide) (t := (.object "java/time/DayOfWeek")) (t' := .boolean) (by decide) (by decide)))
  have F82 := F70.same W74
  have F83 := F71.other W74 (Or.inr (slot_ne (Or.inr (hw _ (List.mem_of_getElem? (i := 42) rfl))) (Or.inr (hw _ (List.mem_of_getElem? (i := 40) rfl))) (by decide) (t := (.object "org/kalends/calendars/Calendar")) (t' := .boolean) (by decide) (by decide)))
  have F84 := F72.other W74 (Or.inr (slot_ne (Or.inr (hw _ (List.mem_of_getElem? (i := 44) rfl))) (Or.inr (hw _ (List.mem_of_getElem? (i := 40) rfl))) (by decide) (t := .boolean) (t' := .boolean) (by decide) (by decide)))
  have K85 := K73.wr W74 (Or.inl (List.mem_of_getElem? (i := 0) rfl))
  refine o_aloadN (pc' := 44) X74 hx (hb hby d3_43) rfl rfl rfl ?_
  refine o_aload (pc' := 46) X74 hx (hb hby d3_44) rfl rfl rfl ?_
  obtain ⟨T86, h86_, X86, e86, W86, st86⟩ := putF X74 hx hZ hown (host := "") (Or.inl (hw _ (List.mem_of_getElem? (i := 41) rfl))) Via.refl e74 F83 F75 (Or.inr ⟨(hw _ (List.mem_of_getElem? (i := 42) rfl)), rfl, hnm⟩) (hw _ (List.mem_of_getElem? (i := 14) rfl)) (ty := (.object "org/kalends/calendars/Calendar")) (by decide) rfl rfl (g := (mkF m 46 #[.val (.ref a1), .val (.int x1), .val (.int x2), .val (.int x3), .val (.int x4), .val (.ref x5), .val .null, .val (.int x7), .val (.ref x8), .val (.int x9)] [(.ref x8), (.ref a1)])) rfl rfl (hb hby d3_46)
  refine oGo.step (f' := (mkF m 49 #[.val (.ref a1), .val (.int x1), .val (.int x2), .val (.int x3), .val (.int x4), .val (.ref x5), .val .null, .val (.int x7), .val (.ref x8), .val (.int x9)] [])) st86 ?_
  have N86 := Fr.snoc X86 N74 ga
  have F87 := F75.wr W86
  have F88 := F76.other W86 (Or.inr (slot_ne (Or.inr (hw _ (List.mem_of_getElem? (i := 28) rfl))) (Or.inr (hw _ (List.mem_of_getElem? (i := 42) rfl))) (by decide) (t := .int) (t' := (.object "org/kalends/calendars/Calendar")) (by decide) (by decide)))
  have F89 := F77.other W86 (Or.inr (slot_ne (Or.inr (hw _ (List.mem_of_getElem? (i := 30) rfl))) (Or.inr (hw _ (List.mem_of_getElem? (i := 42) rfl))) (by decide) (t := .int) (t' := (.object "org/kalends/calendars/Calendar")) (by decide) (by decide)))
  have F90 := F78.other W86 (Or.inr (slot_ne (Or.inr (hw _ (List.mem_of_getElem? (i := 32) rfl))) (Or.inr (hw _ (List.mem_of_getElem? (i := 42) rfl))) (by decide) (t := .int) (t' := (.object "org/kalends/calendars/Calendar")) (by decide) (by decide)))
  have F91 := F79.other W86 (Or.inr (slot_ne (Or.inr (hw _ (List.mem_of_getElem? (i := 34) rfl))) (Or.inr (hw _ (List.mem_of_getElem? (i := 42) rfl))) (by decide) (t := .int) (t' := (.object "org/kalends/calendars/Calendar")) (by decide) (by decide)))
  have F92 := F80.other W86 (Or.inr (slot_ne (Or.inr (hw _ (List.mem_of_getElem? (i := 36) rfl))) (Or.inr (hw _ (List.mem_of_getElem? (i := 42) rfl))) (by decide) (t := (.object "org/kalends/expressions/WrittenDate$Order")) (t' := (.object "org/kalends/calendars/Calendar")) (by decide) (by decide)))
  have F93 := F81.other W86 (Or.inr (slot_ne (Or.inr (hw _ (List.mem_of_getElem? (i := 38) rfl))) (Or.inr (hw _ (List.mem_of_getElem? (i := 42) rfl))) (by decide) (t := (.object "java/time/DayOfWeek")) (t' := (.object "org/kalends/calendars/Calendar")) (by decide) (by decide)))
  have F94 := F82.other W86 (Or.inr (slot_ne (Or.inr (hw _ (List.mem_of_getElem? (i := 40) rfl))) (Or.inr (hw _ (List.mem_of_getElem? (i := 42) rfl))) (by decide) (t := .boolean) (t' := (.object "org/kalends/calendars/Calendar")) (by decide) (by decide)))
  have F95 := F83.same W86
  have F96 := F84.other W86 (Or.inr (slot_ne (Or.inr (hw _ (List.mem_of_getElem? (i := 44) rfl))) (Or.inr (hw _ (List.mem_of_getElem? (i := 42) rfl))) (by decide) (t := .boolean) (t' := (.object "org/kalends/calendars/Calendar")) (by decide) (by decide)))
  have K97 := K85.wr W86 (Or.inl (List.mem_of_getElem? (i := 0) rfl))
  refine o_aloadN (pc' := 50) X86 hx (hb hby d3_49) rfl rfl rfl ?_
  refine o_iload (pc' := 52) X86 hx (hb hby d3_50) rfl rfl ?_
  obtain ⟨T98, h98_, X98, e98, W98, st98⟩ := putF X86 hx hZ hown (host := "") (Or.inl (hw _ (List.mem_of_getElem? (i := 43) rfl))) Via.refl e86 F96 F87 (Or.inr ⟨(hw _ (List.mem_of_getElem? (i := 44) rfl)), rfl, hnm⟩) (hw _ (List.mem_of_getElem? (i := 14) rfl)) (ty := .boolean) (by decide) (o_nb z_x9) (o_fb z_x9) (g := (mkF m 52 #[.val (.ref a1), .val (.int x1), .val (.int x2), .val (.int x3), .val (.int x4), .val (.ref x5), .val .null, .val (.int x7), .val (.ref x8), .val (.int x9)] [(.int x9), (.ref a1)])) rfl rfl (hb hby d3_52)
  refine oGo.step (f' := (mkF m 55 #[.val (.ref a1), .val (.int x1), .val (.int x2), .val (.int x3), .val (.int x4), .val (.ref x5), .val .null, .val (.int x7), .val (.ref x8), .val (.int x9)] [])) st98 ?_
  have N98 := Fr.snoc X98 N86 ga
  have F99 := F87.wr W98
  have F100 := F88.other W98 (Or.inr (slot_ne (Or.inr (hw _ (List.mem_of_getElem? (i := 28) rfl))) (Or.inr (hw _ (List.mem_of_getElem? (i := 44) rfl))) (by decide) (t := .int) (t' := .boolean) (by decide) (by decide)))
  have F101 := F89.other W98 (Or.inr (slot_ne (Or.inr (hw _ (List.mem_of_getElem? (i := 30) rfl))) (Or.inr (hw _ (List.mem_of_getElem? (i := 44) rfl))) (by decide) (t := .int) (t' := .boolean) (by decide) (by decide)))
  have F102 := F90.other W98 (Or.inr (slot_ne (Or.inr (hw _ (List.mem_of_getElem? (i := 32) rfl))) (Or.inr (hw _ (List.mem_of_getElem? (i := 44) rfl))) (by decide) (t := .int) (t' := .boolean) (by decide) (by decide)))
  have F103 := F91.other W98 (Or.inr (slot_ne (Or.inr (hw _ (List.mem_of_getElem? (i := 34) rfl))) (Or.inr (hw _ (List.mem_of_getElem? (i := 44) rfl))) (by decide) (t := .int) (t' := .boolean) (by decide) (by decide)))
  have F104 := F92.other W98 (Or.inr (slot_ne (Or.inr (hw _ (List.mem_of_getElem? (i := 36) rfl))) (Or.inr (hw _ (List.mem_of_getElem? (i := 44) rfl))) (by decide) (t := (.object "org/kalends/expressions/WrittenDate$Order")) (t' := .boolean) (by decide) (by decide)))
  have F105 := F93.other W98 (Or.inr (slot_ne (Or.inr (hw _ (List.mem_of_getElem? (i := 38) rfl))) (Or.inr (hw _ (List.mem_of_getElem? (i := 44) rfl))) (by decide) (t := (.object "java/time/DayOfWeek")) (t' := .boolean) (by decide) (by decide)))
  have F106 := F94.other W98 (Or.inr (slot_ne (Or.inr (hw _ (List.mem_of_getElem? (i := 40) rfl))) (Or.inr (hw _ (List.mem_of_getElem? (i := 44) rfl))) (by decide) (t := .boolean) (t' := .boolean) (by decide) (by decide)))
  have F107 := F95.other W98 (Or.inr (slot_ne (Or.inr (hw _ (List.mem_of_getElem? (i := 42) rfl))) (Or.inr (hw _ (List.mem_of_getElem? (i := 44) rfl))) (by decide) (t := (.object "org/kalends/calendars/Calendar")) (t' := .boolean) (by decide) (by decide)))
  have F108 := F96.same W98
  have K109 := K97.wr W98 (Or.inl (List.mem_of_getElem? (i := 0) rfl))
  refine o_retV X98 hx hret hlk (hb hby d3_55) (by decide) (by decide) ?_
  rw [e98]
  exact ⟨rfl, N98, K109, F99, F100, F101, F102, F103, F104, F105, F106, F107, F108⟩
theorem d6_0 : decode prog_44_method_2_code 0 = .ok (.aload_n 0, 1) := by decide +kernel
theorem d6_1 : decode prog_44_method_2_code 1 = .ok (.iload_n 1, 1) := by decide +kernel
theorem d6_2 : decode prog_44_method_2_code 2 = .ok (.iload_n 2, 1) := by decide +kernel
theorem d6_3 : decode prog_44_method_2_code 3 = .ok (.iload_n 3, 1) := by decide +kernel
theorem d6_4 : decode prog_44_method_2_code 4 = .ok (.iconst 1, 1) := by decide +kernel
theorem d6_5 : decode prog_44_method_2_code 5 = .ok (.aload 4, 2) := by decide +kernel
theorem d6_7 : decode prog_44_method_2_code 7 = .ok (.aconst_null, 1) := by decide +kernel
theorem d6_8 : decode prog_44_method_2_code 8 = .ok (.iconst 0, 1) := by decide +kernel
theorem d6_9 : decode prog_44_method_2_code 9 = .ok (.aload 5, 2) := by decide +kernel
theorem d6_11 : decode prog_44_method_2_code 11 = .ok (.iconst 0, 1) := by decide +kernel
theorem d6_12 : decode prog_44_method_2_code 12 = .ok (.invokespecial 49, 3) := by decide +kernel
theorem d6_15 : decode prog_44_method_2_code 15 = .ok (.return_, 1) := by decide +kernel
theorem ef6 (m : MethodId) (a1 : Addr) (x1 : Int32) (x2 : Int32) (x3 : Int32) (x4 : Addr) (x5 : Addr) : entryFrame m #[(.ref a1), (.int x1), (.int x2), (.int x3), (.ref x4), (.ref x5)] 6 = mkF m 0 #[.val (.ref a1), .val (.int x1), .val (.int x2), .val (.int x3), .val (.ref x4), .val (.ref x5)] [] := by first | (simp [entryFrame, mkF, argsToLocals, Value.category]; done) | rfl
theorem pd1 : parseMethodDescriptor "(IIIILorg/kalends/expressions/WrittenDate$Order;Ljava/time/DayOfWeek;ZLorg/kalends/calendars/Calendar;Z)V" = some ⟨[.int, .int, .int, .int, (.object "org/kalends/expressions/WrittenDate$Order"), (.object "java/time/DayOfWeek"), .boolean, (.object "org/kalends/calendars/Calendar"), .boolean], none⟩ := by decide +kernel
def room6 : Room := { frames := 3, cells := 0, slots := 0, locals := 45 }
set_option maxRecDepth 65536 in
set_option maxHeartbeats 40000000 in
theorem rm6 (l : Launch) (Z : State) (a0 : Array Value) (hw : ∀ d ∈ tables_1, d.before a0 Z = true) (a1 : Addr) (x1 : Int32) (x2 : Int32) (x3 : Int32) (x4 : Addr) (x5 : Addr) (f_year : Int32) (f_month : Int32) (f_day : Int32) (f_length : Int32) (f_mayBeDecade : Int32) (f_namesCalendar : Int32) (h0 : Heap) (n0 : Nat) (Z0 : n0 ≤ h0.size) (E0 : Exa Z h0 a1 "org/kalends/expressions/WrittenDate") (F_year : Fld Z h0 a1 "org/kalends/expressions/WrittenDate" "year" "I" (.int f_year)) (F_month : Fld Z h0 a1 "org/kalends/expressions/WrittenDate" "month" "I" (.int f_month)) (F_day : Fld Z h0 a1 "org/kalends/expressions/WrittenDate" "day" "I" (.int f_day)) (F_length : Fld Z h0 a1 "org/kalends/expressions/WrittenDate" "length" "I" (.int f_length)) (F_order : Fld Z h0 a1 "org/kalends/expressions/WrittenDate" "order" "Lorg/kalends/expressions/WrittenDate$Order;" .null) (F_weekday : Fld Z h0 a1 "org/kalends/expressions/WrittenDate" "weekday" "Ljava/time/DayOfWeek;" .null) (F_mayBeDecade : Fld Z h0 a1 "org/kalends/expressions/WrittenDate" "mayBeDecade" "Z" (.int f_mayBeDecade)) (F_calendar : Fld Z h0 a1 "org/kalends/expressions/WrittenDate" "calendar" "Lorg/kalends/calendars/Calendar;" .null) (F_namesCalendar : Fld Z h0 a1 "org/kalends/expressions/WrittenDate" "namesCalendar" "Z" (.int f_namesCalendar)) (ga : n0 ≤ a1)  :
    oCon l Z (⟨"org/kalends/expressions/WrittenDate", "<init>", "(IIILorg/kalends/expressions/WrittenDate$Order;Lorg/kalends/calendars/Calendar;)V"⟩ : MethodName) prog_44_method_2_code 6 none room6 #[(.ref a1), (.int x1), (.int x2), (.int x3), (.ref x4), (.ref x5)] h0 (fun v h L => v = none ∧ Fr n0 L ∧ Keep h0 h [a1] ∧ Exa Z h a1 "org/kalends/expressions/WrittenDate" ∧ Fld Z h a1 "org/kalends/expressions/WrittenDate" "year" "I" (.int x1) ∧ Fld Z h a1 "org/kalends/expressions/WrittenDate" "month" "I" (.int x2) ∧ Fld Z h a1 "org/kalends/expressions/WrittenDate" "day" "I" (.int x3) ∧ Fld Z h a1 "org/kalends/expressions/WrittenDate" "length" "I" (.int (1 : Int32)) ∧ Fld Z h a1 "org/kalends/expressions/WrittenDate" "order" "Lorg/kalends/expressions/WrittenDate$Order;" (.ref x4) ∧ Fld Z h a1 "org/kalends/expressions/WrittenDate" "weekday" "Ljava/time/DayOfWeek;" .null ∧ Fld Z h a1 "org/kalends/expressions/WrittenDate" "mayBeDecade" "Z" (.int (0 : Int32)) ∧ Fld Z h a1 "org/kalends/expressions/WrittenDate" "calendar" "Lorg/kalends/calendars/Calendar;" (.ref x5) ∧ Fld Z h a1 "org/kalends/expressions/WrittenDate" "namesCalendar" "Z" (.int (0 : Int32))) := by
  refine oCon.of (plainFor_of_name pn_3) ?_
  intro p e s m below meth c s₁ hx hby hml hown hnm hret hlk hZ X0 e0
  rw [ef6 m a1 x1 x2 x3 x4 x5]
  have N0 := Fr.nil n0
  have K0 := Keep.refl h0 [a1]
  refine o_aloadN (pc' := 1) X0 hx (hb hby d6_0) rfl rfl rfl ?_
  refine o_iloadN (pc' := 2) X0 hx (hb hby d6_1) rfl rfl ?_
  refine o_iloadN (pc' := 3) X0 hx (hb hby d6_2) rfl rfl ?_
  refine o_iloadN (pc' := 4) X0 hx (hb hby d6_3) rfl rfl ?_
  refine o_iconst (pc' := 5) (v := (1 : Int32)) X0 hx (hb hby d6_4) rfl rfl ?_
  refine o_aload (pc' := 7) X0 hx (hb hby d6_5) rfl rfl rfl ?_
  refine o_anull (pc' := 8) X0 hx (hb hby d6_7)  rfl ?_
  refine o_iconst (pc' := 9) (v := (0 : Int32)) X0 hx (hb hby d6_8) rfl rfl ?_
  refine o_aload (pc' := 11) X0 hx (hb hby d6_9) rfl rfl rfl ?_
  refine o_iconst (pc' := 12) (v := (0 : Int32)) X0 hx (hb hby d6_11) rfl rfl ?_
  obtain ⟨r1, T1, L1, X1, hq1, st1⟩ := o_callN X0 hx hZ hown rfl (hw _ (List.mem_of_getElem? (i := 48) rfl)) (hw _ (List.mem_of_getElem? (i := 17) rfl)) (hw _ (List.mem_of_getElem? (i := 15) rfl)) (hw _ (List.mem_of_getElem? (i := 18) rfl)) (by decide) (rm3 l Z a0 hw a1 x1 x2 x3 (1 : Int32) x4 (0 : Int32) x5 (0 : Int32) f_year f_month f_day f_length f_mayBeDecade f_namesCalendar h0 n0 Z0 E0 F_year F_month F_day F_length F_order F_weekday F_mayBeDecade F_calendar F_namesCalendar ga (Or.inl rfl) (Or.inl rfl)) e0 (pc' := 15) (Ls := #[.val (.ref a1), .val (.int x1), .val (.int x2), .val (.int x3), .val (.ref x4), .val (.ref x5)]) (by rw [hml]; rfl) [(.int x1), (.int x2), (.int x3), (.int (1 : Int32)), (.ref x4), .null, (.int (0 : Int32)), (.ref x5), (.int (0 : Int32))] [] rfl pd1 rfl rfl 0 (Nat.le_of_eq rfl) (hb hby d6_12) rfl (by decide) (by decide) (by decide) (by decide)
  obtain ⟨rfl, N1, Kc1, E1_, F1_year, F1_month, F1_day, F1_length, F1_order, F1_weekday, F1_mayBeDecade, F1_calendar, F1_namesCalendar⟩ := hq1
  refine oGo.step (f' := (mkF m 15 #[.val (.ref a1), .val (.int x1), .val (.int x2), .val (.int x3), .val (.ref x4), .val (.ref x5)] [])) st1 ?_
  have N1_ := Fr.app N0 N1
  have K2 := Kc1
  have F3 := E0.keep K2
  have Z13 := Nat.le_trans Z0 K2.1
  have K14 := K0.trans K2 (allS (Or.inl (List.mem_of_getElem? (i := 0) rfl)) all0)
  have X1 := o_flat X1 rfl rfl
  refine o_retV X1 hx hret hlk (hb hby d6_15) (by decide) (by decide) ?_
  skip
  exact ⟨rfl, N1_, K14, E1_, F1_year, F1_month, F1_day, F1_length, F1_order, F1_weekday, F1_mayBeDecade, F1_calendar, F1_namesCalendar⟩
theorem d7_0 : decode prog_44_method_17_code 0 = .ok (.aload_n 0, 1) := by decide +kernel
theorem d7_1 : decode prog_44_method_17_code 1 = .ok (.getfield 13, 3) := by decide +kernel
theorem d7_4 : decode prog_44_method_17_code 4 = .ok (.iconst (-1), 1) := by decide +kernel
theorem d7_5 : decode prog_44_method_17_code 5 = .ok (.if_icmp .eq 23, 3) := by decide +kernel
theorem d7_8 : decode prog_44_method_17_code 8 = .ok (.aload_n 0, 1) := by decide +kernel
theorem d7_9 : decode prog_44_method_17_code 9 = .ok (.getfield 16, 3) := by decide +kernel
theorem d7_12 : decode prog_44_method_17_code 12 = .ok (.iconst (-1), 1) := by decide +kernel
theorem d7_13 : decode prog_44_method_17_code 13 = .ok (.if_icmp .ne 11, 3) := by decide +kernel
theorem d7_16 : decode prog_44_method_17_code 16 = .ok (.aload_n 0, 1) := by decide +kernel
theorem d7_17 : decode prog_44_method_17_code 17 = .ok (.getfield 19, 3) := by decide +kernel
theorem d7_20 : decode prog_44_method_17_code 20 = .ok (.iconst 1, 1) := by decide +kernel
theorem d7_21 : decode prog_44_method_17_code 21 = .ok (.if_icmp .ne 7, 3) := by decide +kernel
theorem d7_24 : decode prog_44_method_17_code 24 = .ok (.iconst 1, 1) := by decide +kernel
theorem d7_25 : decode prog_44_method_17_code 25 = .ok (.goto 4, 3) := by decide +kernel
theorem d7_28 : decode prog_44_method_17_code 28 = .ok (.iconst 0, 1) := by decide +kernel
theorem d7_29 : decode prog_44_method_17_code 29 = .ok (.ireturn, 1) := by decide +kernel
theorem ef7 (m : MethodId) (a1 : Addr) : entryFrame m #[(.ref a1)] 1 = mkF m 0 #[.val (.ref a1)] [] := by first | (simp [entryFrame, mkF, argsToLocals, Value.category]; done) | rfl
def spec7 (f_month : Int32) (f_day : Int32) (f_length : Int32) : Int32 := (if f_month = (-1 : Int32) then (0 : Int32) else (if f_day = (-1 : Int32) then (if f_length = (1 : Int32) then (1 : Int32) else (0 : Int32)) else (1 : Int32)))
def room7 : Room := { frames := 0, cells := 0, slots := 0, locals := 0 }
set_option maxRecDepth 65536 in
set_option maxHeartbeats 40000000 in
theorem rm7 (l : Launch) (Z : State) (a0 : Array Value) (hw : ∀ d ∈ tables_1, d.before a0 Z = true) (a1 : Addr) (f_month : Int32) (f_day : Int32) (f_length : Int32) (h0 : Heap) (n0 : Nat) (Z0 : n0 ≤ h0.size) (E0 : Exa Z h0 a1 "org/kalends/expressions/WrittenDate") (F_month : Fld Z h0 a1 "org/kalends/expressions/WrittenDate" "month" "I" (.int f_month)) (F_day : Fld Z h0 a1 "org/kalends/expressions/WrittenDate" "day" "I" (.int f_day)) (F_length : Fld Z h0 a1 "org/kalends/expressions/WrittenDate" "length" "I" (.int f_length))  :
    oCon l Z (⟨"org/kalends/expressions/WrittenDate", "givesMonth", "()Z"⟩ : MethodName) prog_44_method_17_code 1 (some .boolean) room7 #[(.ref a1)] h0 (fun v h L => v = some (.int (spec7 f_month f_day f_length)) ∧ L = [] ∧ h = h0) := by
  refine oCon.of (plainFor_of_name pn_3) ?_
  intro p e s m below meth c s₁ hx hby hml hown hnm hret hlk hZ X0 e0
  rw [ef7 m a1]
  have N0 := Fr.nil n0
  refine o_aloadN (pc' := 1) X0 hx (hb hby d7_0) rfl rfl rfl ?_
  obtain ⟨T1, X1, e1, st1⟩ := getF X0 hx hZ hown (host := "") (Or.inl (hw _ (List.mem_of_getElem? (i := 29) rfl))) Via.refl e0 F_month (g := (mkF m 1 #[.val (.ref a1)] [(.ref a1)])) rfl rfl (hb hby d7_1)
  refine oGo.step (f' := (mkF m 4 #[.val (.ref a1)] [(.int f_month)])) st1 ?_
  refine o_iconst (pc' := 5) (v := (-1 : Int32)) X1 hx (hb hby d7_4) rfl rfl ?_
  have J3 : ∀ (T9 : State) (X9 : Stand p l e room7 s m #[(.ref a1)] below meth c T9 [] (0) (0)) (e9 : T9.heap = h0) (v8 : Int32), v8 = (if f_month = (-1 : Int32) then (0 : Int32) else (if f_day = (-1 : Int32) then (if f_length = (1 : Int32) then (1 : Int32) else (0 : Int32)) else (1 : Int32))) → oGo p e below (oG s (fun v h L => v = some (.int (spec7 f_month f_day f_length)) ∧ L = [] ∧ h = h0) room7.cells room7.slots) T9 (mkF m 29 #[.val (.ref a1)] [(.int v8)]) := by
    intro T9 X9 e9 v8 hv8
    refine o_retZ X9 hx hret hlk (hb hby d7_29) (by rw [hv8]; (repeat' split) <;> (first | rfl | assumption)) (by decide) (by decide) ?_
    subst hv8
    exact ⟨rfl, rfl, e9⟩
  by_cases c2 : f_month = (-1 : Int32)
  · refine o_icmpT (pc' := 28) X1 hx (hb hby d7_5) (XT.ii_eq_t c2) (by decide) (by decide) ?_
    refine o_iconst (pc' := 29) (v := (0 : Int32)) X1 hx (hb hby d7_28) rfl rfl ?_
    exact J3 T1 X1 e1 _ (if_pos c2).symm
  · refine o_icmpF (pc' := 8) X1 hx (hb hby d7_5) (XT.ii_eq_f c2) rfl ?_
    refine o_aloadN (pc' := 9) X1 hx (hb hby d7_8) rfl rfl rfl ?_
    obtain ⟨T4, X4, e4, st4⟩ := getF X1 hx hZ hown (host := "") (Or.inl (hw _ (List.mem_of_getElem? (i := 31) rfl))) Via.refl e1 F_day (g := (mkF m 9 #[.val (.ref a1)] [(.ref a1)])) rfl rfl (hb hby d7_9)
    refine oGo.step (f' := (mkF m 12 #[.val (.ref a1)] [(.int f_day)])) st4 ?_
    refine o_iconst (pc' := 13) (v := (-1 : Int32)) X4 hx (hb hby d7_12) rfl rfl ?_
    by_cases c5 : f_day = (-1 : Int32)
    · refine o_icmpF (pc' := 16) X4 hx (hb hby d7_13) (XT.ii_ne_f c5) rfl ?_
      refine o_aloadN (pc' := 17) X4 hx (hb hby d7_16) rfl rfl rfl ?_
      obtain ⟨T6, X6, e6, st6⟩ := getF X4 hx hZ hown (host := "") (Or.inl (hw _ (List.mem_of_getElem? (i := 33) rfl))) Via.refl e4 F_length (g := (mkF m 17 #[.val (.ref a1)] [(.ref a1)])) rfl rfl (hb hby d7_17)
      refine oGo.step (f' := (mkF m 20 #[.val (.ref a1)] [(.int f_length)])) st6 ?_
      refine o_iconst (pc' := 21) (v := (1 : Int32)) X6 hx (hb hby d7_20) rfl rfl ?_
      by_cases c7 : f_length = (1 : Int32)
      · refine o_icmpF (pc' := 24) X6 hx (hb hby d7_21) (XT.ii_ne_f c7) rfl ?_
        refine o_iconst (pc' := 25) (v := (1 : Int32)) X6 hx (hb hby d7_24) rfl rfl ?_
        refine o_goto (pc' := 29) X6 hx (hb hby d7_25) (by decide) (by decide) ?_
        exact J3 T6 X6 e6 _ ((if_neg c2).trans ((if_pos c5).trans (if_pos c7))).symm
      · refine o_icmpT (pc' := 28) X6 hx (hb hby d7_21) (XT.ii_ne_t c7) (by decide) (by decide) ?_
        refine o_iconst (pc' := 29) (v := (0 : Int32)) X6 hx (hb hby d7_28) rfl rfl ?_
        exact J3 T6 X6 e6 _ ((if_neg c2).trans ((if_pos c5).trans (if_neg c7))).symm
    · refine o_icmpT (pc' := 24) X4 hx (hb hby d7_13) (XT.ii_ne_t c5) (by decide) (by decide) ?_
      refine o_iconst (pc' := 25) (v := (1 : Int32)) X4 hx (hb hby d7_24) rfl rfl ?_
      refine o_goto (pc' := 29) X4 hx (hb hby d7_25) (by decide) (by decide) ?_
      exact J3 T4 X4 e4 _ ((if_neg c2).trans (if_neg c5)).symm
theorem ef_0 (m : MethodId) (x0 : Int32) (x1 : Int32) (x2 : Int32) (x3 : Int32) (x4 : Int32) : entryFrame m #[(.int x0), (.int x1), (.int x2), (.int x3), (.int x4)] maxLocals = mkF m 0 #[.val (.int x0), .val (.int x1), .val (.int x2), .val (.int x3), .val (.int x4), .unset, .unset, .unset, .unset, .unset, .unset, .unset, .unset, .unset, .unset, .unset] [] := by first | (simp [entryFrame, mkF, argsToLocals, Value.category, maxLocals]; done) | rfl
theorem pd2 : parseMethodDescriptor "(I)Lorg/kalends/expressions/WrittenDate$Order;" = some ⟨[.int], (some (.object "org/kalends/expressions/WrittenDate$Order"))⟩ := by decide +kernel
theorem pd3 : parseMethodDescriptor "(I)Lorg/kalends/calendars/Calendar;" = some ⟨[.int], (some (.object "org/kalends/calendars/Calendar"))⟩ := by decide +kernel
theorem pd4 : parseMethodDescriptor "(IIILorg/kalends/expressions/WrittenDate$Order;Lorg/kalends/calendars/Calendar;)V" = some ⟨[.int, .int, .int, (.object "org/kalends/expressions/WrittenDate$Order"), (.object "org/kalends/calendars/Calendar")], none⟩ := by decide +kernel
theorem pd5 : parseMethodDescriptor "()Z" = some ⟨[], (some .boolean)⟩ := by decide +kernel
def spec0 (x0 : Int32) (x1 : Int32) (x2 : Int32) (x3 : Int32) (x4 : Int32) : Int32 := (if (spec7 (if (x4 &&& (1 : Int32)) = 0 then x1 else (-1 : Int32)) (if (x4 &&& (2 : Int32)) = 0 then x2 else (-1 : Int32)) (if (x4 &&& (4 : Int32)) = 0 then x3 else (1 : Int32))) = (if (if (x4 &&& (1 : Int32)) = 0 then x1 else (-1 : Int32)) = (-1 : Int32) then (0 : Int32) else (if (if (x4 &&& (2 : Int32)) = 0 then x2 else (-1 : Int32)) = (-1 : Int32) then (if (if (x4 &&& (4 : Int32)) = 0 then x3 else (1 : Int32)) = (1 : Int32) then (1 : Int32) else (0 : Int32)) else (1 : Int32))) then (if (spec7 (if (x4 &&& (1 : Int32)) = 0 then x1 else (-1 : Int32)) (if (x4 &&& (2 : Int32)) = 0 then x2 else (-1 : Int32)) (1 : Int32)) = (if (if (x4 &&& (1 : Int32)) = 0 then x1 else (-1 : Int32)) = (-1 : Int32) then (0 : Int32) else (1 : Int32)) then (1 : Int32) else (0 : Int32)) else (0 : Int32))
theorem own_law (x0 x1 x2 x3 x4 : Int32) : spec0 x0 x1 x2 x3 x4 = 1 := by
  unfold spec0
  generalize (if (x4 &&& (1 : Int32)) = 0 then x1 else (-1 : Int32)) = m
  generalize (if (x4 &&& (2 : Int32)) = 0 then x2 else (-1 : Int32)) = d
  generalize (if (x4 &&& (4 : Int32)) = 0 then x3 else (1 : Int32)) = len
  have h1 : spec7 m d len = (if m = (-1 : Int32) then (0 : Int32) else (if d = (-1 : Int32) then (if len = (1 : Int32) then (1 : Int32) else (0 : Int32)) else (1 : Int32))) := rfl
  have h2 : spec7 m d (1 : Int32) = (if m = (-1 : Int32) then (0 : Int32) else (1 : Int32)) := by
    unfold spec7
    by_cases q : m = (-1 : Int32)
    · rw [if_pos q, if_pos q]
    · rw [if_neg q, if_neg q]
      by_cases r : d = (-1 : Int32)
      · rw [if_pos r]; rfl
      · rw [if_neg r]
  rw [if_pos h1, if_pos h2]
set_option maxRecDepth 65536 in
set_option maxHeartbeats 40000000 in
theorem rm0 (l : Launch) (Z : State) (a0 : Array Value) (hw : ∀ d ∈ tables_1, d.before a0 Z = true) (x0 : Int32) (x1 : Int32) (x2 : Int32) (x3 : Int32) (x4 : Int32) (r_YEAR_FIRST r_MONTH_FIRST r_OTHER r_GREGORIAN r_JULIAN r_JULIAN_ANNUNCIATION r_JULIAN_NATAL r_FRENCH_REPUBLICAN r_HIJRI : Addr) (h0 : Heap) (n0 : Nat) (Z0 : n0 ≤ h0.size) (O0 : Old Z n0 h0) (S_YEAR_FIRST : Sta Z Z.heap "org/kalends/expressions/WrittenDate$Order" "YEAR_FIRST" "Lorg/kalends/expressions/WrittenDate$Order;" (.ref r_YEAR_FIRST)) (S_MONTH_FIRST : Sta Z Z.heap "org/kalends/expressions/WrittenDate$Order" "MONTH_FIRST" "Lorg/kalends/expressions/WrittenDate$Order;" (.ref r_MONTH_FIRST)) (S_OTHER : Sta Z Z.heap "org/kalends/expressions/WrittenDate$Order" "OTHER" "Lorg/kalends/expressions/WrittenDate$Order;" (.ref r_OTHER)) (S_GREGORIAN : Sta Z Z.heap "org/kalends/calendars/Calendar" "GREGORIAN" "Lorg/kalends/calendars/Calendar;" (.ref r_GREGORIAN)) (S_JULIAN : Sta Z Z.heap "org/kalends/calendars/Calendar" "JULIAN" "Lorg/kalends/calendars/Calendar;" (.ref r_JULIAN)) (S_JULIAN_ANNUNCIATION : Sta Z Z.heap "org/kalends/calendars/Calendar" "JULIAN_ANNUNCIATION" "Lorg/kalends/calendars/Calendar;" (.ref r_JULIAN_ANNUNCIATION)) (S_JULIAN_NATAL : Sta Z Z.heap "org/kalends/calendars/Calendar" "JULIAN_NATAL" "Lorg/kalends/calendars/Calendar;" (.ref r_JULIAN_NATAL)) (S_FRENCH_REPUBLICAN : Sta Z Z.heap "org/kalends/calendars/Calendar" "FRENCH_REPUBLICAN" "Lorg/kalends/calendars/Calendar;" (.ref r_FRENCH_REPUBLICAN)) (S_HIJRI : Sta Z Z.heap "org/kalends/calendars/Calendar" "HIJRI" "Lorg/kalends/calendars/Calendar;" (.ref r_HIJRI)) :
    oCon l Z x code maxLocals ret room_1 #[(.int x0), (.int x1), (.int x2), (.int x3), (.int x4)] h0 (fun v h L => v = some (.int 1) ∧ Fr n0 L) := by
  refine oCon.of (plainFor_of_name pn_1) ?_
  intro p e s m below meth c s₁ hx hby hml hown hnm hret hlk hZ X0 e0
  replace hml : c.maxLocals = 16 := hml
  rw [ef_0 m x0 x1 x2 x3 x4]
  have N0 := Fr.nil n0
  refine o_iload (pc' := 2) X0 hx (hb hby at_0) rfl rfl ?_
  refine o_iconst (pc' := 3) (v := (1 : Int32)) X0 hx (hb hby at_2) rfl rfl ?_
  refine o_iand (pc' := 4) X0 hx (hb hby at_3)  rfl ?_
  have J2 : ∀ (v3 : Int32), v3 = (if (x4 &&& (1 : Int32)) = 0 then x1 else (-1 : Int32)) → oGo p e below (oG s (fun v h L => v = some (.int 1) ∧ Fr n0 L) room_1.cells room_1.slots) s₁ (mkF m 12 #[.val (.int x0), .val (.int x1), .val (.int x2), .val (.int x3), .val (.int x4), .unset, .unset, .unset, .unset, .unset, .unset, .unset, .unset, .unset, .unset, .unset] [(.int v3)]) := by
    intro v3 hv3
    refine o_istore (pc' := 14) (l' := #[.val (.int x0), .val (.int x1), .val (.int x2), .val (.int x3), .val (.int x4), .val (.int v3), .unset, .unset, .unset, .unset, .unset, .unset, .unset, .unset, .unset, .unset]) X0 hx (hb hby at_12) rfl rfl ?_
    refine o_iload (pc' := 16) X0 hx (hb hby at_14) rfl rfl ?_
    refine o_iconst (pc' := 17) (v := (2 : Int32)) X0 hx (hb hby at_16) rfl rfl ?_
    refine o_iand (pc' := 18) X0 hx (hb hby at_17)  rfl ?_
    have J5 : ∀ (v6 : Int32), v6 = (if (x4 &&& (2 : Int32)) = 0 then x2 else (-1 : Int32)) → oGo p e below (oG s (fun v h L => v = some (.int 1) ∧ Fr n0 L) room_1.cells room_1.slots) s₁ (mkF m 26 #[.val (.int x0), .val (.int x1), .val (.int x2), .val (.int x3), .val (.int x4), .val (.int v3), .unset, .unset, .unset, .unset, .unset, .unset, .unset, .unset, .unset, .unset] [(.int v6)]) := by
      intro v6 hv6
      refine o_istore (pc' := 28) (l' := #[.val (.int x0), .val (.int x1), .val (.int x2), .val (.int x3), .val (.int x4), .val (.int v3), .val (.int v6), .unset, .unset, .unset, .unset, .unset, .unset, .unset, .unset, .unset]) X0 hx (hb hby at_26) rfl rfl ?_
      refine o_iload (pc' := 30) X0 hx (hb hby at_28) rfl rfl ?_
      refine o_iconst (pc' := 31) (v := (4 : Int32)) X0 hx (hb hby at_30) rfl rfl ?_
      refine o_iand (pc' := 32) X0 hx (hb hby at_31)  rfl ?_
      have J8 : ∀ (v9 : Int32), v9 = (if (x4 &&& (4 : Int32)) = 0 then x3 else (1 : Int32)) → oGo p e below (oG s (fun v h L => v = some (.int 1) ∧ Fr n0 L) room_1.cells room_1.slots) s₁ (mkF m 40 #[.val (.int x0), .val (.int x1), .val (.int x2), .val (.int x3), .val (.int x4), .val (.int v3), .val (.int v6), .unset, .unset, .unset, .unset, .unset, .unset, .unset, .unset, .unset] [(.int v9)]) := by
        intro v9 hv9
        refine o_istore (pc' := 42) (l' := #[.val (.int x0), .val (.int x1), .val (.int x2), .val (.int x3), .val (.int x4), .val (.int v3), .val (.int v6), .val (.int v9), .unset, .unset, .unset, .unset, .unset, .unset, .unset, .unset]) X0 hx (hb hby at_40) rfl rfl ?_
        refine o_iload (pc' := 44) X0 hx (hb hby at_42) rfl rfl ?_
        refine o_iconst (pc' := 45) (v := (3 : Int32)) X0 hx (hb hby at_44) rfl rfl ?_
        refine o_iushr (pc' := 46) X0 hx (hb hby at_45)  rfl ?_
        refine o_iconst (pc' := 47) (v := (3 : Int32)) X0 hx (hb hby at_46) rfl rfl ?_
        refine o_iand (pc' := 48) X0 hx (hb hby at_47)  rfl ?_
        obtain ⟨r10, T10, L10, X10, hq10, st10⟩ := o_callS X0 hx hZ hown (hw _ (List.mem_of_getElem? (i := 0) rfl)) (hw _ (List.mem_of_getElem? (i := 1) rfl)) (hw _ (List.mem_of_getElem? (i := 2) rfl)) (hw _ (List.mem_of_getElem? (i := 3) rfl)) (by decide) (rm1 l Z a0 hw ((XT.ushr x4 (3 : Int32)) &&& (3 : Int32)) r_YEAR_FIRST r_MONTH_FIRST r_OTHER h0 n0 Z0 O0 S_YEAR_FIRST S_MONTH_FIRST S_OTHER) e0 (pc' := 51) (Ls := #[.val (.int x0), .val (.int x1), .val (.int x2), .val (.int x3), .val (.int x4), .val (.int v3), .val (.int v6), .val (.int v9), .unset, .unset, .unset, .unset, .unset, .unset, .unset, .unset]) (by rw [hml]; rfl) [(.int ((XT.ushr x4 (3 : Int32)) &&& (3 : Int32)))] [] rfl pd2 rfl rfl 0 (Nat.le_of_eq rfl) (hb hby at_48) rfl (by decide) (by decide) (by decide) (by decide)
        obtain ⟨rfl, rfl, Kc10⟩ := hq10
        refine oGo.step (f' := (mkF m 51 #[.val (.int x0), .val (.int x1), .val (.int x2), .val (.int x3), .val (.int x4), .val (.int v3), .val (.int v6), .val (.int v9), .unset, .unset, .unset, .unset, .unset, .unset, .unset, .unset] [(.ref (spec1 ((XT.ushr x4 (3 : Int32)) &&& (3 : Int32)) r_YEAR_FIRST r_MONTH_FIRST r_OTHER))])) st10 ?_
        have e10 : T10.heap = h0 := Kc10
        have X10 := o_same X10 rfl rfl
        refine o_astore (pc' := 53) (l' := #[.val (.int x0), .val (.int x1), .val (.int x2), .val (.int x3), .val (.int x4), .val (.int v3), .val (.int v6), .val (.int v9), .val (.ref (spec1 ((XT.ushr x4 (3 : Int32)) &&& (3 : Int32)) r_YEAR_FIRST r_MONTH_FIRST r_OTHER)), .unset, .unset, .unset, .unset, .unset, .unset, .unset]) X10 hx (hb hby at_51) rfl rfl rfl ?_
        refine o_iload (pc' := 55) X10 hx (hb hby at_53) rfl rfl ?_
        refine o_iconst (pc' := 56) (v := (5 : Int32)) X10 hx (hb hby at_55) rfl rfl ?_
        refine o_iushr (pc' := 57) X10 hx (hb hby at_56)  rfl ?_
        refine o_bipush (pc' := 59) (v := (7 : Int32)) X10 hx (hb hby at_57) rfl rfl ?_
        refine o_iand (pc' := 60) X10 hx (hb hby at_59)  rfl ?_
        obtain ⟨r11, T11, L11, X11, hq11, st11⟩ := o_callS X10 hx hZ hown (hw _ (List.mem_of_getElem? (i := 7) rfl)) (hw _ (List.mem_of_getElem? (i := 8) rfl)) (hw _ (List.mem_of_getElem? (i := 2) rfl)) (hw _ (List.mem_of_getElem? (i := 9) rfl)) (by decide) (rm2 l Z a0 hw ((XT.ushr x4 (5 : Int32)) &&& (7 : Int32)) r_GREGORIAN r_JULIAN r_JULIAN_ANNUNCIATION r_JULIAN_NATAL r_FRENCH_REPUBLICAN r_HIJRI h0 n0 Z0 O0 S_GREGORIAN S_JULIAN S_JULIAN_ANNUNCIATION S_JULIAN_NATAL S_FRENCH_REPUBLICAN S_HIJRI) e10 (pc' := 63) (Ls := #[.val (.int x0), .val (.int x1), .val (.int x2), .val (.int x3), .val (.int x4), .val (.int v3), .val (.int v6), .val (.int v9), .val (.ref (spec1 ((XT.ushr x4 (3 : Int32)) &&& (3 : Int32)) r_YEAR_FIRST r_MONTH_FIRST r_OTHER)), .unset, .unset, .unset, .unset, .unset, .unset, .unset]) (by rw [hml]; rfl) [(.int ((XT.ushr x4 (5 : Int32)) &&& (7 : Int32)))] [] rfl pd3 rfl rfl 0 (Nat.le_of_eq rfl) (hb hby at_60) rfl (by decide) (by decide) (by decide) (by decide)
        obtain ⟨rfl, rfl, Kc11⟩ := hq11
        refine oGo.step (f' := (mkF m 63 #[.val (.int x0), .val (.int x1), .val (.int x2), .val (.int x3), .val (.int x4), .val (.int v3), .val (.int v6), .val (.int v9), .val (.ref (spec1 ((XT.ushr x4 (3 : Int32)) &&& (3 : Int32)) r_YEAR_FIRST r_MONTH_FIRST r_OTHER)), .unset, .unset, .unset, .unset, .unset, .unset, .unset] [(.ref (spec2 ((XT.ushr x4 (5 : Int32)) &&& (7 : Int32)) r_GREGORIAN r_JULIAN r_JULIAN_ANNUNCIATION r_JULIAN_NATAL r_FRENCH_REPUBLICAN r_HIJRI))])) st11 ?_
        have e11 : T11.heap = h0 := Kc11
        have X11 := o_same X11 rfl rfl
        refine o_astore (pc' := 65) (l' := #[.val (.int x0), .val (.int x1), .val (.int x2), .val (.int x3), .val (.int x4), .val (.int v3), .val (.int v6), .val (.int v9), .val (.ref (spec1 ((XT.ushr x4 (3 : Int32)) &&& (3 : Int32)) r_YEAR_FIRST r_MONTH_FIRST r_OTHER)), .val (.ref (spec2 ((XT.ushr x4 (5 : Int32)) &&& (7 : Int32)) r_GREGORIAN r_JULIAN r_JULIAN_ANNUNCIATION r_JULIAN_NATAL r_FRENCH_REPUBLICAN r_HIJRI)), .unset, .unset, .unset, .unset, .unset, .unset]) X11 hx (hb hby at_63) rfl rfl rfl ?_
        refine o_iload (pc' := 67) X11 hx (hb hby at_65) rfl rfl ?_
        refine o_bipush (pc' := 69) (v := (8 : Int32)) X11 hx (hb hby at_67) rfl rfl ?_
        refine o_iushr (pc' := 70) X11 hx (hb hby at_69)  rfl ?_
        refine o_iconst (pc' := 71) (v := (1 : Int32)) X11 hx (hb hby at_70) rfl rfl ?_
        refine o_iand (pc' := 72) X11 hx (hb hby at_71)  rfl ?_
        have J13 : ∀ (v14 : Int32), v14 = (if ((XT.ushr x4 (8 : Int32)) &&& (1 : Int32)) = 0 then (0 : Int32) else (1 : Int32)) → oGo p e below (oG s (fun v h L => v = some (.int 1) ∧ Fr n0 L) room_1.cells room_1.slots) T11 (mkF m 80 #[.val (.int x0), .val (.int x1), .val (.int x2), .val (.int x3), .val (.int x4), .val (.int v3), .val (.int v6), .val (.int v9), .val (.ref (spec1 ((XT.ushr x4 (3 : Int32)) &&& (3 : Int32)) r_YEAR_FIRST r_MONTH_FIRST r_OTHER)), .val (.ref (spec2 ((XT.ushr x4 (5 : Int32)) &&& (7 : Int32)) r_GREGORIAN r_JULIAN r_JULIAN_ANNUNCIATION r_JULIAN_NATAL r_FRENCH_REPUBLICAN r_HIJRI)), .unset, .unset, .unset, .unset, .unset, .unset] [(.int v14)]) := by
          intro v14 hv14
          refine o_istore (pc' := 82) (l' := #[.val (.int x0), .val (.int x1), .val (.int x2), .val (.int x3), .val (.int x4), .val (.int v3), .val (.int v6), .val (.int v9), .val (.ref (spec1 ((XT.ushr x4 (3 : Int32)) &&& (3 : Int32)) r_YEAR_FIRST r_MONTH_FIRST r_OTHER)), .val (.ref (spec2 ((XT.ushr x4 (5 : Int32)) &&& (7 : Int32)) r_GREGORIAN r_JULIAN r_JULIAN_ANNUNCIATION r_JULIAN_NATAL r_FRENCH_REPUBLICAN r_HIJRI)), .val (.int v14), .unset, .unset, .unset, .unset, .unset]) X11 hx (hb hby at_80) rfl rfl ?_
          refine o_iload (pc' := 84) X11 hx (hb hby at_82) rfl rfl ?_
          refine o_bipush (pc' := 86) (v := (9 : Int32)) X11 hx (hb hby at_84) rfl rfl ?_
          refine o_iushr (pc' := 87) X11 hx (hb hby at_86)  rfl ?_
          refine o_iconst (pc' := 88) (v := (1 : Int32)) X11 hx (hb hby at_87) rfl rfl ?_
          refine o_iand (pc' := 89) X11 hx (hb hby at_88)  rfl ?_
          have J16 : ∀ (v17 : Int32), v17 = (if ((XT.ushr x4 (9 : Int32)) &&& (1 : Int32)) = 0 then (0 : Int32) else (1 : Int32)) → oGo p e below (oG s (fun v h L => v = some (.int 1) ∧ Fr n0 L) room_1.cells room_1.slots) T11 (mkF m 97 #[.val (.int x0), .val (.int x1), .val (.int x2), .val (.int x3), .val (.int x4), .val (.int v3), .val (.int v6), .val (.int v9), .val (.ref (spec1 ((XT.ushr x4 (3 : Int32)) &&& (3 : Int32)) r_YEAR_FIRST r_MONTH_FIRST r_OTHER)), .val (.ref (spec2 ((XT.ushr x4 (5 : Int32)) &&& (7 : Int32)) r_GREGORIAN r_JULIAN r_JULIAN_ANNUNCIATION r_JULIAN_NATAL r_FRENCH_REPUBLICAN r_HIJRI)), .val (.int v14), .unset, .unset, .unset, .unset, .unset] [(.int v17)]) := by
            intro v17 hv17
            refine o_istore (pc' := 99) (l' := #[.val (.int x0), .val (.int x1), .val (.int x2), .val (.int x3), .val (.int x4), .val (.int v3), .val (.int v6), .val (.int v9), .val (.ref (spec1 ((XT.ushr x4 (3 : Int32)) &&& (3 : Int32)) r_YEAR_FIRST r_MONTH_FIRST r_OTHER)), .val (.ref (spec2 ((XT.ushr x4 (5 : Int32)) &&& (7 : Int32)) r_GREGORIAN r_JULIAN r_JULIAN_ANNUNCIATION r_JULIAN_NATAL r_FRENCH_REPUBLICAN r_HIJRI)), .val (.int v14), .val (.int v17), .unset, .unset, .unset, .unset]) X11 hx (hb hby at_97) rfl rfl ?_
            obtain ⟨T18, h18_, X18, e18, E18, A18, D18, -, st18⟩ := newO X11 hx hZ hown (hw _ (List.mem_of_getElem? (i := 13) rfl)) (hw _ (List.mem_of_getElem? (i := 14) rfl)) (hw _ (List.mem_of_getElem? (i := 15) rfl)) e11 (g := (mkF m 99 #[.val (.int x0), .val (.int x1), .val (.int x2), .val (.int x3), .val (.int x4), .val (.int v3), .val (.int v6), .val (.int v9), .val (.ref (spec1 ((XT.ushr x4 (3 : Int32)) &&& (3 : Int32)) r_YEAR_FIRST r_MONTH_FIRST r_OTHER)), .val (.ref (spec2 ((XT.ushr x4 (5 : Int32)) &&& (7 : Int32)) r_GREGORIAN r_JULIAN r_JULIAN_ANNUNCIATION r_JULIAN_NATAL r_FRENCH_REPUBLICAN r_HIJRI)), .val (.int v14), .val (.int v17), .unset, .unset, .unset, .unset] [])) rfl (hb hby at_99) (by decide) (by decide)
            obtain ⟨b18, g18⟩ : ∃ z, z = h0.size := ⟨_, rfl⟩
            rw [← g18] at A18 D18 st18
            have ge19 : n0 ≤ b18 := by rw [g18]; exact Z0
            have K20 := (Keep.refl h0 []).ext E18
            have F30 := O0.keep K20 all0
            have Z31 := Nat.le_trans Z0 K20.1
            have F32 : Fld Z h18_ b18 "org/kalends/expressions/WrittenDate" "year" "I" (.int (0 : Int32)) := D18 (Or.inr (hw _ (List.mem_of_getElem? (i := 28) rfl))) (ty := .int) (by decide)
            have F33 : Fld Z h18_ b18 "org/kalends/expressions/WrittenDate" "month" "I" (.int (0 : Int32)) := D18 (Or.inr (hw _ (List.mem_of_getElem? (i := 30) rfl))) (ty := .int) (by decide)
            have F34 : Fld Z h18_ b18 "org/kalends/expressions/WrittenDate" "day" "I" (.int (0 : Int32)) := D18 (Or.inr (hw _ (List.mem_of_getElem? (i := 32) rfl))) (ty := .int) (by decide)
            have F35 : Fld Z h18_ b18 "org/kalends/expressions/WrittenDate" "length" "I" (.int (0 : Int32)) := D18 (Or.inr (hw _ (List.mem_of_getElem? (i := 34) rfl))) (ty := .int) (by decide)
            have F36 : Fld Z h18_ b18 "org/kalends/expressions/WrittenDate" "order" "Lorg/kalends/expressions/WrittenDate$Order;" .null := D18 (Or.inr (hw _ (List.mem_of_getElem? (i := 36) rfl))) (ty := (.object "org/kalends/expressions/WrittenDate$Order")) (by decide)
            have F37 : Fld Z h18_ b18 "org/kalends/expressions/WrittenDate" "weekday" "Ljava/time/DayOfWeek;" .null := D18 (Or.inr (hw _ (List.mem_of_getElem? (i := 38) rfl))) (ty := (.object "java/time/DayOfWeek")) (by decide)
            have F38 : Fld Z h18_ b18 "org/kalends/expressions/WrittenDate" "mayBeDecade" "Z" (.int (0 : Int32)) := D18 (Or.inr (hw _ (List.mem_of_getElem? (i := 40) rfl))) (ty := .boolean) (by decide)
            have F39 : Fld Z h18_ b18 "org/kalends/expressions/WrittenDate" "calendar" "Lorg/kalends/calendars/Calendar;" .null := D18 (Or.inr (hw _ (List.mem_of_getElem? (i := 42) rfl))) (ty := (.object "org/kalends/calendars/Calendar")) (by decide)
            have F40 : Fld Z h18_ b18 "org/kalends/expressions/WrittenDate" "namesCalendar" "Z" (.int (0 : Int32)) := D18 (Or.inr (hw _ (List.mem_of_getElem? (i := 44) rfl))) (ty := .boolean) (by decide)
            refine oGo.step (f' := (mkF m 102 #[.val (.int x0), .val (.int x1), .val (.int x2), .val (.int x3), .val (.int x4), .val (.int v3), .val (.int v6), .val (.int v9), .val (.ref (spec1 ((XT.ushr x4 (3 : Int32)) &&& (3 : Int32)) r_YEAR_FIRST r_MONTH_FIRST r_OTHER)), .val (.ref (spec2 ((XT.ushr x4 (5 : Int32)) &&& (7 : Int32)) r_GREGORIAN r_JULIAN r_JULIAN_ANNUNCIATION r_JULIAN_NATAL r_FRENCH_REPUBLICAN r_HIJRI)), .val (.int v14), .val (.int v17), .unset, .unset, .unset, .unset] [(.ref b18)])) st18 ?_
            refine o_dup (pc' := 103) X18 hx (hb hby at_102) rfl rfl ?_
            refine o_iloadN (pc' := 104) X18 hx (hb hby at_103) rfl rfl ?_
            refine o_iload (pc' := 106) X18 hx (hb hby at_104) rfl rfl ?_
            refine o_iload (pc' := 108) X18 hx (hb hby at_106) rfl rfl ?_
            refine o_iload (pc' := 110) X18 hx (hb hby at_108) rfl rfl ?_
            refine o_aload (pc' := 112) X18 hx (hb hby at_110) rfl rfl rfl ?_
            refine o_anull (pc' := 113) X18 hx (hb hby at_112)  rfl ?_
            refine o_iload (pc' := 115) X18 hx (hb hby at_113) rfl rfl ?_
            refine o_aload (pc' := 117) X18 hx (hb hby at_115) rfl rfl rfl ?_
            refine o_iload (pc' := 119) X18 hx (hb hby at_117) rfl rfl ?_
            obtain ⟨r41, T41, L41, X41, hq41, st41⟩ := o_callN X18 hx hZ hown rfl (hw _ (List.mem_of_getElem? (i := 16) rfl)) (hw _ (List.mem_of_getElem? (i := 17) rfl)) (hw _ (List.mem_of_getElem? (i := 15) rfl)) (hw _ (List.mem_of_getElem? (i := 18) rfl)) (by decide) (rm3 l Z a0 hw b18 x0 v3 v6 v9 (spec1 ((XT.ushr x4 (3 : Int32)) &&& (3 : Int32)) r_YEAR_FIRST r_MONTH_FIRST r_OTHER) v14 (spec2 ((XT.ushr x4 (5 : Int32)) &&& (7 : Int32)) r_GREGORIAN r_JULIAN r_JULIAN_ANNUNCIATION r_JULIAN_NATAL r_FRENCH_REPUBLICAN r_HIJRI) v17 (0 : Int32) (0 : Int32) (0 : Int32) (0 : Int32) (0 : Int32) (0 : Int32) h18_ n0 Z31 A18 F32 F33 F34 F35 F36 F37 F38 F39 F40 ge19 (by rw [hv14]; split <;> simp) (by rw [hv17]; split <;> simp)) e18 (pc' := 122) (Ls := #[.val (.int x0), .val (.int x1), .val (.int x2), .val (.int x3), .val (.int x4), .val (.int v3), .val (.int v6), .val (.int v9), .val (.ref (spec1 ((XT.ushr x4 (3 : Int32)) &&& (3 : Int32)) r_YEAR_FIRST r_MONTH_FIRST r_OTHER)), .val (.ref (spec2 ((XT.ushr x4 (5 : Int32)) &&& (7 : Int32)) r_GREGORIAN r_JULIAN r_JULIAN_ANNUNCIATION r_JULIAN_NATAL r_FRENCH_REPUBLICAN r_HIJRI)), .val (.int v14), .val (.int v17), .unset, .unset, .unset, .unset]) (by rw [hml]; rfl) [(.int x0), (.int v3), (.int v6), (.int v9), (.ref (spec1 ((XT.ushr x4 (3 : Int32)) &&& (3 : Int32)) r_YEAR_FIRST r_MONTH_FIRST r_OTHER)), .null, (.int v14), (.ref (spec2 ((XT.ushr x4 (5 : Int32)) &&& (7 : Int32)) r_GREGORIAN r_JULIAN r_JULIAN_ANNUNCIATION r_JULIAN_NATAL r_FRENCH_REPUBLICAN r_HIJRI)), (.int v17)] [(.ref b18)] rfl pd1 rfl rfl 1 (Nat.le_of_eq rfl) (hb hby at_119) rfl (by decide) (by decide) (by decide) (by decide)
            obtain ⟨rfl, N41, Kc41, E41_, F41_year, F41_month, F41_day, F41_length, F41_order, F41_weekday, F41_mayBeDecade, F41_calendar, F41_namesCalendar⟩ := hq41
            refine oGo.step (f' := (mkF m 122 #[.val (.int x0), .val (.int x1), .val (.int x2), .val (.int x3), .val (.int x4), .val (.int v3), .val (.int v6), .val (.int v9), .val (.ref (spec1 ((XT.ushr x4 (3 : Int32)) &&& (3 : Int32)) r_YEAR_FIRST r_MONTH_FIRST r_OTHER)), .val (.ref (spec2 ((XT.ushr x4 (5 : Int32)) &&& (7 : Int32)) r_GREGORIAN r_JULIAN r_JULIAN_ANNUNCIATION r_JULIAN_NATAL r_FRENCH_REPUBLICAN r_HIJRI)), .val (.int v14), .val (.int v17), .unset, .unset, .unset, .unset] [(.ref b18)])) st41 ?_
            have N41_ := Fr.app N0 N41
            have K42 := Kc41
            have F52 := F30.keep K42 (allS ge19 all0)
            have F53 := A18.keep K42
            have Z63 := Nat.le_trans Z31 K42.1
            have X41 := o_flat X41 rfl rfl
            refine o_astore (pc' := 124) (l' := #[.val (.int x0), .val (.int x1), .val (.int x2), .val (.int x3), .val (.int x4), .val (.int v3), .val (.int v6), .val (.int v9), .val (.ref (spec1 ((XT.ushr x4 (3 : Int32)) &&& (3 : Int32)) r_YEAR_FIRST r_MONTH_FIRST r_OTHER)), .val (.ref (spec2 ((XT.ushr x4 (5 : Int32)) &&& (7 : Int32)) r_GREGORIAN r_JULIAN r_JULIAN_ANNUNCIATION r_JULIAN_NATAL r_FRENCH_REPUBLICAN r_HIJRI)), .val (.int v14), .val (.int v17), .val (.ref b18), .unset, .unset, .unset]) X41 hx (hb hby at_122) rfl rfl rfl ?_
            obtain ⟨T64, h64_, X64, e64, E64, A64, D64, -, st64⟩ := newO X41 hx hZ hown (hw _ (List.mem_of_getElem? (i := 13) rfl)) (hw _ (List.mem_of_getElem? (i := 14) rfl)) (hw _ (List.mem_of_getElem? (i := 15) rfl)) (rfl : T41.heap = _) (g := (mkF m 124 #[.val (.int x0), .val (.int x1), .val (.int x2), .val (.int x3), .val (.int x4), .val (.int v3), .val (.int v6), .val (.int v9), .val (.ref (spec1 ((XT.ushr x4 (3 : Int32)) &&& (3 : Int32)) r_YEAR_FIRST r_MONTH_FIRST r_OTHER)), .val (.ref (spec2 ((XT.ushr x4 (5 : Int32)) &&& (7 : Int32)) r_GREGORIAN r_JULIAN r_JULIAN_ANNUNCIATION r_JULIAN_NATAL r_FRENCH_REPUBLICAN r_HIJRI)), .val (.int v14), .val (.int v17), .val (.ref b18), .unset, .unset, .unset] [])) rfl (hb hby at_124) (by decide) (by decide)
            obtain ⟨b64, g64⟩ : ∃ z, z = T41.heap.size := ⟨_, rfl⟩
            rw [← g64] at A64 D64 st64
            have ne65 : b18 ≠ b64 := by rw [g64]; exact Nat.ne_of_lt E41_.lt
            have ge66 : n0 ≤ b64 := by rw [g64]; exact Z63
            have K67 := (Keep.refl T41.heap []).ext E64
            have F77 := F52.keep K67 all0
            have F78 := E41_.keep K67
            have F79 := F41_year.keep K67 nin0
            have F80 := F41_month.keep K67 nin0
            have F81 := F41_day.keep K67 nin0
            have F82 := F41_length.keep K67 nin0
            have F83 := F41_order.keep K67 nin0
            have F84 := F41_weekday.keep K67 nin0
            have F85 := F41_mayBeDecade.keep K67 nin0
            have F86 := F41_calendar.keep K67 nin0
            have F87 := F41_namesCalendar.keep K67 nin0
            have Z88 := Nat.le_trans Z63 K67.1
            have F89 : Fld Z h64_ b64 "org/kalends/expressions/WrittenDate" "year" "I" (.int (0 : Int32)) := D64 (Or.inr (hw _ (List.mem_of_getElem? (i := 28) rfl))) (ty := .int) (by decide)
            have F90 : Fld Z h64_ b64 "org/kalends/expressions/WrittenDate" "month" "I" (.int (0 : Int32)) := D64 (Or.inr (hw _ (List.mem_of_getElem? (i := 30) rfl))) (ty := .int) (by decide)
            have F91 : Fld Z h64_ b64 "org/kalends/expressions/WrittenDate" "day" "I" (.int (0 : Int32)) := D64 (Or.inr (hw _ (List.mem_of_getElem? (i := 32) rfl))) (ty := .int) (by decide)
            have F92 : Fld Z h64_ b64 "org/kalends/expressions/WrittenDate" "length" "I" (.int (0 : Int32)) := D64 (Or.inr (hw _ (List.mem_of_getElem? (i := 34) rfl))) (ty := .int) (by decide)
            have F93 : Fld Z h64_ b64 "org/kalends/expressions/WrittenDate" "order" "Lorg/kalends/expressions/WrittenDate$Order;" .null := D64 (Or.inr (hw _ (List.mem_of_getElem? (i := 36) rfl))) (ty := (.object "org/kalends/expressions/WrittenDate$Order")) (by decide)
            have F94 : Fld Z h64_ b64 "org/kalends/expressions/WrittenDate" "weekday" "Ljava/time/DayOfWeek;" .null := D64 (Or.inr (hw _ (List.mem_of_getElem? (i := 38) rfl))) (ty := (.object "java/time/DayOfWeek")) (by decide)
            have F95 : Fld Z h64_ b64 "org/kalends/expressions/WrittenDate" "mayBeDecade" "Z" (.int (0 : Int32)) := D64 (Or.inr (hw _ (List.mem_of_getElem? (i := 40) rfl))) (ty := .boolean) (by decide)
            have F96 : Fld Z h64_ b64 "org/kalends/expressions/WrittenDate" "calendar" "Lorg/kalends/calendars/Calendar;" .null := D64 (Or.inr (hw _ (List.mem_of_getElem? (i := 42) rfl))) (ty := (.object "org/kalends/calendars/Calendar")) (by decide)
            have F97 : Fld Z h64_ b64 "org/kalends/expressions/WrittenDate" "namesCalendar" "Z" (.int (0 : Int32)) := D64 (Or.inr (hw _ (List.mem_of_getElem? (i := 44) rfl))) (ty := .boolean) (by decide)
            refine oGo.step (f' := (mkF m 127 #[.val (.int x0), .val (.int x1), .val (.int x2), .val (.int x3), .val (.int x4), .val (.int v3), .val (.int v6), .val (.int v9), .val (.ref (spec1 ((XT.ushr x4 (3 : Int32)) &&& (3 : Int32)) r_YEAR_FIRST r_MONTH_FIRST r_OTHER)), .val (.ref (spec2 ((XT.ushr x4 (5 : Int32)) &&& (7 : Int32)) r_GREGORIAN r_JULIAN r_JULIAN_ANNUNCIATION r_JULIAN_NATAL r_FRENCH_REPUBLICAN r_HIJRI)), .val (.int v14), .val (.int v17), .val (.ref b18), .unset, .unset, .unset] [(.ref b64)])) st64 ?_
            refine o_dup (pc' := 128) X64 hx (hb hby at_127) rfl rfl ?_
            refine o_iloadN (pc' := 129) X64 hx (hb hby at_128) rfl rfl ?_
            refine o_iload (pc' := 131) X64 hx (hb hby at_129) rfl rfl ?_
            refine o_iload (pc' := 133) X64 hx (hb hby at_131) rfl rfl ?_
            refine o_aload (pc' := 135) X64 hx (hb hby at_133) rfl rfl rfl ?_
            refine o_aload (pc' := 137) X64 hx (hb hby at_135) rfl rfl rfl ?_
            obtain ⟨r98, T98, L98, X98, hq98, st98⟩ := o_callN X64 hx hZ hown rfl (hw _ (List.mem_of_getElem? (i := 45) rfl)) (hw _ (List.mem_of_getElem? (i := 46) rfl)) (hw _ (List.mem_of_getElem? (i := 15) rfl)) (hw _ (List.mem_of_getElem? (i := 47) rfl)) (by decide) (rm6 l Z a0 hw b64 x0 v3 v6 (spec1 ((XT.ushr x4 (3 : Int32)) &&& (3 : Int32)) r_YEAR_FIRST r_MONTH_FIRST r_OTHER) (spec2 ((XT.ushr x4 (5 : Int32)) &&& (7 : Int32)) r_GREGORIAN r_JULIAN r_JULIAN_ANNUNCIATION r_JULIAN_NATAL r_FRENCH_REPUBLICAN r_HIJRI) (0 : Int32) (0 : Int32) (0 : Int32) (0 : Int32) (0 : Int32) (0 : Int32) h64_ n0 Z88 A64 F89 F90 F91 F92 F93 F94 F95 F96 F97 ge66) e64 (pc' := 140) (Ls := #[.val (.int x0), .val (.int x1), .val (.int x2), .val (.int x3), .val (.int x4), .val (.int v3), .val (.int v6), .val (.int v9), .val (.ref (spec1 ((XT.ushr x4 (3 : Int32)) &&& (3 : Int32)) r_YEAR_FIRST r_MONTH_FIRST r_OTHER)), .val (.ref (spec2 ((XT.ushr x4 (5 : Int32)) &&& (7 : Int32)) r_GREGORIAN r_JULIAN r_JULIAN_ANNUNCIATION r_JULIAN_NATAL r_FRENCH_REPUBLICAN r_HIJRI)), .val (.int v14), .val (.int v17), .val (.ref b18), .unset, .unset, .unset]) (by rw [hml]; rfl) [(.int x0), (.int v3), (.int v6), (.ref (spec1 ((XT.ushr x4 (3 : Int32)) &&& (3 : Int32)) r_YEAR_FIRST r_MONTH_FIRST r_OTHER)), (.ref (spec2 ((XT.ushr x4 (5 : Int32)) &&& (7 : Int32)) r_GREGORIAN r_JULIAN r_JULIAN_ANNUNCIATION r_JULIAN_NATAL r_FRENCH_REPUBLICAN r_HIJRI))] [(.ref b64)] rfl pd4 rfl rfl 1 (Nat.le_of_eq rfl) (hb hby at_137) rfl (by decide) (by decide) (by decide) (by decide)
            obtain ⟨rfl, N98, Kc98, E98_, F98_year, F98_month, F98_day, F98_length, F98_order, F98_weekday, F98_mayBeDecade, F98_calendar, F98_namesCalendar⟩ := hq98
            refine oGo.step (f' := (mkF m 140 #[.val (.int x0), .val (.int x1), .val (.int x2), .val (.int x3), .val (.int x4), .val (.int v3), .val (.int v6), .val (.int v9), .val (.ref (spec1 ((XT.ushr x4 (3 : Int32)) &&& (3 : Int32)) r_YEAR_FIRST r_MONTH_FIRST r_OTHER)), .val (.ref (spec2 ((XT.ushr x4 (5 : Int32)) &&& (7 : Int32)) r_GREGORIAN r_JULIAN r_JULIAN_ANNUNCIATION r_JULIAN_NATAL r_FRENCH_REPUBLICAN r_HIJRI)), .val (.int v14), .val (.int v17), .val (.ref b18), .unset, .unset, .unset] [(.ref b64)])) st98 ?_
            have N98_ := Fr.app N41_ N98
            have K99 := Kc98
            have F109 := F77.keep K99 (allS ge66 all0)
            have F110 := F78.keep K99
            have F111 := F79.keep K99 (ninS ne65 nin0)
            have F112 := F80.keep K99 (ninS ne65 nin0)
            have F113 := F81.keep K99 (ninS ne65 nin0)
            have F114 := F82.keep K99 (ninS ne65 nin0)
            have F115 := F83.keep K99 (ninS ne65 nin0)
            have F116 := F84.keep K99 (ninS ne65 nin0)
            have F117 := F85.keep K99 (ninS ne65 nin0)
            have F118 := F86.keep K99 (ninS ne65 nin0)
            have F119 := F87.keep K99 (ninS ne65 nin0)
            have F120 := A64.keep K99
            have Z130 := Nat.le_trans Z88 K99.1
            have X98 := o_flat X98 rfl rfl
            refine o_astore (pc' := 142) (l' := #[.val (.int x0), .val (.int x1), .val (.int x2), .val (.int x3), .val (.int x4), .val (.int v3), .val (.int v6), .val (.int v9), .val (.ref (spec1 ((XT.ushr x4 (3 : Int32)) &&& (3 : Int32)) r_YEAR_FIRST r_MONTH_FIRST r_OTHER)), .val (.ref (spec2 ((XT.ushr x4 (5 : Int32)) &&& (7 : Int32)) r_GREGORIAN r_JULIAN r_JULIAN_ANNUNCIATION r_JULIAN_NATAL r_FRENCH_REPUBLICAN r_HIJRI)), .val (.int v14), .val (.int v17), .val (.ref b18), .val (.ref b64), .unset, .unset]) X98 hx (hb hby at_140) rfl rfl rfl ?_
            refine o_iload (pc' := 144) X98 hx (hb hby at_142) rfl rfl ?_
            refine o_iconst (pc' := 145) (v := (-1 : Int32)) X98 hx (hb hby at_144) rfl rfl ?_
            have J132 : ∀ (v137 : Int32), v137 = (if v3 = (-1 : Int32) then (0 : Int32) else (if v6 = (-1 : Int32) then (if v9 = (1 : Int32) then (1 : Int32) else (0 : Int32)) else (1 : Int32))) → oGo p e below (oG s (fun v h L => v = some (.int 1) ∧ Fr n0 L) room_1.cells room_1.slots) T98 (mkF m 179 #[.val (.int x0), .val (.int x1), .val (.int x2), .val (.int x3), .val (.int x4), .val (.int v3), .val (.int v6), .val (.int v9), .val (.ref (spec1 ((XT.ushr x4 (3 : Int32)) &&& (3 : Int32)) r_YEAR_FIRST r_MONTH_FIRST r_OTHER)), .val (.ref (spec2 ((XT.ushr x4 (5 : Int32)) &&& (7 : Int32)) r_GREGORIAN r_JULIAN r_JULIAN_ANNUNCIATION r_JULIAN_NATAL r_FRENCH_REPUBLICAN r_HIJRI)), .val (.int v14), .val (.int v17), .val (.ref b18), .val (.ref b64), .val (.int v137), .unset] []) := by
              intro v137 hv137
              refine o_iload (pc' := 181) X98 hx (hb hby at_179) rfl rfl ?_
              refine o_iconst (pc' := 182) (v := (-1 : Int32)) X98 hx (hb hby at_181) rfl rfl ?_
              have J139 : ∀ (v140 : Int32), v140 = (if v3 = (-1 : Int32) then (0 : Int32) else (1 : Int32)) → oGo p e below (oG s (fun v h L => v = some (.int 1) ∧ Fr n0 L) room_1.cells room_1.slots) T98 (mkF m 190 #[.val (.int x0), .val (.int x1), .val (.int x2), .val (.int x3), .val (.int x4), .val (.int v3), .val (.int v6), .val (.int v9), .val (.ref (spec1 ((XT.ushr x4 (3 : Int32)) &&& (3 : Int32)) r_YEAR_FIRST r_MONTH_FIRST r_OTHER)), .val (.ref (spec2 ((XT.ushr x4 (5 : Int32)) &&& (7 : Int32)) r_GREGORIAN r_JULIAN r_JULIAN_ANNUNCIATION r_JULIAN_NATAL r_FRENCH_REPUBLICAN r_HIJRI)), .val (.int v14), .val (.int v17), .val (.ref b18), .val (.ref b64), .val (.int v137), .unset] [(.int v140)]) := by
                intro v140 hv140
                refine o_istore (pc' := 192) (l' := #[.val (.int x0), .val (.int x1), .val (.int x2), .val (.int x3), .val (.int x4), .val (.int v3), .val (.int v6), .val (.int v9), .val (.ref (spec1 ((XT.ushr x4 (3 : Int32)) &&& (3 : Int32)) r_YEAR_FIRST r_MONTH_FIRST r_OTHER)), .val (.ref (spec2 ((XT.ushr x4 (5 : Int32)) &&& (7 : Int32)) r_GREGORIAN r_JULIAN r_JULIAN_ANNUNCIATION r_JULIAN_NATAL r_FRENCH_REPUBLICAN r_HIJRI)), .val (.int v14), .val (.int v17), .val (.ref b18), .val (.ref b64), .val (.int v137), .val (.int v140)]) X98 hx (hb hby at_190) rfl rfl ?_
                refine o_aload (pc' := 194) X98 hx (hb hby at_192) rfl rfl rfl ?_
                obtain ⟨r141, T141, L141, X141, hq141, st141⟩ := o_callV X98 hx hZ hown (hw _ (List.mem_of_getElem? (i := 49) rfl)) (hw _ (List.mem_of_getElem? (i := 50) rfl)) (hw _ (List.mem_of_getElem? (i := 52) rfl)) (hw _ (List.mem_of_getElem? (i := 51) rfl)) (hw _ (List.mem_of_getElem? (i := 15) rfl)) (hw _ (List.mem_of_getElem? (i := 53) rfl)) (by decide) F110 (rm7 l Z a0 hw b18 v3 v6 v9 T98.heap n0 Z130 F110 F112 F113 F114) (rfl : T98.heap = _) (pc' := 197) (Ls := #[.val (.int x0), .val (.int x1), .val (.int x2), .val (.int x3), .val (.int x4), .val (.int v3), .val (.int v6), .val (.int v9), .val (.ref (spec1 ((XT.ushr x4 (3 : Int32)) &&& (3 : Int32)) r_YEAR_FIRST r_MONTH_FIRST r_OTHER)), .val (.ref (spec2 ((XT.ushr x4 (5 : Int32)) &&& (7 : Int32)) r_GREGORIAN r_JULIAN r_JULIAN_ANNUNCIATION r_JULIAN_NATAL r_FRENCH_REPUBLICAN r_HIJRI)), .val (.int v14), .val (.int v17), .val (.ref b18), .val (.ref b64), .val (.int v137), .val (.int v140)]) (by rw [hml]; rfl) [] [] rfl pd5 rfl rfl 0 (Nat.le_of_eq rfl) (hb hby at_194) rfl (by decide) (by decide) (by decide) (by decide)
                obtain ⟨rfl, rfl, Kc141⟩ := hq141
                refine oGo.step (f' := (mkF m 197 #[.val (.int x0), .val (.int x1), .val (.int x2), .val (.int x3), .val (.int x4), .val (.int v3), .val (.int v6), .val (.int v9), .val (.ref (spec1 ((XT.ushr x4 (3 : Int32)) &&& (3 : Int32)) r_YEAR_FIRST r_MONTH_FIRST r_OTHER)), .val (.ref (spec2 ((XT.ushr x4 (5 : Int32)) &&& (7 : Int32)) r_GREGORIAN r_JULIAN r_JULIAN_ANNUNCIATION r_JULIAN_NATAL r_FRENCH_REPUBLICAN r_HIJRI)), .val (.int v14), .val (.int v17), .val (.ref b18), .val (.ref b64), .val (.int v137), .val (.int v140)] [(.int (spec7 v3 v6 v9))])) st141 ?_
                have e141 : T141.heap = T98.heap := Kc141
                have X141 := o_same X141 rfl rfl
                refine o_iload (pc' := 199) X141 hx (hb hby at_197) rfl rfl ?_
                have J143 : ∀ (T147 : State) (X147 : Stand p l e room_1 s m #[(.int x0), (.int x1), (.int x2), (.int x3), (.int x4)] below meth c T147 (([] ++ L41) ++ L98) (0 + 1 + 1) (0 + 9 + 9)) (e147 : T147.heap = T98.heap) (v146 : Int32), v146 = (if (spec7 v3 v6 v9) = v137 then (if (spec7 v3 v6 (1 : Int32)) = v140 then (1 : Int32) else (0 : Int32)) else (0 : Int32)) → oGo p e below (oG s (fun v h L => v = some (.int 1) ∧ Fr n0 L) room_1.cells room_1.slots) T147 (mkF m 217 #[.val (.int x0), .val (.int x1), .val (.int x2), .val (.int x3), .val (.int x4), .val (.int v3), .val (.int v6), .val (.int v9), .val (.ref (spec1 ((XT.ushr x4 (3 : Int32)) &&& (3 : Int32)) r_YEAR_FIRST r_MONTH_FIRST r_OTHER)), .val (.ref (spec2 ((XT.ushr x4 (5 : Int32)) &&& (7 : Int32)) r_GREGORIAN r_JULIAN r_JULIAN_ANNUNCIATION r_JULIAN_NATAL r_FRENCH_REPUBLICAN r_HIJRI)), .val (.int v14), .val (.int v17), .val (.ref b18), .val (.ref b64), .val (.int v137), .val (.int v140)] [(.int v146)]) := by
                  intro T147 X147 e147 v146 hv146
                  refine o_retZ X147 hx hret hlk (hb hby at_217) (by rw [hv146]; (repeat' split) <;> (first | rfl | assumption)) (by decide) (by decide) ?_
                  subst hv146 hv140 hv137 hv17 hv14 hv9 hv6 hv3
                  exact ⟨congrArg (fun z => some (Value.int z)) ((show _ = spec0 x0 x1 x2 x3 x4 from (rfl).symm).trans (own_law x0 x1 x2 x3 x4 )), N98_⟩
                by_cases c142 : (spec7 v3 v6 v9) = v137
                · refine o_icmpF (pc' := 202) X141 hx (hb hby at_199) (XT.ii_ne_f c142) rfl ?_
                  refine o_aload (pc' := 204) X141 hx (hb hby at_202) rfl rfl rfl ?_
                  obtain ⟨r144, T144, L144, X144, hq144, st144⟩ := o_callV X141 hx hZ hown (hw _ (List.mem_of_getElem? (i := 49) rfl)) (hw _ (List.mem_of_getElem? (i := 50) rfl)) (hw _ (List.mem_of_getElem? (i := 52) rfl)) (hw _ (List.mem_of_getElem? (i := 51) rfl)) (hw _ (List.mem_of_getElem? (i := 15) rfl)) (hw _ (List.mem_of_getElem? (i := 53) rfl)) (by decide) E98_ (rm7 l Z a0 hw b64 v3 v6 (1 : Int32) T98.heap n0 Z130 E98_ F98_month F98_day F98_length) e141 (pc' := 207) (Ls := #[.val (.int x0), .val (.int x1), .val (.int x2), .val (.int x3), .val (.int x4), .val (.int v3), .val (.int v6), .val (.int v9), .val (.ref (spec1 ((XT.ushr x4 (3 : Int32)) &&& (3 : Int32)) r_YEAR_FIRST r_MONTH_FIRST r_OTHER)), .val (.ref (spec2 ((XT.ushr x4 (5 : Int32)) &&& (7 : Int32)) r_GREGORIAN r_JULIAN r_JULIAN_ANNUNCIATION r_JULIAN_NATAL r_FRENCH_REPUBLICAN r_HIJRI)), .val (.int v14), .val (.int v17), .val (.ref b18), .val (.ref b64), .val (.int v137), .val (.int v140)]) (by rw [hml]; rfl) [] [] rfl pd5 rfl rfl 0 (Nat.le_of_eq rfl) (hb hby at_204) rfl (by decide) (by decide) (by decide) (by decide)
                  obtain ⟨rfl, rfl, Kc144⟩ := hq144
                  refine oGo.step (f' := (mkF m 207 #[.val (.int x0), .val (.int x1), .val (.int x2), .val (.int x3), .val (.int x4), .val (.int v3), .val (.int v6), .val (.int v9), .val (.ref (spec1 ((XT.ushr x4 (3 : Int32)) &&& (3 : Int32)) r_YEAR_FIRST r_MONTH_FIRST r_OTHER)), .val (.ref (spec2 ((XT.ushr x4 (5 : Int32)) &&& (7 : Int32)) r_GREGORIAN r_JULIAN r_JULIAN_ANNUNCIATION r_JULIAN_NATAL r_FRENCH_REPUBLICAN r_HIJRI)), .val (.int v14), .val (.int v17), .val (.ref b18), .val (.ref b64), .val (.int v137), .val (.int v140)] [(.int (spec7 v3 v6 (1 : Int32)))])) st144 ?_
                  have e144 : T144.heap = T98.heap := Kc144
                  have X144 := o_same X144 rfl rfl
                  refine o_iload (pc' := 209) X144 hx (hb hby at_207) rfl rfl ?_
                  by_cases c145 : (spec7 v3 v6 (1 : Int32)) = v140
                  · refine o_icmpF (pc' := 212) X144 hx (hb hby at_209) (XT.ii_ne_f c145) rfl ?_
                    refine o_iconst (pc' := 213) (v := (1 : Int32)) X144 hx (hb hby at_212) rfl rfl ?_
                    refine o_goto (pc' := 217) X144 hx (hb hby at_213) (by decide) (by decide) ?_
                    exact J143 T144 X144 e144 _ ((if_pos c142).trans (if_pos c145)).symm
                  · refine o_icmpT (pc' := 216) X144 hx (hb hby at_209) (XT.ii_ne_t c145) (by decide) (by decide) ?_
                    refine o_iconst (pc' := 217) (v := (0 : Int32)) X144 hx (hb hby at_216) rfl rfl ?_
                    exact J143 T144 X144 e144 _ ((if_pos c142).trans (if_neg c145)).symm
                · refine o_icmpT (pc' := 216) X141 hx (hb hby at_199) (XT.ii_ne_t c142) (by decide) (by decide) ?_
                  refine o_iconst (pc' := 217) (v := (0 : Int32)) X141 hx (hb hby at_216) rfl rfl ?_
                  exact J143 T141 X141 e141 _ (if_neg c142).symm
              by_cases c138 : v3 = (-1 : Int32)
              · refine o_icmpT (pc' := 189) X98 hx (hb hby at_182) (XT.ii_eq_t c138) (by decide) (by decide) ?_
                refine o_iconst (pc' := 190) (v := (0 : Int32)) X98 hx (hb hby at_189) rfl rfl ?_
                exact J139 _ (if_pos c138).symm
              · refine o_icmpF (pc' := 185) X98 hx (hb hby at_182) (XT.ii_eq_f c138) rfl ?_
                refine o_iconst (pc' := 186) (v := (1 : Int32)) X98 hx (hb hby at_185) rfl rfl ?_
                refine o_goto (pc' := 190) X98 hx (hb hby at_186) (by decide) (by decide) ?_
                exact J139 _ (if_neg c138).symm
            by_cases c131 : v3 = (-1 : Int32)
            · refine o_icmpF (pc' := 148) X98 hx (hb hby at_145) (XT.ii_ne_f c131) rfl ?_
              refine o_iconst (pc' := 149) (v := (0 : Int32)) X98 hx (hb hby at_148) rfl rfl ?_
              refine o_istore (pc' := 151) (l' := #[.val (.int x0), .val (.int x1), .val (.int x2), .val (.int x3), .val (.int x4), .val (.int v3), .val (.int v6), .val (.int v9), .val (.ref (spec1 ((XT.ushr x4 (3 : Int32)) &&& (3 : Int32)) r_YEAR_FIRST r_MONTH_FIRST r_OTHER)), .val (.ref (spec2 ((XT.ushr x4 (5 : Int32)) &&& (7 : Int32)) r_GREGORIAN r_JULIAN r_JULIAN_ANNUNCIATION r_JULIAN_NATAL r_FRENCH_REPUBLICAN r_HIJRI)), .val (.int v14), .val (.int v17), .val (.ref b18), .val (.ref b64), .val (.int (0 : Int32)), .unset]) X98 hx (hb hby at_149) rfl rfl ?_
              refine o_goto (pc' := 179) X98 hx (hb hby at_151) (by decide) (by decide) ?_
              exact J132 _ (if_pos c131).symm
            · refine o_icmpT (pc' := 154) X98 hx (hb hby at_145) (XT.ii_ne_t c131) (by decide) (by decide) ?_
              refine o_iload (pc' := 156) X98 hx (hb hby at_154) rfl rfl ?_
              refine o_iconst (pc' := 157) (v := (-1 : Int32)) X98 hx (hb hby at_156) rfl rfl ?_
              by_cases c133 : v6 = (-1 : Int32)
              · refine o_icmpT (pc' := 166) X98 hx (hb hby at_157) (XT.ii_eq_t c133) (by decide) (by decide) ?_
                refine o_iload (pc' := 168) X98 hx (hb hby at_166) rfl rfl ?_
                refine o_iconst (pc' := 169) (v := (1 : Int32)) X98 hx (hb hby at_168) rfl rfl ?_
                have J135 : ∀ (v136 : Int32), v136 = (if v9 = (1 : Int32) then (1 : Int32) else (0 : Int32)) → oGo p e below (oG s (fun v h L => v = some (.int 1) ∧ Fr n0 L) room_1.cells room_1.slots) T98 (mkF m 177 #[.val (.int x0), .val (.int x1), .val (.int x2), .val (.int x3), .val (.int x4), .val (.int v3), .val (.int v6), .val (.int v9), .val (.ref (spec1 ((XT.ushr x4 (3 : Int32)) &&& (3 : Int32)) r_YEAR_FIRST r_MONTH_FIRST r_OTHER)), .val (.ref (spec2 ((XT.ushr x4 (5 : Int32)) &&& (7 : Int32)) r_GREGORIAN r_JULIAN r_JULIAN_ANNUNCIATION r_JULIAN_NATAL r_FRENCH_REPUBLICAN r_HIJRI)), .val (.int v14), .val (.int v17), .val (.ref b18), .val (.ref b64), .unset, .unset] [(.int v136)]) := by
                  intro v136 hv136
                  refine o_istore (pc' := 179) (l' := #[.val (.int x0), .val (.int x1), .val (.int x2), .val (.int x3), .val (.int x4), .val (.int v3), .val (.int v6), .val (.int v9), .val (.ref (spec1 ((XT.ushr x4 (3 : Int32)) &&& (3 : Int32)) r_YEAR_FIRST r_MONTH_FIRST r_OTHER)), .val (.ref (spec2 ((XT.ushr x4 (5 : Int32)) &&& (7 : Int32)) r_GREGORIAN r_JULIAN r_JULIAN_ANNUNCIATION r_JULIAN_NATAL r_FRENCH_REPUBLICAN r_HIJRI)), .val (.int v14), .val (.int v17), .val (.ref b18), .val (.ref b64), .val (.int v136), .unset]) X98 hx (hb hby at_177) rfl rfl ?_
                  subst hv136
                  exact J132 _ ((if_neg c131).trans (if_pos c133)).symm
                by_cases c134 : v9 = (1 : Int32)
                · refine o_icmpF (pc' := 172) X98 hx (hb hby at_169) (XT.ii_ne_f c134) rfl ?_
                  refine o_iconst (pc' := 173) (v := (1 : Int32)) X98 hx (hb hby at_172) rfl rfl ?_
                  refine o_goto (pc' := 177) X98 hx (hb hby at_173) (by decide) (by decide) ?_
                  exact J135 _ (if_pos c134).symm
                · refine o_icmpT (pc' := 176) X98 hx (hb hby at_169) (XT.ii_ne_t c134) (by decide) (by decide) ?_
                  refine o_iconst (pc' := 177) (v := (0 : Int32)) X98 hx (hb hby at_176) rfl rfl ?_
                  exact J135 _ (if_neg c134).symm
              · refine o_icmpF (pc' := 160) X98 hx (hb hby at_157) (XT.ii_eq_f c133) rfl ?_
                refine o_iconst (pc' := 161) (v := (1 : Int32)) X98 hx (hb hby at_160) rfl rfl ?_
                refine o_istore (pc' := 163) (l' := #[.val (.int x0), .val (.int x1), .val (.int x2), .val (.int x3), .val (.int x4), .val (.int v3), .val (.int v6), .val (.int v9), .val (.ref (spec1 ((XT.ushr x4 (3 : Int32)) &&& (3 : Int32)) r_YEAR_FIRST r_MONTH_FIRST r_OTHER)), .val (.ref (spec2 ((XT.ushr x4 (5 : Int32)) &&& (7 : Int32)) r_GREGORIAN r_JULIAN r_JULIAN_ANNUNCIATION r_JULIAN_NATAL r_FRENCH_REPUBLICAN r_HIJRI)), .val (.int v14), .val (.int v17), .val (.ref b18), .val (.ref b64), .val (.int (1 : Int32)), .unset]) X98 hx (hb hby at_161) rfl rfl ?_
                refine o_goto (pc' := 179) X98 hx (hb hby at_163) (by decide) (by decide) ?_
                exact J132 _ ((if_neg c131).trans (if_neg c133)).symm
          by_cases c15 : ((XT.ushr x4 (9 : Int32)) &&& (1 : Int32)) = 0
          · refine o_ifT (pc' := 96) X11 hx (hb hby at_89) (XT.i0_eq_t c15) (by decide) (by decide) ?_
            refine o_iconst (pc' := 97) (v := (0 : Int32)) X11 hx (hb hby at_96) rfl rfl ?_
            exact J16 _ (if_pos c15).symm
          · refine o_ifF (pc' := 92) X11 hx (hb hby at_89) (XT.i0_eq_f c15) rfl ?_
            refine o_iconst (pc' := 93) (v := (1 : Int32)) X11 hx (hb hby at_92) rfl rfl ?_
            refine o_goto (pc' := 97) X11 hx (hb hby at_93) (by decide) (by decide) ?_
            exact J16 _ (if_neg c15).symm
        by_cases c12 : ((XT.ushr x4 (8 : Int32)) &&& (1 : Int32)) = 0
        · refine o_ifT (pc' := 79) X11 hx (hb hby at_72) (XT.i0_eq_t c12) (by decide) (by decide) ?_
          refine o_iconst (pc' := 80) (v := (0 : Int32)) X11 hx (hb hby at_79) rfl rfl ?_
          exact J13 _ (if_pos c12).symm
        · refine o_ifF (pc' := 75) X11 hx (hb hby at_72) (XT.i0_eq_f c12) rfl ?_
          refine o_iconst (pc' := 76) (v := (1 : Int32)) X11 hx (hb hby at_75) rfl rfl ?_
          refine o_goto (pc' := 80) X11 hx (hb hby at_76) (by decide) (by decide) ?_
          exact J13 _ (if_neg c12).symm
      by_cases c7 : (x4 &&& (4 : Int32)) = 0
      · refine o_ifT (pc' := 39) X0 hx (hb hby at_32) (XT.i0_eq_t c7) (by decide) (by decide) ?_
        refine o_iloadN (pc' := 40) X0 hx (hb hby at_39) rfl rfl ?_
        exact J8 _ (if_pos c7).symm
      · refine o_ifF (pc' := 35) X0 hx (hb hby at_32) (XT.i0_eq_f c7) rfl ?_
        refine o_iconst (pc' := 36) (v := (1 : Int32)) X0 hx (hb hby at_35) rfl rfl ?_
        refine o_goto (pc' := 40) X0 hx (hb hby at_36) (by decide) (by decide) ?_
        exact J8 _ (if_neg c7).symm
    by_cases c4 : (x4 &&& (2 : Int32)) = 0
    · refine o_ifT (pc' := 25) X0 hx (hb hby at_18) (XT.i0_eq_t c4) (by decide) (by decide) ?_
      refine o_iloadN (pc' := 26) X0 hx (hb hby at_25) rfl rfl ?_
      exact J5 _ (if_pos c4).symm
    · refine o_ifF (pc' := 21) X0 hx (hb hby at_18) (XT.i0_eq_f c4) rfl ?_
      refine o_iconst (pc' := 22) (v := (-1 : Int32)) X0 hx (hb hby at_21) rfl rfl ?_
      refine o_goto (pc' := 26) X0 hx (hb hby at_22) (by decide) (by decide) ?_
      exact J5 _ (if_neg c4).symm
  by_cases c1 : (x4 &&& (1 : Int32)) = 0
  · refine o_ifT (pc' := 11) X0 hx (hb hby at_4) (XT.i0_eq_t c1) (by decide) (by decide) ?_
    refine o_iloadN (pc' := 12) X0 hx (hb hby at_11) rfl rfl ?_
    exact J2 _ (if_pos c1).symm
  · refine o_ifF (pc' := 7) X0 hx (hb hby at_4) (XT.i0_eq_f c1) rfl ?_
    refine o_iconst (pc' := 8) (v := (-1 : Int32)) X0 hx (hb hby at_7) rfl rfl ?_
    refine o_goto (pc' := 12) X0 hx (hb hby at_8) (by decide) (by decide) ?_
    exact J2 _ (if_neg c1).symm
set_option maxRecDepth 65536 in
set_option maxHeartbeats 40000000 in
theorem comes_1 {Post : Tables → Env → Array Value → State → Outcome → State → Prop} (hpost : ∀ tb e args s v u, (limb_1_1.after args s (.returned v) u = true ∧ limb_1_2.after args s (.returned v) u = true ∧ True) → FrameEnd s (.returned v) u (Jvm.fieldLocs frame_1_writes args s ++ Jvm.arrayLocs frame_1_arrays args s ++ Jvm.staticLocs frame_1_statics s) 16 128 → Post tb e args s (.returned v) u) :
    ArmFor flags0 classFile x code maxLocals ret World_1 tables_1 room_1 Calls_1 rest_1 Pre_1 Post := by
  intro l hfl _ _ p e ha hc hk s m args below hf hA hF happ hP
  obtain ⟨hcalls, hrest, hpre⟩ := hP
  obtain ⟨-, -, -, hnamed, -, -, -, hat⟩ := (Spec.applies_iff hf).mp happ
  obtain ⟨hg, hn⟩ := and_e (Cond.before_iff.mp (show (Jvm.Cond.and given_1 narrow_1).before args s = true from hpre))
  obtain ⟨hcount, q0⟩ := and_e hg
  obtain ⟨a0, q1⟩ := and_e q0
  obtain ⟨a1, q2⟩ := and_e q1
  obtain ⟨a2, q3⟩ := and_e q2
  obtain ⟨a3, q4⟩ := and_e q3
  obtain ⟨w0, w1, w2, w3, w4, rfl⟩ : ∃ w0 w1 w2 w3 w4 : Value, args = #[w0, w1, w2, w3, w4] := by
    have hs : args.size = 5 := by simpa [Cond.value, given_1] using hcount
    obtain ⟨L⟩ := args
    match L, hs with
    | [w0, w1, w2, w3, w4], _ => exact ⟨w0, w1, w2, w3, w4, rfl⟩
  have hw := fun d (hd : d ∈ tables_1) => atoms_spec (ws := Jvm.Cond.code x code maxLocals ret :: tables_1) hat d (List.mem_cons_of_mem _ hd)
  have hfit : Fit s := fun {y c} hc i hi => by
    obtain ⟨ha, rfl⟩ := Array.getElem?_eq_some_iff.mp hc
    have q := List.all_eq_true.mp ((Array.all_eq_true_iff_forall_mem.mp hF) _ (Array.getElem_mem ha)) i (List.mem_range.mpr hi)
    simpa [Array.getElem?_eq_getElem hi] using q
  obtain ⟨x0, e0⟩ := is_v a0
  obtain rfl : w0 = (.int x0) := Option.some.inj e0
  obtain ⟨x1, e1⟩ := is_v a1
  obtain rfl : w1 = (.int x1) := Option.some.inj e1
  obtain ⟨x2, e2⟩ := is_v a2
  obtain rfl : w2 = (.int x2) := Option.some.inj e2
  obtain ⟨x3, e3⟩ := is_v a3
  obtain rfl : w3 = (.int x3) := Option.some.inj e3
  obtain ⟨x4, e4⟩ := is_v q4
  obtain rfl : w4 = (.int x4) := Option.some.inj e4
  obtain ⟨n0, m0⟩ := and_e hn
  obtain ⟨r_YEAR_FIRST, v_YEAR_FIRST⟩ := exa_v n0
  have S_YEAR_FIRST := Sta.start v_YEAR_FIRST (Or.inr ⟨(hw _ (List.mem_of_getElem? (i := 5) rfl)), (hw _ (List.mem_of_getElem? (i := 6) rfl))⟩)
  obtain ⟨n1, m1⟩ := and_e m0
  obtain ⟨r_GREGORIAN, v_GREGORIAN⟩ := exa_v n1
  have S_GREGORIAN := Sta.start v_GREGORIAN (Or.inr ⟨(hw _ (List.mem_of_getElem? (i := 11) rfl)), (hw _ (List.mem_of_getElem? (i := 12) rfl))⟩)
  obtain ⟨n2, m2⟩ := and_e m1
  obtain ⟨r_MONTH_FIRST, v_MONTH_FIRST⟩ := exa_v n2
  have S_MONTH_FIRST := Sta.start v_MONTH_FIRST (Or.inr ⟨(hw _ (List.mem_of_getElem? (i := 5) rfl)), (hw _ (List.mem_of_getElem? (i := 55) rfl))⟩)
  obtain ⟨n3, m3⟩ := and_e m2
  obtain ⟨r_JULIAN, v_JULIAN⟩ := exa_v n3
  have S_JULIAN := Sta.start v_JULIAN (Or.inr ⟨(hw _ (List.mem_of_getElem? (i := 11) rfl)), (hw _ (List.mem_of_getElem? (i := 57) rfl))⟩)
  obtain ⟨n4, m4⟩ := and_e m3
  obtain ⟨r_OTHER, v_OTHER⟩ := exa_v n4
  have S_OTHER := Sta.start v_OTHER (Or.inr ⟨(hw _ (List.mem_of_getElem? (i := 5) rfl)), (hw _ (List.mem_of_getElem? (i := 59) rfl))⟩)
  obtain ⟨n5, m5⟩ := and_e m4
  obtain ⟨r_HIJRI, v_HIJRI⟩ := exa_v n5
  have S_HIJRI := Sta.start v_HIJRI (Or.inr ⟨(hw _ (List.mem_of_getElem? (i := 11) rfl)), (hw _ (List.mem_of_getElem? (i := 61) rfl))⟩)
  obtain ⟨n6, m6⟩ := and_e m5
  obtain ⟨r_JULIAN_NATAL, v_JULIAN_NATAL⟩ := exa_v n6
  have S_JULIAN_NATAL := Sta.start v_JULIAN_NATAL (Or.inr ⟨(hw _ (List.mem_of_getElem? (i := 11) rfl)), (hw _ (List.mem_of_getElem? (i := 63) rfl))⟩)
  obtain ⟨n7, m7⟩ := and_e m6
  obtain ⟨r_JULIAN_ANNUNCIATION, v_JULIAN_ANNUNCIATION⟩ := exa_v n7
  have S_JULIAN_ANNUNCIATION := Sta.start v_JULIAN_ANNUNCIATION (Or.inr ⟨(hw _ (List.mem_of_getElem? (i := 11) rfl)), (hw _ (List.mem_of_getElem? (i := 65) rfl))⟩)
  obtain ⟨r_FRENCH_REPUBLICAN, v_FRENCH_REPUBLICAN⟩ := exa_v m7
  have S_FRENCH_REPUBLICAN := Sta.start v_FRENCH_REPUBLICAN (Or.inr ⟨(hw _ (List.mem_of_getElem? (i := 11) rfl)), (hw _ (List.mem_of_getElem? (i := 67) rfl))⟩)
  obtain ⟨n, o, h1, h2, h3, _, L, rfl, ⟨rfl, N⟩, hq⟩ := rm0 l s _ hw x0 x1 x2 x3 x4 r_YEAR_FIRST r_MONTH_FIRST r_OTHER r_GREGORIAN r_JULIAN r_JULIAN_ANNUNCIATION r_JULIAN_NATAL r_FRENCH_REPUBLICAN r_HIJRI s.heap s.heap.size (Nat.le_refl _) (Old.start s) S_YEAR_FIRST S_MONTH_FIRST S_OTHER S_GREGORIAN S_JULIAN S_JULIAN_ANNUNCIATION S_JULIAN_NATAL S_FRENCH_REPUBLICAN S_HIJRI tables_1 p e ha hc hk s m _ below hf ((Spec.applies_iff_loose hf).mp happ).1 ⟨rfl, State.Warmed39.refl s, rfl⟩ trivial
  refine ⟨n, _, h1, h2, h3, hpost _ _ _ _ _ _ ⟨Cond.after_iff.mpr rfl, Cond.after_iff.mpr (eq_i res_at (Term.int_eval (1)) rfl), trivial⟩ ⟨hq.1, hq.2.1, (hq.2.2.sift fun y hy => Or.inr (N y hy)).mono (by decide) (by decide)⟩⟩
theorem main_1_1 : Claimed_1_1 := comes_1 fun _ _ _ _ _ _ h hF => ⟨h.1, hF⟩
theorem main_1_2 : Claimed_1_2 := comes_1 fun _ _ _ _ _ _ h hF => ⟨h.2.1, hF⟩
end Jvm.Pilot.@@N@@
namespace Jvm.Pilot.@@N@@
open Jvm Jvm.ClassFile Sem Op Lib Jvm.Free Jvm.Stand Jvm.Pilot.@@N@@.Jvm.D
/-! MADE BY PROGRAM (witnessworld.py) out of the Statement's table words and the real class files: 15 classes; the members and pool entries that the words name. The judged class is class 1, her method 3. -/
namespace start1
open Jvm.ClassFile
def u (s : String) : CpInfo := .utf8 (stringToUtf16 s)
/-- a pool by its gaps: so many unusable entries, then the entry; so many at the end -/
def gap : Nat → List CpInfo → List CpInfo
  | 0, r => r
  | n + 1, r => .unusable :: gap n r
def poolList (es : List (Nat × CpInfo)) (last : Nat) : List CpInfo := es.foldr (fun e r => gap e.1 (e.2 :: r)) (gap last [])
def pool (es : List (Nat × CpInfo)) (last : Nat) : Array CpInfo := ⟨poolList es last⟩
def fileOf (pool : Array CpInfo) (this : Nat) (attrs : Array Attribute := #[]) (ms : Array MethodInfo := #[]) (fl : Nat := 33) (sup : Nat := 0) (ifs : Array Nat := #[]) (fds : Array FieldInfo := #[]) : ClassFile where
  minorVersion := 0
  majorVersion := 65
  constantPool := pool
  accessFlags := fl
  thisClass := this
  superClass := sup
  interfaces := ifs
  fields := fds
  methods := ms
  attributes := attrs
def plain (name : String) (sup : Option ClassId) : Class where
  name := name
  kind := .ordinary
  loader := none
  accessFlags := 33
  super := sup
  interfaces := #[]
  cf := none
  fields := #[]
  methods := #[]
  instanceTypes := #[]
  staticTypes := #[]
  resolved := #[]
  callSites := []
  init := .initialized
  statics := none
  mirror := none

def pool0 : Array CpInfo := pool [(5, u "<init>"), (0, u "()V"), (1, .class_ 10), (1, u "java/lang/Object")] 113

def k0c0 : Code := { maxStack := 0, maxLocals := 1, code := object_method_1_code, exceptionTable := #[], attributes := #[] }
def k0m0 : Method := { name := "<init>", desc := "()V", sig := { parameters := [], returnType := none }, accessFlags := 1, code := some k0c0 }
/-- java/lang/Object -/
def k0 : Class := { plain "java/lang/Object" none with
  accessFlags := 33
  interfaces := #[]
  cf := some (fileOf pool0 8 #[] #[{ accessFlags := 1, nameIndex := 5, descriptorIndex := 6, attributes := #[] }] 33 0 #[] #[])
  fields := #[]
  methods := #[k0m0]
  instanceTypes := #[]
  staticTypes := #[]
  resolved := Array.replicate 124 none
  statics := none }

def pool1 : Array CpInfo := pool [(2, .class_ 4), (1, u "java/lang/Object"), (0, u "<init>"), (0, u "()V"), (0, .fieldref 8 9), (0, .class_ 10), (0, .nameAndType 11 12), (0, u "org/kalends/expressions/WrittenDate$Order"), (0, u "YEAR_FIRST"), (0, u "Lorg/kalends/expressions/WrittenDate$Order;"), (0, .fieldref 8 14), (0, .nameAndType 15 12), (0, u "MONTH_FIRST"), (0, .fieldref 8 17), (0, .nameAndType 18 12), (0, u "OTHER"), (0, .fieldref 20 21), (0, .class_ 22), (0, .nameAndType 23 24), (0, u "org/kalends/calendars/Calendar"), (0, u "JULIAN"), (0, u "Lorg/kalends/calendars/Calendar;"), (0, .fieldref 20 26), (0, .nameAndType 27 24), (0, u "JULIAN_ANNUNCIATION"), (0, .fieldref 20 29), (0, .nameAndType 30 24), (0, u "JULIAN_NATAL"), (0, .fieldref 20 32), (0, .nameAndType 33 24), (0, u "FRENCH_REPUBLICAN"), (0, .fieldref 20 35), (0, .nameAndType 36 24), (0, u "HIJRI"), (0, .fieldref 20 38), (0, .nameAndType 39 24), (0, u "GREGORIAN"), (0, .methodref 41 42), (0, .class_ 43), (0, .nameAndType 44 45), (0, u "org/kalends/expressions/WrittenDateGivesMonthPinLaw"), (0, u "order"), (0, u "(I)Lorg/kalends/expressions/WrittenDate$Order;"), (0, .methodref 41 47), (0, .nameAndType 48 49), (0, u "calendar"), (0, u "(I)Lorg/kalends/calendars/Calendar;"), (0, .class_ 51), (0, u "org/kalends/expressions/WrittenDate"), (0, .methodref 50 53), (0, .nameAndType 5 54), (0, u "(IIIILorg/kalends/expressions/WrittenDate$Order;Ljava/time/DayOfWeek;ZLorg/kalends/calendars/Calendar;Z)V"), (0, .methodref 50 56), (0, .nameAndType 5 57), (0, u "(IIILorg/kalends/expressions/WrittenDate$Order;Lorg/kalends/calendars/Calendar;)V"), (0, .methodref 50 59), (0, .nameAndType 60 61), (0, u "givesMonth"), (0, u "()Z"), (3, u "law"), (0, u "(IIIII)Z")] 4

def k1m0 : Method := { name := "<init>", desc := "()V", sig := { parameters := [], returnType := none }, accessFlags := 2, code := none }
def k1c1 : Code := { maxStack := 2, maxLocals := 1, code := method_2_code, exceptionTable := #[], attributes := #[] }
def k1m1 : Method := { name := "order", desc := "(I)Lorg/kalends/expressions/WrittenDate$Order;", sig := { parameters := [.int], returnType := some (.object "org/kalends/expressions/WrittenDate$Order") }, accessFlags := 10, code := some k1c1 }
def k1c2 : Code := { maxStack := 2, maxLocals := 1, code := method_3_code, exceptionTable := #[], attributes := #[] }
def k1m2 : Method := { name := "calendar", desc := "(I)Lorg/kalends/calendars/Calendar;", sig := { parameters := [.int], returnType := some (.object "org/kalends/calendars/Calendar") }, accessFlags := 10, code := some k1c2 }
def k1c3 : Code := { maxStack := 11, maxLocals := 16, code := code, exceptionTable := #[], attributes := #[] }
def k1m3 : Method := { name := "law", desc := "(IIIII)Z", sig := { parameters := [.int, .int, .int, .int, .int], returnType := some .boolean }, accessFlags := 9, code := some k1c3 }
/-- org/kalends/expressions/WrittenDateGivesMonthPinLaw -/
def k1 : Class := { plain "org/kalends/expressions/WrittenDateGivesMonthPinLaw" (some 0) with
  accessFlags := 49
  interfaces := #[]
  cf := some (fileOf pool1 41 #[] #[{ accessFlags := 2, nameIndex := 5, descriptorIndex := 6, attributes := #[] }, { accessFlags := 10, nameIndex := 44, descriptorIndex := 45, attributes := #[] }, { accessFlags := 10, nameIndex := 48, descriptorIndex := 49, attributes := #[] }, { accessFlags := 9, nameIndex := 65, descriptorIndex := 66, attributes := #[] }] 49 2 #[] #[])
  fields := #[]
  methods := #[k1m0, k1m1, k1m2, k1m3]
  instanceTypes := #[]
  staticTypes := #[]
  resolved := Array.replicate 71 none
  statics := none }

def pool2 : Array CpInfo := pool [(1, .class_ 2), (0, u "java/lang/constant/Constable"), (0, .class_ 4), (0, u "java/lang/Object")] 6

/-- java/lang/constant/Constable -/
def k2 : Class := { plain "java/lang/constant/Constable" (some 0) with
  accessFlags := 1537
  interfaces := #[]
  cf := some (fileOf pool2 1 #[] #[] 1537 3 #[] #[])
  fields := #[]
  methods := #[]
  instanceTypes := #[]
  staticTypes := #[]
  resolved := Array.replicate 11 none
  statics := none }

def pool3 : Array CpInfo := pool [(1, .class_ 2), (0, u "java/lang/Comparable"), (0, .class_ 4), (0, u "java/lang/Object")] 7

/-- java/lang/Comparable -/
def k3 : Class := { plain "java/lang/Comparable" (some 0) with
  accessFlags := 1537
  interfaces := #[]
  cf := some (fileOf pool3 1 #[] #[] 1537 3 #[] #[])
  fields := #[]
  methods := #[]
  instanceTypes := #[]
  staticTypes := #[]
  resolved := Array.replicate 12 none
  statics := none }

def pool4 : Array CpInfo := pool [(1, .class_ 2), (0, u "java/io/Serializable"), (0, .class_ 4), (0, u "java/lang/Object")] 2

/-- java/io/Serializable -/
def k4 : Class := { plain "java/io/Serializable" (some 0) with
  accessFlags := 1537
  interfaces := #[]
  cf := some (fileOf pool4 1 #[] #[] 1537 3 #[] #[])
  fields := #[]
  methods := #[]
  instanceTypes := #[]
  staticTypes := #[]
  resolved := Array.replicate 7 none
  statics := none }

def pool5 : Array CpInfo := pool [(2, .class_ 4), (1, u "java/lang/Enum"), (0, u "name"), (0, u "Ljava/lang/String;"), (2, u "ordinal"), (0, u "I"), (1, .class_ 14), (1, u "java/lang/Object"), (4, u "hash"), (86, .class_ 108), (1, u "java/lang/Enum$EnumDesc"), (2, .class_ 112), (0, u "java/lang/constant/Constable"), (0, .class_ 114), (0, u "java/lang/Comparable"), (0, .class_ 116), (0, u "java/io/Serializable")] 87

/-- java/lang/Enum -/
def k5 : Class := { plain "java/lang/Enum" (some 0) with
  accessFlags := 1057
  interfaces := #[2, 3, 4]
  cf := some (fileOf pool5 2 #[.nestMembers #[106]] #[] 1057 12 #[111, 113, 115] #[{ accessFlags := 18, nameIndex := 5, descriptorIndex := 6, attributes := #[] }, { accessFlags := 18, nameIndex := 9, descriptorIndex := 10, attributes := #[] }, { accessFlags := 2, nameIndex := 19, descriptorIndex := 10, attributes := #[] }])
  fields := #[{ name := "name", type := (.object "java/lang/String"), accessFlags := 18, slot := 0, constantValue := 0 }, { name := "ordinal", type := .int, accessFlags := 18, slot := 1, constantValue := 0 }, { name := "hash", type := .int, accessFlags := 2, slot := 2, constantValue := 0 }]
  methods := #[]
  instanceTypes := #[(.object "java/lang/String"), .int, .int]
  staticTypes := #[]
  resolved := Array.replicate 204 none
  statics := none }

def pool6 : Array CpInfo := pool [(1, .class_ 2), (0, u "org/kalends/expressions/WrittenDate$Order"), (2, u "YEAR_FIRST"), (0, u "Lorg/kalends/expressions/WrittenDate$Order;"), (2, u "MONTH_FIRST"), (2, u "OTHER"), (2, u "$VALUES"), (0, u "[Lorg/kalends/expressions/WrittenDate$Order;"), (6, .class_ 25), (1, u "java/lang/Enum"), (26, .class_ 53), (0, u "org/kalends/expressions/WrittenDate")] 2

/-- org/kalends/expressions/WrittenDate$Order -/
def k6 : Class := { plain "org/kalends/expressions/WrittenDate$Order" (some 5) with
  accessFlags := 16432
  interfaces := #[]
  cf := some (fileOf pool6 1 #[.nestHost 52] #[] 16432 23 #[] #[{ accessFlags := 16409, nameIndex := 5, descriptorIndex := 6, attributes := #[] }, { accessFlags := 16409, nameIndex := 9, descriptorIndex := 6, attributes := #[] }, { accessFlags := 16409, nameIndex := 12, descriptorIndex := 6, attributes := #[] }, { accessFlags := 4122, nameIndex := 15, descriptorIndex := 16, attributes := #[] }])
  fields := #[{ name := "YEAR_FIRST", type := (.object "org/kalends/expressions/WrittenDate$Order"), accessFlags := 16409, slot := 0, constantValue := 0 }, { name := "MONTH_FIRST", type := (.object "org/kalends/expressions/WrittenDate$Order"), accessFlags := 16409, slot := 1, constantValue := 0 }, { name := "OTHER", type := (.object "org/kalends/expressions/WrittenDate$Order"), accessFlags := 16409, slot := 2, constantValue := 0 }, { name := "$VALUES", type := (.array (.object "org/kalends/expressions/WrittenDate$Order")), accessFlags := 4122, slot := 3, constantValue := 0 }]
  methods := #[]
  instanceTypes := #[(.object "java/lang/String"), .int, .int]
  staticTypes := #[(.object "org/kalends/expressions/WrittenDate$Order"), (.object "org/kalends/expressions/WrittenDate$Order"), (.object "org/kalends/expressions/WrittenDate$Order"), (.array (.object "org/kalends/expressions/WrittenDate$Order"))]
  resolved := Array.replicate 56 none
  statics := some 0 }

def pool7 : Array CpInfo := pool [(1, .class_ 2), (0, u "org/kalends/calendars/Calendar"), (2, u "GREGORIAN"), (0, u "Lorg/kalends/calendars/Calendar;"), (2, u "JULIAN"), (2, u "JULIAN_ANNUNCIATION"), (2, u "JULIAN_NATAL"), (2, u "FRENCH_REPUBLICAN"), (2, u "HIJRI"), (2, u "$VALUES"), (0, u "[Lorg/kalends/calendars/Calendar;"), (6, .class_ 34), (1, u "java/lang/Enum"), (8, u "reckoning"), (0, u "Lorg/kalends/calendars/Reckoning;"), (2, u "gregorianMonths"), (0, u "Z"), (2, u "inFigures"), (18, u "written"), (0, u "Ljava/lang/String;")] 94

/-- org/kalends/calendars/Calendar -/
def k7 : Class := { plain "org/kalends/calendars/Calendar" (some 5) with
  accessFlags := 16433
  interfaces := #[]
  cf := some (fileOf pool7 1 #[] #[] 16433 32 #[] #[{ accessFlags := 16409, nameIndex := 5, descriptorIndex := 6, attributes := #[] }, { accessFlags := 16409, nameIndex := 9, descriptorIndex := 6, attributes := #[] }, { accessFlags := 16409, nameIndex := 12, descriptorIndex := 6, attributes := #[] }, { accessFlags := 16409, nameIndex := 15, descriptorIndex := 6, attributes := #[] }, { accessFlags := 16409, nameIndex := 18, descriptorIndex := 6, attributes := #[] }, { accessFlags := 16409, nameIndex := 21, descriptorIndex := 6, attributes := #[] }, { accessFlags := 18, nameIndex := 43, descriptorIndex := 44, attributes := #[] }, { accessFlags := 18, nameIndex := 47, descriptorIndex := 48, attributes := #[] }, { accessFlags := 18, nameIndex := 51, descriptorIndex := 48, attributes := #[] }, { accessFlags := 18, nameIndex := 70, descriptorIndex := 71, attributes := #[] }, { accessFlags := 4122, nameIndex := 24, descriptorIndex := 25, attributes := #[] }])
  fields := #[{ name := "GREGORIAN", type := (.object "org/kalends/calendars/Calendar"), accessFlags := 16409, slot := 0, constantValue := 0 }, { name := "JULIAN", type := (.object "org/kalends/calendars/Calendar"), accessFlags := 16409, slot := 1, constantValue := 0 }, { name := "JULIAN_ANNUNCIATION", type := (.object "org/kalends/calendars/Calendar"), accessFlags := 16409, slot := 2, constantValue := 0 }, { name := "JULIAN_NATAL", type := (.object "org/kalends/calendars/Calendar"), accessFlags := 16409, slot := 3, constantValue := 0 }, { name := "FRENCH_REPUBLICAN", type := (.object "org/kalends/calendars/Calendar"), accessFlags := 16409, slot := 4, constantValue := 0 }, { name := "HIJRI", type := (.object "org/kalends/calendars/Calendar"), accessFlags := 16409, slot := 5, constantValue := 0 }, { name := "reckoning", type := (.object "org/kalends/calendars/Reckoning"), accessFlags := 18, slot := 3, constantValue := 0 }, { name := "gregorianMonths", type := .boolean, accessFlags := 18, slot := 4, constantValue := 0 }, { name := "inFigures", type := .boolean, accessFlags := 18, slot := 5, constantValue := 0 }, { name := "written", type := (.object "java/lang/String"), accessFlags := 18, slot := 6, constantValue := 0 }, { name := "$VALUES", type := (.array (.object "org/kalends/calendars/Calendar")), accessFlags := 4122, slot := 6, constantValue := 0 }]
  methods := #[]
  instanceTypes := #[(.object "java/lang/String"), .int, .int, (.object "org/kalends/calendars/Reckoning"), .boolean, .boolean, (.object "java/lang/String")]
  staticTypes := #[(.object "org/kalends/calendars/Calendar"), (.object "org/kalends/calendars/Calendar"), (.object "org/kalends/calendars/Calendar"), (.object "org/kalends/calendars/Calendar"), (.object "org/kalends/calendars/Calendar"), (.object "org/kalends/calendars/Calendar"), (.array (.object "org/kalends/calendars/Calendar"))]
  resolved := Array.replicate 166 none
  statics := some 1 }

def pool8 : Array CpInfo := pool [(1, .methodref 2 3), (0, .class_ 4), (0, .nameAndType 5 6), (0, u "java/lang/Object"), (0, u "<init>"), (0, u "()V"), (0, .class_ 8), (0, u "java/lang/Record")] 13

def k8c0 : Code := { maxStack := 1, maxLocals := 1, code := jdk_30_method_1_code, exceptionTable := #[], attributes := #[] }
def k8m0 : Method := { name := "<init>", desc := "()V", sig := { parameters := [], returnType := none }, accessFlags := 4, code := some k8c0 }
/-- java/lang/Record -/
def k8 : Class := { plain "java/lang/Record" (some 0) with
  accessFlags := 1057
  interfaces := #[]
  cf := some (fileOf pool8 7 #[] #[{ accessFlags := 4, nameIndex := 5, descriptorIndex := 6, attributes := #[] }] 1057 2 #[] #[])
  fields := #[]
  methods := #[k8m0]
  instanceTypes := #[]
  staticTypes := #[]
  resolved := Array.replicate 22 none
  statics := none }

def pool9 : Array CpInfo := pool [(1, .methodref 2 3), (0, .class_ 4), (0, .nameAndType 5 6), (0, u "java/lang/Record"), (0, u "<init>"), (0, u "()V"), (0, .fieldref 8 9), (0, .class_ 10), (0, .nameAndType 11 12), (0, u "org/kalends/expressions/WrittenDate"), (0, u "year"), (0, u "I"), (0, .fieldref 8 14), (0, .nameAndType 15 12), (0, u "month"), (0, .fieldref 8 17), (0, .nameAndType 18 12), (0, u "day"), (0, .fieldref 8 20), (0, .nameAndType 21 12), (0, u "length"), (0, .fieldref 8 23), (0, .nameAndType 24 25), (0, u "order"), (0, u "Lorg/kalends/expressions/WrittenDate$Order;"), (0, .fieldref 8 27), (0, .nameAndType 28 29), (0, u "weekday"), (0, u "Ljava/time/DayOfWeek;"), (0, .fieldref 8 31), (0, .nameAndType 32 33), (0, u "mayBeDecade"), (0, u "Z"), (0, .fieldref 8 35), (0, .nameAndType 36 37), (0, u "calendar"), (0, u "Lorg/kalends/calendars/Calendar;"), (0, .fieldref 8 39), (0, .nameAndType 40 33), (0, u "namesCalendar"), (1, .class_ 44), (1, u "org/kalends/expressions/WrittenDate$Order"), (3, u "(IIILorg/kalends/expressions/WrittenDate$Order;Lorg/kalends/calendars/Calendar;)V"), (0, .methodref 8 50), (0, .nameAndType 5 51), (0, u "(IIIILorg/kalends/expressions/WrittenDate$Order;Ljava/time/DayOfWeek;ZLorg/kalends/calendars/Calendar;Z)V"), (25, u "()Z"), (19, .class_ 98), (0, u "org/kalends/expressions/WrittenDate$Span"), (12, .class_ 112), (0, u "org/kalends/expressions/WrittenDate$Days"), (96, u "givesMonth"), (36, u "NONE")] 83

def k9c0 : Code := { maxStack := 10, maxLocals := 6, code := prog_44_method_2_code, exceptionTable := #[], attributes := #[] }
def k9m0 : Method := { name := "<init>", desc := "(IIILorg/kalends/expressions/WrittenDate$Order;Lorg/kalends/calendars/Calendar;)V", sig := { parameters := [.int, .int, .int, (.object "org/kalends/expressions/WrittenDate$Order"), (.object "org/kalends/calendars/Calendar")], returnType := none }, accessFlags := 0, code := some k9c0 }
def k9c1 : Code := { maxStack := 2, maxLocals := 10, code := prog_44_method_3_code, exceptionTable := #[], attributes := #[] }
def k9m1 : Method := { name := "<init>", desc := "(IIIILorg/kalends/expressions/WrittenDate$Order;Ljava/time/DayOfWeek;ZLorg/kalends/calendars/Calendar;Z)V", sig := { parameters := [.int, .int, .int, .int, (.object "org/kalends/expressions/WrittenDate$Order"), (.object "java/time/DayOfWeek"), .boolean, (.object "org/kalends/calendars/Calendar"), .boolean], returnType := none }, accessFlags := 0, code := some k9c1 }
def k9c2 : Code := { maxStack := 2, maxLocals := 1, code := prog_44_method_17_code, exceptionTable := #[], attributes := #[] }
def k9m2 : Method := { name := "givesMonth", desc := "()Z", sig := { parameters := [], returnType := some .boolean }, accessFlags := 0, code := some k9c2 }
/-- org/kalends/expressions/WrittenDate -/
def k9 : Class := { plain "org/kalends/expressions/WrittenDate" (some 8) with
  accessFlags := 48
  interfaces := #[]
  cf := some (fileOf pool9 8 #[.nestMembers #[97, 111, 42]] #[{ accessFlags := 0, nameIndex := 5, descriptorIndex := 48, attributes := #[] }, { accessFlags := 0, nameIndex := 5, descriptorIndex := 51, attributes := #[] }, { accessFlags := 0, nameIndex := 209, descriptorIndex := 77, attributes := #[] }] 48 2 #[] #[{ accessFlags := 18, nameIndex := 11, descriptorIndex := 12, attributes := #[] }, { accessFlags := 18, nameIndex := 15, descriptorIndex := 12, attributes := #[] }, { accessFlags := 18, nameIndex := 18, descriptorIndex := 12, attributes := #[] }, { accessFlags := 18, nameIndex := 21, descriptorIndex := 12, attributes := #[] }, { accessFlags := 18, nameIndex := 24, descriptorIndex := 25, attributes := #[] }, { accessFlags := 18, nameIndex := 28, descriptorIndex := 29, attributes := #[] }, { accessFlags := 18, nameIndex := 32, descriptorIndex := 33, attributes := #[] }, { accessFlags := 18, nameIndex := 36, descriptorIndex := 37, attributes := #[] }, { accessFlags := 18, nameIndex := 40, descriptorIndex := 33, attributes := #[] }, { accessFlags := 24, nameIndex := 246, descriptorIndex := 12, attributes := #[] }])
  fields := #[{ name := "year", type := .int, accessFlags := 18, slot := 0, constantValue := 0 }, { name := "month", type := .int, accessFlags := 18, slot := 1, constantValue := 0 }, { name := "day", type := .int, accessFlags := 18, slot := 2, constantValue := 0 }, { name := "length", type := .int, accessFlags := 18, slot := 3, constantValue := 0 }, { name := "order", type := (.object "org/kalends/expressions/WrittenDate$Order"), accessFlags := 18, slot := 4, constantValue := 0 }, { name := "weekday", type := (.object "java/time/DayOfWeek"), accessFlags := 18, slot := 5, constantValue := 0 }, { name := "mayBeDecade", type := .boolean, accessFlags := 18, slot := 6, constantValue := 0 }, { name := "calendar", type := (.object "org/kalends/calendars/Calendar"), accessFlags := 18, slot := 7, constantValue := 0 }, { name := "namesCalendar", type := .boolean, accessFlags := 18, slot := 8, constantValue := 0 }, { name := "NONE", type := .int, accessFlags := 24, slot := 0, constantValue := 0 }]
  methods := #[k9m0, k9m1, k9m2]
  instanceTypes := #[.int, .int, .int, .int, (.object "org/kalends/expressions/WrittenDate$Order"), (.object "java/time/DayOfWeek"), .boolean, (.object "org/kalends/calendars/Calendar"), .boolean]
  staticTypes := #[.int]
  resolved := Array.replicate 330 none
  statics := none }

def pool10 : Array CpInfo := pool [(1, u "java/lang/Cloneable"), (0, .class_ 1), (0, u "java/lang/Object"), (0, .class_ 3)] 3

/-- java/lang/Cloneable -/
def k10 : Class := { plain "java/lang/Cloneable" (some 0) with
  accessFlags := 1537
  interfaces := #[]
  cf := some (fileOf pool10 2 #[] #[] 1537 4 #[] #[])
  fields := #[]
  methods := #[]
  instanceTypes := #[]
  staticTypes := #[]
  resolved := Array.replicate 8 none
  statics := none }

/-- the primitive byte -/
def k11 : Class := { plain "byte" none with kind := .primitive 'B', accessFlags := 0x411 }
/-- [B -/
def k12 : Class := { plain "[B" (some 0) with kind := .array 11 .byte, interfaces := #[10, 4], accessFlags := 1041 }

/-- the primitive int -/
def k13 : Class := { plain "int" none with kind := .primitive 'I', accessFlags := 0x411 }
/-- [I -/
def k14 : Class := { plain "[I" (some 0) with kind := .array 13 .int, interfaces := #[10, 4], accessFlags := 1041 }

def heap : Heap := #[{ cls := 6, slots := #[.ref 2, .ref 3, .ref 4, .null], vm := .statics 6 },
  { cls := 7, slots := #[.ref 5, .ref 6, .ref 7, .ref 8, .ref 9, .ref 10, .null], vm := .statics 7 },
  { cls := 6, slots := #[.null, .int 0, .int 0], vm := .none },
  { cls := 6, slots := #[.null, .int 1, .int 0], vm := .none },
  { cls := 6, slots := #[.null, .int 2, .int 0], vm := .none },
  { cls := 7, slots := #[.null, .int 0, .int 0, .null, .int 0, .int 0, .null], vm := .none },
  { cls := 7, slots := #[.null, .int 1, .int 0, .null, .int 0, .int 0, .null], vm := .none },
  { cls := 7, slots := #[.null, .int 2, .int 0, .null, .int 0, .int 0, .null], vm := .none },
  { cls := 7, slots := #[.null, .int 3, .int 0, .null, .int 0, .int 0, .null], vm := .none },
  { cls := 7, slots := #[.null, .int 4, .int 0, .null, .int 0, .int 0, .null], vm := .none },
  { cls := 7, slots := #[.null, .int 5, .int 0, .null, .int 0, .int 0, .null], vm := .none }]
def classes : Array Class := #[k0, k1, k2, k3, k4, k5, k6, k7, k8, k9, k10, k11, k12, k13, k14]
def interned : List (Array UInt16 × Addr) := []
def slotsUsed : Nat := 62
def theMethod : MethodId := ⟨1, 3⟩
def args0 : Array Value := #[.int 5, .int 5, .int 5, .int 5, .int 5]
def aboutOver (below : List Frame) : State where
  vm := { classes := classes, interned := interned.toArray }
  heap := heap
  slotsUsed := slotsUsed
  threads := #[{ frames := .invoking theMethod args0 :: below }]
def below0 : List Frame := [.native { method := ⟨0, 0⟩, args := #[] }]
def about1 : State := aboutOver below0
def p0 : Program := .bare "" "" ""
def e0 : Env := launch0.env 0 0 0
theorem w_frames : about1.frames = Frame.invoking theMethod args0 :: below0 := rfl
set_option maxRecDepth 65536 in
theorem w_args : argsFit about1.vm theMethod args0 = true := by decide +kernel
set_option maxRecDepth 65536 in
theorem w_heap : heapFits about1 = true := by decide +kernel
set_option maxRecDepth 65536 in
theorem w_runnable : about1.curStatus? = some .runnable := by decide +kernel
set_option maxRecDepth 65536 in
theorem w_alone : about1.alone = true := by decide +kernel
set_option maxRecDepth 65536 in
theorem w_named : about1.methodNamed? x = some theMethod := by decide +kernel
set_option maxRecDepth 65536 in
theorem w_hears : about1.hears theMethod below0 = true := by decide +kernel
set_option maxRecDepth 65536 in
theorem w_ripe : about1.ripe theMethod args0 below0 = true := by decide +kernel
theorem w_running : about1.status = .running := rfl
set_option maxRecDepth 65536 in
theorem w_room : about1.hasRoom e0.platform room_1 = true :=
  launch0.hasRoom_least _ room_1 (by decide +kernel) (by decide +kernel) (by decide +kernel) (by decide +kernel) (by decide +kernel) (by decide +kernel)
theorem allAtoms_all (ts : List Jvm.Cond) (a : Array Jvm.Value) (st : Jvm.State) : (allAtoms ts).before a st = ts.all (fun c => c.before a st) := by
  induction ts with
  | nil => rfl
  | cons c t ih =>
    show (Jvm.Cond.and c (allAtoms t)).before a st = _
    rw [Jvm.Cond.before_and, ih, List.all_cons]
def words1 : List Jvm.Cond := Jvm.Cond.code x code maxLocals ret :: tables_1
/-- a 'code' word, met by the world's own term for the bytes: nothing is compared byte by byte -/
theorem code_word {y : MethodName} {bytes : ByteArray} {mx : Nat} {rt : Option FieldType} {a : Array Value} {s : State} {m : MethodId} {meth : Method} {c : Code} (h1 : s.methodNamed? y = some m) (h2 : s.vm.method? m = some meth) (h3 : meth.code = some c) (h4 : c.code = bytes)
    (h5 : (c.maxLocals == mx && c.exceptionTable.isEmpty && decide (c.maxStack ≤ mostOperands) && decide (meth.sig.returnType = rt) && !meth.locks && decide (parseMethodDescriptor y.desc = some meth.sig)) = true) : (Jvm.Cond.code y bytes mx rt).before a s = true := by
  simp only [Bool.and_eq_true, beq_iff_eq, Bool.not_eq_true', decide_eq_true_eq] at h5
  obtain ⟨⟨⟨⟨⟨g1, g2⟩, g3⟩, g4⟩, g5⟩, g6⟩ := h5
  simp [Cond.before, Cond.holds, Cond.value, h1, h2, h3, h4, g1, g2, g3, g4, g5, g6]
def isCode : Jvm.Cond → Bool
  | .code _ _ _ _ => true
  | _ => false
theorem all_split {L : List Jvm.Cond} {P : Jvm.Cond → Bool} (h1 : L.all (fun c => isCode c || P c) = true) (h2 : ∀ c ∈ L.filter isCode, P c = true) : L.all P = true := by
  refine List.all_eq_true.mpr fun c hc => ?_
  have h := List.all_eq_true.mp h1 c hc
  rcases Bool.eq_false_or_eq_true (isCode c) with hi | hi
  · exact h2 c (List.mem_filter.mpr ⟨hc, hi⟩)
  · simpa [hi] using h
set_option maxRecDepth 65536 in
theorem w_c0 : (Jvm.Cond.code x code maxLocals ret).before args0 about1 = true := code_word (m := ⟨1, 3⟩) (meth := k1m3) (c := k1c3) (by decide +kernel) rfl rfl rfl (by decide +kernel)
set_option maxRecDepth 65536 in
theorem w_c1 : (Jvm.Cond.code ({ cls := "org/kalends/expressions/WrittenDateGivesMonthPinLaw", name := "order", desc := "(I)Lorg/kalends/expressions/WrittenDate$Order;" } : Jvm.MethodName) method_2_code (1 : Nat) (Option.some (Jvm.ClassFile.FieldType.object "org/kalends/expressions/WrittenDate$Order"))).before args0 about1 = true := code_word (m := ⟨1, 1⟩) (meth := k1m1) (c := k1c1) (by decide +kernel) rfl rfl rfl (by decide +kernel)
set_option maxRecDepth 65536 in
theorem w_c2 : (Jvm.Cond.code ({ cls := "org/kalends/expressions/WrittenDateGivesMonthPinLaw", name := "calendar", desc := "(I)Lorg/kalends/calendars/Calendar;" } : Jvm.MethodName) method_3_code (1 : Nat) (Option.some (Jvm.ClassFile.FieldType.object "org/kalends/calendars/Calendar"))).before args0 about1 = true := code_word (m := ⟨1, 2⟩) (meth := k1m2) (c := k1c2) (by decide +kernel) rfl rfl rfl (by decide +kernel)
set_option maxRecDepth 65536 in
theorem w_c3 : (Jvm.Cond.code ({ cls := "org/kalends/expressions/WrittenDate", name := "<init>", desc := "(IIIILorg/kalends/expressions/WrittenDate$Order;Ljava/time/DayOfWeek;ZLorg/kalends/calendars/Calendar;Z)V" } : Jvm.MethodName) prog_44_method_3_code (10 : Nat) (Option.none : Option Jvm.ClassFile.FieldType)).before args0 about1 = true := code_word (m := ⟨9, 1⟩) (meth := k9m1) (c := k9c1) (by decide +kernel) rfl rfl rfl (by decide +kernel)
set_option maxRecDepth 65536 in
theorem w_c4 : (Jvm.Cond.code ({ cls := "java/lang/Record", name := "<init>", desc := "()V" } : Jvm.MethodName) jdk_30_method_1_code (1 : Nat) (Option.none : Option Jvm.ClassFile.FieldType)).before args0 about1 = true := code_word (m := ⟨8, 0⟩) (meth := k8m0) (c := k8c0) (by decide +kernel) rfl rfl rfl (by decide +kernel)
set_option maxRecDepth 65536 in
theorem w_c5 : (Jvm.Cond.code ({ cls := "java/lang/Object", name := "<init>", desc := "()V" } : Jvm.MethodName) object_method_1_code (1 : Nat) (Option.none : Option Jvm.ClassFile.FieldType)).before args0 about1 = true := code_word (m := ⟨0, 0⟩) (meth := k0m0) (c := k0c0) (by decide +kernel) rfl rfl rfl (by decide +kernel)
set_option maxRecDepth 65536 in
theorem w_c6 : (Jvm.Cond.code ({ cls := "org/kalends/expressions/WrittenDate", name := "<init>", desc := "(IIILorg/kalends/expressions/WrittenDate$Order;Lorg/kalends/calendars/Calendar;)V" } : Jvm.MethodName) prog_44_method_2_code (6 : Nat) (Option.none : Option Jvm.ClassFile.FieldType)).before args0 about1 = true := code_word (m := ⟨9, 0⟩) (meth := k9m0) (c := k9c0) (by decide +kernel) rfl rfl rfl (by decide +kernel)
set_option maxRecDepth 65536 in
theorem w_c7 : (Jvm.Cond.code ({ cls := "org/kalends/expressions/WrittenDate", name := "givesMonth", desc := "()Z" } : Jvm.MethodName) prog_44_method_17_code (1 : Nat) (Option.some Jvm.ClassFile.FieldType.boolean)).before args0 about1 = true := code_word (m := ⟨9, 2⟩) (meth := k9m2) (c := k9c2) (by decide +kernel) rfl rfl rfl (by decide +kernel)
def codes1 : List Jvm.Cond := [Jvm.Cond.code x code maxLocals ret, Jvm.Cond.code ({ cls := "org/kalends/expressions/WrittenDateGivesMonthPinLaw", name := "order", desc := "(I)Lorg/kalends/expressions/WrittenDate$Order;" } : Jvm.MethodName) method_2_code (1 : Nat) (Option.some (Jvm.ClassFile.FieldType.object "org/kalends/expressions/WrittenDate$Order")), Jvm.Cond.code ({ cls := "org/kalends/expressions/WrittenDateGivesMonthPinLaw", name := "calendar", desc := "(I)Lorg/kalends/calendars/Calendar;" } : Jvm.MethodName) method_3_code (1 : Nat) (Option.some (Jvm.ClassFile.FieldType.object "org/kalends/calendars/Calendar")), Jvm.Cond.code ({ cls := "org/kalends/expressions/WrittenDate", name := "<init>", desc := "(IIIILorg/kalends/expressions/WrittenDate$Order;Ljava/time/DayOfWeek;ZLorg/kalends/calendars/Calendar;Z)V" } : Jvm.MethodName) prog_44_method_3_code (10 : Nat) (Option.none : Option Jvm.ClassFile.FieldType), Jvm.Cond.code ({ cls := "java/lang/Record", name := "<init>", desc := "()V" } : Jvm.MethodName) jdk_30_method_1_code (1 : Nat) (Option.none : Option Jvm.ClassFile.FieldType), Jvm.Cond.code ({ cls := "java/lang/Object", name := "<init>", desc := "()V" } : Jvm.MethodName) object_method_1_code (1 : Nat) (Option.none : Option Jvm.ClassFile.FieldType), Jvm.Cond.code ({ cls := "org/kalends/expressions/WrittenDate", name := "<init>", desc := "(IIILorg/kalends/expressions/WrittenDate$Order;Lorg/kalends/calendars/Calendar;)V" } : Jvm.MethodName) prog_44_method_2_code (6 : Nat) (Option.none : Option Jvm.ClassFile.FieldType), Jvm.Cond.code ({ cls := "org/kalends/expressions/WrittenDate", name := "givesMonth", desc := "()Z" } : Jvm.MethodName) prog_44_method_17_code (1 : Nat) (Option.some Jvm.ClassFile.FieldType.boolean)]
set_option maxRecDepth 65536 in
theorem codes_eq : words1.filter isCode = codes1 := rfl
theorem w_codes : ∀ c ∈ words1.filter isCode, c.before args0 about1 = true := by
  rw [codes_eq]
  intro c hc
  simp only [codes1, List.mem_cons, List.not_mem_nil, or_false] at hc
  rcases hc with rfl | rfl | rfl | rfl | rfl | rfl | rfl | rfl
  · exact w_c0
  · exact w_c1
  · exact w_c2
  · exact w_c3
  · exact w_c4
  · exact w_c5
  · exact w_c6
  · exact w_c7
set_option maxRecDepth 65536 in
theorem w_t1 : (words1.take 24).all (fun c => isCode c || c.before args0 about1) = true := by decide +kernel
set_option maxRecDepth 65536 in
theorem w_t2 : ((words1.drop 24).take 24).all (fun c => isCode c || c.before args0 about1) = true := by decide +kernel
set_option maxRecDepth 65536 in
theorem w_t3 : ((words1.drop 24).drop 24).all (fun c => isCode c || c.before args0 about1) = true := by decide +kernel
theorem w_tables : (allAtoms (Jvm.Cond.code x code maxLocals ret :: tables_1)).before args0 about1 = true := by
  rw [allAtoms_all]
  show words1.all (fun c => c.before args0 about1) = true
  refine all_split ?_ w_codes
  rw [← List.take_append_drop 24 words1, List.all_append, w_t1, ← List.take_append_drop 24 (words1.drop 24), List.all_append, w_t2, w_t3]
  rfl
set_option maxRecDepth 65536 in
theorem w_case : (Jvm.Cond.and given_1 narrow_1).before args0 about1 = true := by decide +kernel
theorem w_applies : (headSpec (Jvm.Cond.code x code maxLocals ret :: tables_1) room_1).applies x e0.platform about1 = true :=
  (Spec.applies_iff w_frames).mpr ⟨w_running, w_runnable, w_alone, w_named, w_hears, w_ripe, w_room, w_tables⟩
theorem atStart : AtStart classFile x code maxLocals ret World_1 tables_1 room_1 Calls_1 rest_1 Pre_1 launch0 p0 e0 about1 theMethod args0 below0 :=
  ⟨lists_1, trivial, launch0.admits_env _ _ _, launch0.least_env, fairChoices_fair.cas, fairChoices_fair.clock, w_frames, w_args, w_heap, w_applies, trivial, trivial, w_case⟩
end start1
theorem witness_1 : WitnessClaimed_1 := ⟨start1.p0, start1.e0, start1.about1, start1.theMethod, start1.args0, start1.below0, start1.atStart⟩
end Jvm.Pilot.@@N@@
