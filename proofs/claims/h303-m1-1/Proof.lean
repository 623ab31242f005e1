import JvmDerived
import JvmDerived.Pilot.@@N@@Statement
import JvmDerived.Pilot.@@N@@Code
set_option linter.unusedVariables false
set_option linter.unusedSimpArgs false
namespace Jvm.Pilot.@@N@@
open Jvm Jvm.ClassFile Sem Op Lib Jvm.Free Jvm.Stand Jvm.LawKit Jvm.RoadKit Bundle Jvm.Pilot.@@N@@.Jvm.D
section OwnKit
variable {p : Program} {l : Launch} {e : Env} {R : Room} {s : State} {m : MethodId} {args : Array Value} {below : List Frame} {meth : Method} {c : Code} {T : State} {locs : List Loc} {cells slots : Nat} {Z : State} {a0 : Array Value} {h : Heap} {G : Outcome → State → Prop}
def oGo (p : Program) (e : Env) (below : List Frame) (G : Outcome → State → Prop) (T : State) (f : JFrame) : Prop :=
  ∃ s₂ o, Steps p.tables e below (T.setTop f) s₂ ∧ s₂.status = .running ∧ Ended s₂ below o ∧ G o s₂
theorem oGo.step {T' : State} {f f' : JFrame} (st : ∀ t, Steps p.tables e below (T'.setTop f') t → Steps p.tables e below (T.setTop f) t) (k : oGo p e below G T' f') : oGo p e below G T f := by
  obtain ⟨s₂, o, h1, h2⟩ := k
  exact ⟨s₂, o, st _ h1, h2⟩
def oG (s : State) (Q : Option Value → Heap → List Loc → Prop) (C N : Nat) : Outcome → State → Prop := fun o U' => ∃ v L, o = .returned v ∧ Q v U'.heap L ∧ FrameEnd s o U' L C N
def oCon (l : Launch) (Z : State) (y : MethodName) (bytes : ByteArray) (maxL : Nat) (ret : Option FieldType) (rm : Room) (as' : Array Value) (h : Heap) (Q : Option Value → Heap → List Loc → Prop) : Prop :=
  ∀ ws, MetFree l y (head1 (Jvm.Cond.code y bytes maxL ret :: ws) rm) (fun a U => a = as' ∧ Z.Warmed39 U.vm ∧ U.heap = h) (fun _ _ _ _ _ => True) (fun _ U o U' => ∃ v L, o = .returned v ∧ Q v U'.heap L ∧ FrameEnd U o U' L rm.cells rm.slots)
theorem oCon.of {y : MethodName} {bytes : ByteArray} {maxL : Nat} {ret : Option FieldType} {rm : Room} {as' : Array Value} {Q : Option Value → Heap → List Loc → Prop} (hpn : plainFor y = true)
    (body : ∀ p e s m below meth c s₁, p.tables.exec = Jvm.exec → c.code = bytes → c.maxLocals = maxL → s.vm.findClass y.cls = some m.cls → meth.name = y.name → meth.sig.returnType = ret → meth.locks = false → Z.Warmed39 s.vm → Stand p l e rm s m as' below meth c s₁ [] 0 0 → s₁.heap = h → oGo p e below (oG s Q rm.cells rm.slots) s₁ (entryFrame m as' maxL)) :
    oCon l Z y bytes maxL ret rm as' h Q := by
  intro ws
  refine MetFree.of_bodySF hpn hisR ?_
  intro p e s m args below meth c s₁ Bd hml0 hP hK
  obtain ⟨rfl, hZ, hh⟩ := hP
  exact body p e s m below meth c s₁ Bd.exec Bd.bytes hml0 (findClass_of_methodNamed Bd.named) (name_of_methodNamed Bd.named Bd.method).1 Bd.returns (BodyLoose.notSynchronized Bd) hZ (Stand.of_body Bd) (by rw [← hh, Bd.state]; rfl)
theorem o_iloadN (X : Stand p l e R s m args below meth c T locs cells slots) (hx : p.tables.exec = Jvm.exec) {pc pc' : Nat} {Ls : Array Slot} {st : List Value} {k : Fin 4} {v : Int32} (hd : decode c.code pc = .ok (.iload_n k, 1)) (hl : Ls[k.val]? = some (.val (.int v))) (hp : pc + 1 = pc') (q : oGo p e below G T (mkF m pc' Ls (.int v :: st))) : oGo p e below G T (mkF m pc Ls (st)) := by
  subst hp; exact q.step fun t r => XS.iloadN X.here hx rfl hd hl r
theorem o_iload (X : Stand p l e R s m args below meth c T locs cells slots) (hx : p.tables.exec = Jvm.exec) {pc pc' : Nat} {Ls : Array Slot} {st : List Value} {k : Nat} {v : Int32} (hd : decode c.code pc = .ok (.iload k, 2)) (hl : Ls[k]? = some (.val (.int v))) (hp : pc + 2 = pc') (q : oGo p e below G T (mkF m pc' Ls (.int v :: st))) : oGo p e below G T (mkF m pc Ls (st)) := by
  subst hp; exact q.step fun t r => XS.iload X.here hx rfl hd hl r
theorem o_istoreN (X : Stand p l e R s m args below meth c T locs cells slots) (hx : p.tables.exec = Jvm.exec) {pc pc' : Nat} {Ls : Array Slot} {st : List Value} {k : Fin 4} {v : Int32} {l' : Array Slot} (hd : decode c.code pc = .ok (.istore_n k, 1)) (hl : storeLocals Ls k.val (.int v) = some l') (hp : pc + 1 = pc') (q : oGo p e below G T (mkF m pc' l' (st))) : oGo p e below G T (mkF m pc Ls (.int v :: st)) := by
  subst hp; exact q.step fun t r => XS.istoreN X.here hx rfl hd rfl hl r
theorem o_istore (X : Stand p l e R s m args below meth c T locs cells slots) (hx : p.tables.exec = Jvm.exec) {pc pc' : Nat} {Ls : Array Slot} {st : List Value} {k : Nat} {v : Int32} {l' : Array Slot} (hd : decode c.code pc = .ok (.istore k, 2)) (hl : storeLocals Ls k (.int v) = some l') (hp : pc + 2 = pc') (q : oGo p e below G T (mkF m pc' l' (st))) : oGo p e below G T (mkF m pc Ls (.int v :: st)) := by
  subst hp; exact q.step fun t r => XS.istore X.here hx rfl hd rfl hl r
theorem o_lloadN (X : Stand p l e R s m args below meth c T locs cells slots) (hx : p.tables.exec = Jvm.exec) {pc pc' : Nat} {Ls : Array Slot} {st : List Value} {k : Fin 4} {v : Int64} (hd : decode c.code pc = .ok (.lload_n k, 1)) (hl : Ls[k.val]? = some (.val (.long v))) (hp : pc + 1 = pc') (q : oGo p e below G T (mkF m pc' Ls (.long v :: st))) : oGo p e below G T (mkF m pc Ls (st)) := by
  subst hp; exact q.step fun t r => XT.lloadN X.here hx rfl hd hl r
theorem o_lload (X : Stand p l e R s m args below meth c T locs cells slots) (hx : p.tables.exec = Jvm.exec) {pc pc' : Nat} {Ls : Array Slot} {st : List Value} {k : Nat} {v : Int64} (hd : decode c.code pc = .ok (.lload k, 2)) (hl : Ls[k]? = some (.val (.long v))) (hp : pc + 2 = pc') (q : oGo p e below G T (mkF m pc' Ls (.long v :: st))) : oGo p e below G T (mkF m pc Ls (st)) := by
  subst hp; exact q.step fun t r => XT.lload X.here hx rfl hd hl r
theorem o_lstoreN (X : Stand p l e R s m args below meth c T locs cells slots) (hx : p.tables.exec = Jvm.exec) {pc pc' : Nat} {Ls : Array Slot} {st : List Value} {k : Fin 4} {v : Int64} {l' : Array Slot} (hd : decode c.code pc = .ok (.lstore_n k, 1)) (hl : storeLocals Ls k.val (.long v) = some l') (hp : pc + 1 = pc') (q : oGo p e below G T (mkF m pc' l' (st))) : oGo p e below G T (mkF m pc Ls (.long v :: st)) := by
  subst hp; exact q.step fun t r => XT.lstoreN X.here hx rfl hd rfl hl r
theorem o_lstore (X : Stand p l e R s m args below meth c T locs cells slots) (hx : p.tables.exec = Jvm.exec) {pc pc' : Nat} {Ls : Array Slot} {st : List Value} {k : Nat} {v : Int64} {l' : Array Slot} (hd : decode c.code pc = .ok (.lstore k, 2)) (hl : storeLocals Ls k (.long v) = some l') (hp : pc + 2 = pc') (q : oGo p e below G T (mkF m pc' l' (st))) : oGo p e below G T (mkF m pc Ls (.long v :: st)) := by
  subst hp; exact q.step fun t r => XT.lstore X.here hx rfl hd rfl hl r
theorem o_aloadN (X : Stand p l e R s m args below meth c T locs cells slots) (hx : p.tables.exec = Jvm.exec) {pc pc' : Nat} {Ls : Array Slot} {st : List Value} {k : Fin 4} {v : Value} (hd : decode c.code pc = .ok (.aload_n k, 1)) (hl : Ls[k.val]? = some (.val v)) (hv : v.isRef = true) (hp : pc + 1 = pc') (q : oGo p e below G T (mkF m pc' Ls (v :: st))) : oGo p e below G T (mkF m pc Ls (st)) := by
  subst hp; exact q.step fun t r => XS.aloadN X.here hx rfl hd hl hv r
theorem o_aload (X : Stand p l e R s m args below meth c T locs cells slots) (hx : p.tables.exec = Jvm.exec) {pc pc' : Nat} {Ls : Array Slot} {st : List Value} {k : Nat} {v : Value} (hd : decode c.code pc = .ok (.aload k, 2)) (hl : Ls[k]? = some (.val v)) (hv : v.isRef = true) (hp : pc + 2 = pc') (q : oGo p e below G T (mkF m pc' Ls (v :: st))) : oGo p e below G T (mkF m pc Ls (st)) := by
  subst hp; exact q.step fun t r => XS.aload X.here hx rfl hd hl hv r
theorem o_astoreN (X : Stand p l e R s m args below meth c T locs cells slots) (hx : p.tables.exec = Jvm.exec) {pc pc' : Nat} {Ls : Array Slot} {st : List Value} {k : Fin 4} {v : Value} {l' : Array Slot} (hd : decode c.code pc = .ok (.astore_n k, 1)) (hv : v.isRef = true) (hl : storeLocals Ls k.val v = some l') (hp : pc + 1 = pc') (q : oGo p e below G T (mkF m pc' l' (st))) : oGo p e below G T (mkF m pc Ls (v :: st)) := by
  subst hp; exact q.step fun t r => XS.astoreN X.here hx rfl hd rfl hv hl r
theorem o_astore (X : Stand p l e R s m args below meth c T locs cells slots) (hx : p.tables.exec = Jvm.exec) {pc pc' : Nat} {Ls : Array Slot} {st : List Value} {k : Nat} {v : Value} {l' : Array Slot} (hd : decode c.code pc = .ok (.astore k, 2)) (hv : v.isRef = true) (hl : storeLocals Ls k v = some l') (hp : pc + 2 = pc') (q : oGo p e below G T (mkF m pc' l' (st))) : oGo p e below G T (mkF m pc Ls (v :: st)) := by
  subst hp; exact q.step fun t r => XS.astore X.here hx rfl hd rfl hv hl r
theorem o_iconst (X : Stand p l e R s m args below meth c T locs cells slots) (hx : p.tables.exec = Jvm.exec) {pc pc' : Nat} {Ls : Array Slot} {st : List Value} {i : Int} (v : Int32) (hd : decode c.code pc = .ok (.iconst i, 1)) (hv : Int32.ofInt i = v) (hp : pc + 1 = pc') (q : oGo p e below G T (mkF m pc' Ls (.int v :: st))) : oGo p e below G T (mkF m pc Ls (st)) := by
  subst hp; exact q.step fun t r => XT.iconstV X.here hx rfl v hd hv r
theorem o_bipush (X : Stand p l e R s m args below meth c T locs cells slots) (hx : p.tables.exec = Jvm.exec) {pc pc' : Nat} {Ls : Array Slot} {st : List Value} {i : Int} (v : Int32) (hd : decode c.code pc = .ok (.bipush i, 2)) (hv : (Int8.ofInt i).toInt32 = v) (hp : pc + 2 = pc') (q : oGo p e below G T (mkF m pc' Ls (.int v :: st))) : oGo p e below G T (mkF m pc Ls (st)) := by
  subst hp; exact q.step fun t r => XT.bipushV X.here hx rfl v hd hv r
theorem o_sipush (X : Stand p l e R s m args below meth c T locs cells slots) (hx : p.tables.exec = Jvm.exec) {pc pc' : Nat} {Ls : Array Slot} {st : List Value} {i : Int} (v : Int32) (hd : decode c.code pc = .ok (.sipush i, 3)) (hv : (Int16.ofInt i).toInt32 = v) (hp : pc + 3 = pc') (q : oGo p e below G T (mkF m pc' Ls (.int v :: st))) : oGo p e below G T (mkF m pc Ls (st)) := by
  subst hp; exact q.step fun t r => XT.sipushV X.here hx rfl v hd hv r
theorem o_lconst (X : Stand p l e R s m args below meth c T locs cells slots) (hx : p.tables.exec = Jvm.exec) {pc pc' : Nat} {Ls : Array Slot} {st : List Value} {k : Fin 2} (v : Int64) (hd : decode c.code pc = .ok (.lconst k, 1)) (hv : Int64.ofNat k = v) (hp : pc + 1 = pc') (q : oGo p e below G T (mkF m pc' Ls (.long v :: st))) : oGo p e below G T (mkF m pc Ls (st)) := by
  subst hp; exact q.step fun t r => XT.lconstV X.here hx rfl v hd hv r
theorem o_anull (X : Stand p l e R s m args below meth c T locs cells slots) (hx : p.tables.exec = Jvm.exec) {pc pc' : Nat} {Ls : Array Slot} {st : List Value} (hd : decode c.code pc = .ok (.aconst_null, 1)) (hp : pc + 1 = pc') (q : oGo p e below G T (mkF m pc' Ls (.null :: st))) : oGo p e below G T (mkF m pc Ls (st)) := by
  subst hp; exact q.step fun t r => XS.aconstNull X.here hx rfl hd r
theorem o_ldc (X : Stand p l e R s m args below meth c T locs cells slots) (hx : p.tables.exec = Jvm.exec) {pc pc' : Nat} {Ls : Array Slot} {st : List Value} {own : String} {index : Nat} {v : Int32} (hZ : Z.Warmed39 s.vm) (hown : s.vm.findClass own = some m.cls) (w : (Jvm.Cond.constant own index v).before a0 Z = true) (hd : decode c.code pc = .ok (.ldc index, 2)) (hp : pc + 2 = pc') (q : oGo p e below G T (mkF m pc' Ls (.int v :: st))) : oGo p e below G T (mkF m pc Ls (st)) := by
  subst hp; exact q.step fun t r => X.ldcI hx hown (mvT hZ w) rfl hd r
theorem o_ldcw (X : Stand p l e R s m args below meth c T locs cells slots) (hx : p.tables.exec = Jvm.exec) {pc pc' : Nat} {Ls : Array Slot} {st : List Value} {own : String} {index : Nat} {v : Int32} (hZ : Z.Warmed39 s.vm) (hown : s.vm.findClass own = some m.cls) (w : (Jvm.Cond.constant own index v).before a0 Z = true) (hd : decode c.code pc = .ok (.ldc_w index, 3)) (hp : pc + 3 = pc') (q : oGo p e below G T (mkF m pc' Ls (.int v :: st))) : oGo p e below G T (mkF m pc Ls (st)) := by
  subst hp; exact q.step fun t r => X.ldcWI hx hown (mvT hZ w) rfl hd r
theorem o_ldc2 (X : Stand p l e R s m args below meth c T locs cells slots) (hx : p.tables.exec = Jvm.exec) {pc pc' : Nat} {Ls : Array Slot} {st : List Value} {own : String} {index : Nat} {v : Int64} (hZ : Z.Warmed39 s.vm) (hown : s.vm.findClass own = some m.cls) (w : (Jvm.Cond.constantLong own index v).before a0 Z = true) (hd : decode c.code pc = .ok (.ldc2_w index, 3)) (hp : pc + 3 = pc') (q : oGo p e below G T (mkF m pc' Ls (.long v :: st))) : oGo p e below G T (mkF m pc Ls (st)) := by
  subst hp; exact q.step fun t r => X.ldc2J hx hown (mvT hZ w) rfl hd r
theorem o_iadd (X : Stand p l e R s m args below meth c T locs cells slots) (hx : p.tables.exec = Jvm.exec) {pc pc' : Nat} {Ls : Array Slot} {st : List Value} {x y : Int32} (hd : decode c.code pc = .ok (.iadd, 1)) (hp : pc + 1 = pc') (q : oGo p e below G T (mkF m pc' Ls (.int (x + y) :: st))) : oGo p e below G T (mkF m pc Ls (.int y :: .int x :: st)) := by
  subst hp; exact q.step fun t r => XS.iadd X.here hx rfl hd rfl r
theorem o_isub (X : Stand p l e R s m args below meth c T locs cells slots) (hx : p.tables.exec = Jvm.exec) {pc pc' : Nat} {Ls : Array Slot} {st : List Value} {x y : Int32} (hd : decode c.code pc = .ok (.isub, 1)) (hp : pc + 1 = pc') (q : oGo p e below G T (mkF m pc' Ls (.int (x - y) :: st))) : oGo p e below G T (mkF m pc Ls (.int y :: .int x :: st)) := by
  subst hp; exact q.step fun t r => XS.isub X.here hx rfl hd rfl r
theorem o_imul (X : Stand p l e R s m args below meth c T locs cells slots) (hx : p.tables.exec = Jvm.exec) {pc pc' : Nat} {Ls : Array Slot} {st : List Value} {x y : Int32} (hd : decode c.code pc = .ok (.imul, 1)) (hp : pc + 1 = pc') (q : oGo p e below G T (mkF m pc' Ls (.int (x * y) :: st))) : oGo p e below G T (mkF m pc Ls (.int y :: .int x :: st)) := by
  subst hp; exact q.step fun t r => XS.imul X.here hx rfl hd rfl r
theorem o_iand (X : Stand p l e R s m args below meth c T locs cells slots) (hx : p.tables.exec = Jvm.exec) {pc pc' : Nat} {Ls : Array Slot} {st : List Value} {x y : Int32} (hd : decode c.code pc = .ok (.iand, 1)) (hp : pc + 1 = pc') (q : oGo p e below G T (mkF m pc' Ls (.int (x &&& y) :: st))) : oGo p e below G T (mkF m pc Ls (.int y :: .int x :: st)) := by
  subst hp; exact q.step fun t r => XS.iand X.here hx rfl hd rfl r
theorem o_ior (X : Stand p l e R s m args below meth c T locs cells slots) (hx : p.tables.exec = Jvm.exec) {pc pc' : Nat} {Ls : Array Slot} {st : List Value} {x y : Int32} (hd : decode c.code pc = .ok (.ior, 1)) (hp : pc + 1 = pc') (q : oGo p e below G T (mkF m pc' Ls (.int (x ||| y) :: st))) : oGo p e below G T (mkF m pc Ls (.int y :: .int x :: st)) := by
  subst hp; exact q.step fun t r => XT.ior X.here hx rfl hd rfl r
theorem o_ixor (X : Stand p l e R s m args below meth c T locs cells slots) (hx : p.tables.exec = Jvm.exec) {pc pc' : Nat} {Ls : Array Slot} {st : List Value} {x y : Int32} (hd : decode c.code pc = .ok (.ixor, 1)) (hp : pc + 1 = pc') (q : oGo p e below G T (mkF m pc' Ls (.int (x ^^^ y) :: st))) : oGo p e below G T (mkF m pc Ls (.int y :: .int x :: st)) := by
  subst hp; exact q.step fun t r => XT.ixor X.here hx rfl hd rfl r
theorem o_ishl (X : Stand p l e R s m args below meth c T locs cells slots) (hx : p.tables.exec = Jvm.exec) {pc pc' : Nat} {Ls : Array Slot} {st : List Value} {x y : Int32} (hd : decode c.code pc = .ok (.ishl, 1)) (hp : pc + 1 = pc') (q : oGo p e below G T (mkF m pc' Ls (.int (x <<< (y &&& 31)) :: st))) : oGo p e below G T (mkF m pc Ls (.int y :: .int x :: st)) := by
  subst hp; exact q.step fun t r => XT.ishl X.here hx rfl hd rfl r
theorem o_ishr (X : Stand p l e R s m args below meth c T locs cells slots) (hx : p.tables.exec = Jvm.exec) {pc pc' : Nat} {Ls : Array Slot} {st : List Value} {x y : Int32} (hd : decode c.code pc = .ok (.ishr, 1)) (hp : pc + 1 = pc') (q : oGo p e below G T (mkF m pc' Ls (.int (x >>> (y &&& 31)) :: st))) : oGo p e below G T (mkF m pc Ls (.int y :: .int x :: st)) := by
  subst hp; exact q.step fun t r => XT.ishr X.here hx rfl hd rfl r
theorem o_iushr (X : Stand p l e R s m args below meth c T locs cells slots) (hx : p.tables.exec = Jvm.exec) {pc pc' : Nat} {Ls : Array Slot} {st : List Value} {x y : Int32} (hd : decode c.code pc = .ok (.iushr, 1)) (hp : pc + 1 = pc') (q : oGo p e below G T (mkF m pc' Ls (.int (XT.ushr x y) :: st))) : oGo p e below G T (mkF m pc Ls (.int y :: .int x :: st)) := by
  subst hp; exact q.step fun t r => XT.iushr X.here hx rfl hd rfl r
theorem o_ladd (X : Stand p l e R s m args below meth c T locs cells slots) (hx : p.tables.exec = Jvm.exec) {pc pc' : Nat} {Ls : Array Slot} {st : List Value} {x y : Int64} (hd : decode c.code pc = .ok (.ladd, 1)) (hp : pc + 1 = pc') (q : oGo p e below G T (mkF m pc' Ls (.long (x + y) :: st))) : oGo p e below G T (mkF m pc Ls (.long y :: .long x :: st)) := by
  subst hp; exact q.step fun t r => XT.ladd X.here hx rfl hd rfl r
theorem o_lsub (X : Stand p l e R s m args below meth c T locs cells slots) (hx : p.tables.exec = Jvm.exec) {pc pc' : Nat} {Ls : Array Slot} {st : List Value} {x y : Int64} (hd : decode c.code pc = .ok (.lsub, 1)) (hp : pc + 1 = pc') (q : oGo p e below G T (mkF m pc' Ls (.long (x - y) :: st))) : oGo p e below G T (mkF m pc Ls (.long y :: .long x :: st)) := by
  subst hp; exact q.step fun t r => XT.lsub X.here hx rfl hd rfl r
theorem o_lmul (X : Stand p l e R s m args below meth c T locs cells slots) (hx : p.tables.exec = Jvm.exec) {pc pc' : Nat} {Ls : Array Slot} {st : List Value} {x y : Int64} (hd : decode c.code pc = .ok (.lmul, 1)) (hp : pc + 1 = pc') (q : oGo p e below G T (mkF m pc' Ls (.long (x * y) :: st))) : oGo p e below G T (mkF m pc Ls (.long y :: .long x :: st)) := by
  subst hp; exact q.step fun t r => XT.lmul X.here hx rfl hd rfl r
theorem o_land (X : Stand p l e R s m args below meth c T locs cells slots) (hx : p.tables.exec = Jvm.exec) {pc pc' : Nat} {Ls : Array Slot} {st : List Value} {x y : Int64} (hd : decode c.code pc = .ok (.land, 1)) (hp : pc + 1 = pc') (q : oGo p e below G T (mkF m pc' Ls (.long (x &&& y) :: st))) : oGo p e below G T (mkF m pc Ls (.long y :: .long x :: st)) := by
  subst hp; exact q.step fun t r => XT.land X.here hx rfl hd rfl r
theorem o_lor (X : Stand p l e R s m args below meth c T locs cells slots) (hx : p.tables.exec = Jvm.exec) {pc pc' : Nat} {Ls : Array Slot} {st : List Value} {x y : Int64} (hd : decode c.code pc = .ok (.lor, 1)) (hp : pc + 1 = pc') (q : oGo p e below G T (mkF m pc' Ls (.long (x ||| y) :: st))) : oGo p e below G T (mkF m pc Ls (.long y :: .long x :: st)) := by
  subst hp; exact q.step fun t r => XT.lor X.here hx rfl hd rfl r
theorem o_lxor (X : Stand p l e R s m args below meth c T locs cells slots) (hx : p.tables.exec = Jvm.exec) {pc pc' : Nat} {Ls : Array Slot} {st : List Value} {x y : Int64} (hd : decode c.code pc = .ok (.lxor, 1)) (hp : pc + 1 = pc') (q : oGo p e below G T (mkF m pc' Ls (.long (x ^^^ y) :: st))) : oGo p e below G T (mkF m pc Ls (.long y :: .long x :: st)) := by
  subst hp; exact q.step fun t r => XT.lxor X.here hx rfl hd rfl r
theorem o_lshl (X : Stand p l e R s m args below meth c T locs cells slots) (hx : p.tables.exec = Jvm.exec) {pc pc' : Nat} {Ls : Array Slot} {st : List Value} {x : Int64} {y : Int32} (hd : decode c.code pc = .ok (.lshl, 1)) (hp : pc + 1 = pc') (q : oGo p e below G T (mkF m pc' Ls (.long (x <<< (y.toInt64 &&& 63)) :: st))) : oGo p e below G T (mkF m pc Ls (.int y :: .long x :: st)) := by
  subst hp; exact q.step fun t r => XT.lshl X.here hx rfl hd rfl r
theorem o_lshr (X : Stand p l e R s m args below meth c T locs cells slots) (hx : p.tables.exec = Jvm.exec) {pc pc' : Nat} {Ls : Array Slot} {st : List Value} {x : Int64} {y : Int32} (hd : decode c.code pc = .ok (.lshr, 1)) (hp : pc + 1 = pc') (q : oGo p e below G T (mkF m pc' Ls (.long (x >>> (y.toInt64 &&& 63)) :: st))) : oGo p e below G T (mkF m pc Ls (.int y :: .long x :: st)) := by
  subst hp; exact q.step fun t r => XT.lshr X.here hx rfl hd rfl r
theorem o_lushr (X : Stand p l e R s m args below meth c T locs cells slots) (hx : p.tables.exec = Jvm.exec) {pc pc' : Nat} {Ls : Array Slot} {st : List Value} {x : Int64} {y : Int32} (hd : decode c.code pc = .ok (.lushr, 1)) (hp : pc + 1 = pc') (q : oGo p e below G T (mkF m pc' Ls (.long (XT.ushrL x y) :: st))) : oGo p e below G T (mkF m pc Ls (.int y :: .long x :: st)) := by
  subst hp; exact q.step fun t r => XT.lushr X.here hx rfl hd rfl r
theorem o_lcmp (X : Stand p l e R s m args below meth c T locs cells slots) (hx : p.tables.exec = Jvm.exec) {pc pc' : Nat} {Ls : Array Slot} {st : List Value} {x y : Int64} (hd : decode c.code pc = .ok (.lcmp, 1)) (hp : pc + 1 = pc') (q : oGo p e below G T (mkF m pc' Ls (.int (XT.cmpL x y) :: st))) : oGo p e below G T (mkF m pc Ls (.long y :: .long x :: st)) := by
  subst hp; exact q.step fun t r => XT.lcmp X.here hx rfl hd rfl r
theorem o_irem (X : Stand p l e R s m args below meth c T locs cells slots) (hx : p.tables.exec = Jvm.exec) {pc pc' : Nat} {Ls : Array Slot} {st : List Value} {x y : Int32} (hd : decode c.code pc = .ok (.irem, 1)) (hy : y ≠ 0) (hp : pc + 1 = pc') (q : oGo p e below G T (mkF m pc' Ls (.int (x % y) :: st))) : oGo p e below G T (mkF m pc Ls (.int y :: .int x :: st)) := by
  subst hp; exact q.step fun t r => iremM X hx rfl hd rfl hy r
theorem o_lrem (X : Stand p l e R s m args below meth c T locs cells slots) (hx : p.tables.exec = Jvm.exec) {pc pc' : Nat} {Ls : Array Slot} {st : List Value} {x y : Int64} (hd : decode c.code pc = .ok (.lrem, 1)) (hy : y ≠ 0) (hp : pc + 1 = pc') (q : oGo p e below G T (mkF m pc' Ls (.long (x % y) :: st))) : oGo p e below G T (mkF m pc Ls (.long y :: .long x :: st)) := by
  subst hp; exact q.step fun t r => XT.lrem X.here hx rfl hd rfl hy (by rw [lrem_mod]; exact r)
theorem o_i2l (X : Stand p l e R s m args below meth c T locs cells slots) (hx : p.tables.exec = Jvm.exec) {pc pc' : Nat} {Ls : Array Slot} {st : List Value} {x : Int32} (hd : decode c.code pc = .ok (.i2l, 1)) (hp : pc + 1 = pc') (q : oGo p e below G T (mkF m pc' Ls (.long (x.toInt64) :: st))) : oGo p e below G T (mkF m pc Ls (.int x :: st)) := by
  subst hp; exact q.step fun t r => XT.i2l X.here hx rfl hd rfl r
theorem o_l2i (X : Stand p l e R s m args below meth c T locs cells slots) (hx : p.tables.exec = Jvm.exec) {pc pc' : Nat} {Ls : Array Slot} {st : List Value} {x : Int64} (hd : decode c.code pc = .ok (.l2i, 1)) (hp : pc + 1 = pc') (q : oGo p e below G T (mkF m pc' Ls (.int (x.toInt32) :: st))) : oGo p e below G T (mkF m pc Ls (.long x :: st)) := by
  subst hp; exact q.step fun t r => XT.l2i X.here hx rfl hd rfl r
theorem o_i2c (X : Stand p l e R s m args below meth c T locs cells slots) (hx : p.tables.exec = Jvm.exec) {pc pc' : Nat} {Ls : Array Slot} {st : List Value} {x : Int32} (hd : decode c.code pc = .ok (.i2c, 1)) (hp : pc + 1 = pc') (q : oGo p e below G T (mkF m pc' Ls (.int (x.toUInt32.toUInt16.toUInt32.toInt32) :: st))) : oGo p e below G T (mkF m pc Ls (.int x :: st)) := by
  subst hp; exact q.step fun t r => XT.i2c X.here hx rfl hd rfl r
theorem o_i2b (X : Stand p l e R s m args below meth c T locs cells slots) (hx : p.tables.exec = Jvm.exec) {pc pc' : Nat} {Ls : Array Slot} {st : List Value} {x : Int32} (hd : decode c.code pc = .ok (.i2b, 1)) (hp : pc + 1 = pc') (q : oGo p e below G T (mkF m pc' Ls (.int (x.toInt8.toInt32) :: st))) : oGo p e below G T (mkF m pc Ls (.int x :: st)) := by
  subst hp; exact q.step fun t r => XT.i2b X.here hx rfl hd rfl r
theorem o_iinc (X : Stand p l e R s m args below meth c T locs cells slots) (hx : p.tables.exec = Jvm.exec) {pc pc' : Nat} {Ls : Array Slot} {st : List Value} {k : Nat} {cst : Int} {x : Int32} {l' : Array Slot} (v : Int32) (hd : decode c.code pc = .ok (.iinc k cst, 3)) (hv : Int32.ofInt cst = v) (hl : Ls[k]? = some (.val (.int x))) (hl' : storeLocals Ls k (.int (x + v)) = some l') (hp : pc + 3 = pc') (q : oGo p e below G T (mkF m pc' l' (st))) : oGo p e below G T (mkF m pc Ls (st)) := by
  subst hp; exact q.step fun t r => XT.iincV X.here hx rfl v hd hv hl hl' r
theorem o_dup (X : Stand p l e R s m args below meth c T locs cells slots) (hx : p.tables.exec = Jvm.exec) {pc pc' : Nat} {Ls : Array Slot} {st : List Value} {v : Value} (hd : decode c.code pc = .ok (.dup, 1)) (hc : v.category = 1) (hp : pc + 1 = pc') (q : oGo p e below G T (mkF m pc' Ls (v :: v :: st))) : oGo p e below G T (mkF m pc Ls (v :: st)) := by
  subst hp; exact q.step fun t r => XS.dup X.here hx rfl hd rfl hc r
theorem o_pop (X : Stand p l e R s m args below meth c T locs cells slots) (hx : p.tables.exec = Jvm.exec) {pc pc' : Nat} {Ls : Array Slot} {st : List Value} {v : Value} (hd : decode c.code pc = .ok (.pop, 1)) (hc : v.category = 1) (hp : pc + 1 = pc') (q : oGo p e below G T (mkF m pc' Ls (st))) : oGo p e below G T (mkF m pc Ls (v :: st)) := by
  subst hp; exact q.step fun t r => XT.pop X.here hx rfl hd rfl hc r
theorem o_goto (X : Stand p l e R s m args below meth c T locs cells slots) (hx : p.tables.exec = Jvm.exec) {pc pc' : Nat} {Ls : Array Slot} {st : List Value} {o : Int} (hd : decode c.code pc = .ok (.goto o, 3)) (ho : 0 ≤ (pc : Int) + o) (hp : ((pc : Int) + o).toNat = pc') (q : oGo p e below G T (mkF m pc' Ls (st))) : oGo p e below G T (mkF m pc Ls (st)) :=
  q.step fun t r => XS.goto X.here hx rfl rfl hd ho hp r
theorem o_icmpT (X : Stand p l e R s m args below meth c T locs cells slots) (hx : p.tables.exec = Jvm.exec) {pc pc' : Nat} {Ls : Array Slot} {st : List Value} {o : Int} {cd : ClassFile.Cond} {x y : Int32} (hd : decode c.code pc = .ok (.if_icmp cd o, 3)) (hc : if_icmp.holds cd x y = true) (ho : 0 ≤ (pc : Int) + o) (hp : ((pc : Int) + o).toNat = pc') (q : oGo p e below G T (mkF m pc' Ls (st))) : oGo p e below G T (mkF m pc Ls (.int y :: .int x :: st)) :=
  q.step fun t r => XS.icmpYes X.here hx rfl rfl hd rfl hc ho hp r
theorem o_icmpF (X : Stand p l e R s m args below meth c T locs cells slots) (hx : p.tables.exec = Jvm.exec) {pc pc' : Nat} {Ls : Array Slot} {st : List Value} {o : Int} {cd : ClassFile.Cond} {x y : Int32} (hd : decode c.code pc = .ok (.if_icmp cd o, 3)) (hc : if_icmp.holds cd x y = false) (hp : pc + 3 = pc') (q : oGo p e below G T (mkF m pc' Ls (st))) : oGo p e below G T (mkF m pc Ls (.int y :: .int x :: st)) := by
  subst hp; exact q.step fun t r => XS.icmpNo X.here hx rfl hd rfl hc r
theorem o_ifT (X : Stand p l e R s m args below meth c T locs cells slots) (hx : p.tables.exec = Jvm.exec) {pc pc' : Nat} {Ls : Array Slot} {st : List Value} {o : Int} {cd : ClassFile.Cond} {x : Int32} (hd : decode c.code pc = .ok (.ifCond cd o, 3)) (hc : ifCond.holds cd x = true) (ho : 0 ≤ (pc : Int) + o) (hp : ((pc : Int) + o).toNat = pc') (q : oGo p e below G T (mkF m pc' Ls (st))) : oGo p e below G T (mkF m pc Ls (.int x :: st)) :=
  q.step fun t r => XS.ifYes X.here hx rfl rfl hd rfl hc ho hp r
theorem o_ifF (X : Stand p l e R s m args below meth c T locs cells slots) (hx : p.tables.exec = Jvm.exec) {pc pc' : Nat} {Ls : Array Slot} {st : List Value} {o : Int} {cd : ClassFile.Cond} {x : Int32} (hd : decode c.code pc = .ok (.ifCond cd o, 3)) (hc : ifCond.holds cd x = false) (hp : pc + 3 = pc') (q : oGo p e below G T (mkF m pc' Ls (st))) : oGo p e below G T (mkF m pc Ls (.int x :: st)) := by
  subst hp; exact q.step fun t r => XS.ifNo X.here hx rfl hd rfl hc r
theorem o_acmpT (X : Stand p l e R s m args below meth c T locs cells slots) (hx : p.tables.exec = Jvm.exec) {pc pc' : Nat} {Ls : Array Slot} {st : List Value} {o : Int} {cd : ClassFile.ACond} {x y : Value} (hd : decode c.code pc = .ok (.if_acmp cd o, 3)) (h1 : x.isRef = true) (h2 : y.isRef = true) (hc : XT.acmp cd x y = true) (ho : 0 ≤ (pc : Int) + o) (hp : ((pc : Int) + o).toNat = pc') (q : oGo p e below G T (mkF m pc' Ls (st))) : oGo p e below G T (mkF m pc Ls (y :: x :: st)) :=
  q.step fun t r => XT.acmpYes X.here hx rfl rfl hd rfl h1 h2 hc ho hp r
theorem o_acmpF (X : Stand p l e R s m args below meth c T locs cells slots) (hx : p.tables.exec = Jvm.exec) {pc pc' : Nat} {Ls : Array Slot} {st : List Value} {o : Int} {cd : ClassFile.ACond} {x y : Value} (hd : decode c.code pc = .ok (.if_acmp cd o, 3)) (h1 : x.isRef = true) (h2 : y.isRef = true) (hc : XT.acmp cd x y = false) (hp : pc + 3 = pc') (q : oGo p e below G T (mkF m pc' Ls (st))) : oGo p e below G T (mkF m pc Ls (y :: x :: st)) := by
  subst hp; exact q.step fun t r => XT.acmpNo X.here hx rfl hd rfl h1 h2 hc r
theorem o_retI (X : Stand p l e R s m args below meth c T locs cells slots) (hx : p.tables.exec = Jvm.exec) (hret : meth.sig.returnType = some .int) (hlk : meth.locks = false) {pc : Nat} {Ls : Array Slot} {st : List Value} {z : Int32} (hd : decode c.code pc = .ok (.ireturn, 1)) {Q : Option Value → Heap → List Loc → Prop} {C N : Nat} (hc : cells ≤ C) (hn : slots ≤ N) (hQ : Q (some (.int z)) T.heap locs) : oGo p e below (oG s Q C N) T (mkF m pc Ls (.int z :: st)) := by
  obtain ⟨fs, hr, hrun, hended, hW, hsame⟩ := X.leave (v := some (.int z)) (fun h => by rw [hret] at h; cases h) hlk
  exact ⟨_, _, retOut X hx hret rfl (Or.inl ⟨rfl, Or.inl rfl, _, rfl⟩) hd hr, hrun, hended, _, _, rfl, hQ, ⟨_, rfl⟩, hW, hsame.mono hc hn⟩
theorem o_retJ (X : Stand p l e R s m args below meth c T locs cells slots) (hx : p.tables.exec = Jvm.exec) (hret : meth.sig.returnType = some .long) (hlk : meth.locks = false) {pc : Nat} {Ls : Array Slot} {st : List Value} {z : Int64} (hd : decode c.code pc = .ok (.lreturn, 1)) {Q : Option Value → Heap → List Loc → Prop} {C N : Nat} (hc : cells ≤ C) (hn : slots ≤ N) (hQ : Q (some (.long z)) T.heap locs) : oGo p e below (oG s Q C N) T (mkF m pc Ls (.long z :: st)) := by
  obtain ⟨fs, hr, hrun, hended, hW, hsame⟩ := X.leave (v := some (.long z)) (fun h => by rw [hret] at h; cases h) hlk
  exact ⟨_, _, retOut X hx hret rfl (Or.inr (Or.inl ⟨rfl, rfl, _, rfl⟩)) hd hr, hrun, hended, _, _, rfl, hQ, ⟨_, rfl⟩, hW, hsame.mono hc hn⟩
theorem o_retD (X : Stand p l e R s m args below meth c T locs cells slots) (hx : p.tables.exec = Jvm.exec) (hret : meth.sig.returnType = some .double) (hlk : meth.locks = false) {pc : Nat} {Ls : Array Slot} {st : List Value} {z : UInt64} (hd : decode c.code pc = .ok (.dreturn, 1)) {Q : Option Value → Heap → List Loc → Prop} {C N : Nat} (hc : cells ≤ C) (hn : slots ≤ N) (hQ : Q (some (.double z)) T.heap locs) : oGo p e below (oG s Q C N) T (mkF m pc Ls (.double z :: st)) := by
  obtain ⟨fs, hr, hrun, hended, hW, hsame⟩ := X.leave (v := some (.double z)) (fun h => by rw [hret] at h; cases h) hlk
  exact ⟨_, _, retOut X hx hret rfl (Or.inr (Or.inr (Or.inl ⟨rfl, rfl, _, rfl⟩))) hd hr, hrun, hended, _, _, rfl, hQ, ⟨_, rfl⟩, hW, hsame.mono hc hn⟩
theorem o_retZ (X : Stand p l e R s m args below meth c T locs cells slots) (hx : p.tables.exec = Jvm.exec) (hret : meth.sig.returnType = some .boolean) (hlk : meth.locks = false) {pc : Nat} {Ls : Array Slot} {st : List Value} {z : Int32} (hd : decode c.code pc = .ok (.ireturn, 1)) (hz : z &&& 1 = z) {Q : Option Value → Heap → List Loc → Prop} {C N : Nat} (hc : cells ≤ C) (hn : slots ≤ N) (hQ : Q (some (.int z)) T.heap locs) : oGo p e below (oG s Q C N) T (mkF m pc Ls (.int z :: st)) := by
  obtain ⟨fs, hr, hrun, hended, hW, hsame⟩ := X.leave (v := some (.int z)) (fun h => by rw [hret] at h; cases h) hlk
  have hz' : nar .boolean z = z := hz
  exact ⟨_, _, retN X hx (t := .boolean) hret (Or.inl rfl) hd (by rw [hz']; exact hr), hrun, hended, _, _, rfl, hQ, ⟨_, rfl⟩, hW, hsame.mono hc hn⟩
theorem o_retA (X : Stand p l e R s m args below meth c T locs cells slots) (hx : p.tables.exec = Jvm.exec) {C1 : FieldType} (hret : meth.sig.returnType = some C1) (ht : C1.isReference = true) (hlk : meth.locks = false) {pc : Nat} {Ls : Array Slot} {st : List Value} {z : Value} (hz : z.isRef = true) (hna : narrow C1 z = z) (hd : decode c.code pc = .ok (.areturn, 1)) {Q : Option Value → Heap → List Loc → Prop} {C N : Nat} (hc : cells ≤ C) (hn : slots ≤ N) (hQ : Q (some z) T.heap locs) : oGo p e below (oG s Q C N) T (mkF m pc Ls (z :: st)) := by
  obtain ⟨fs, hr, hrun, hended, hW, hsame⟩ := X.leave (v := some z) (fun h => by rw [hret] at h; cases h) hlk
  exact ⟨_, _, retOut X hx hret hna (Or.inr (Or.inr (Or.inr (Or.inr ⟨rfl, ht, hz⟩)))) hd hr, hrun, hended, _, _, rfl, hQ, ⟨_, rfl⟩, hW, hsame.mono hc hn⟩
theorem o_retV (X : Stand p l e R s m args below meth c T locs cells slots) (hx : p.tables.exec = Jvm.exec) (hret : meth.sig.returnType = none) (hlk : meth.locks = false) {pc : Nat} {Ls : Array Slot} (hd : decode c.code pc = .ok (.return_, 1)) {Q : Option Value → Heap → List Loc → Prop} {C N : Nat} (hc : cells ≤ C) (hn : slots ≤ N) (hQ : Q none T.heap locs) : oGo p e below (oG s Q C N) T (mkF m pc Ls []) := by
  obtain ⟨fs, hr, hrun, hended, hW, hsame⟩ := X.leave (v := none) (fun _ => rfl) hlk
  exact ⟨_, _, X.returnOut hx hret hd hr, hrun, hended, _, _, rfl, hQ, ⟨_, rfl⟩, hW, hsame.mono hc hn⟩
theorem o_callS (X : Stand p l e R s m args below meth c T locs cells slots) (hx : p.tables.exec = Jvm.exec) (hZ : Z.Warmed39 s.vm) {own : String} {index : Nat} {y : MethodName} {bytes : ByteArray} {maxL : Nat} {ret : Option FieldType} (hown : s.vm.findClass own = some m.cls) (w1 : (Jvm.Cond.methodLink own index y).before a0 Z = true) (w2 : (Jvm.Cond.static y).before a0 Z = true) (w3 : (Jvm.Cond.initialized y.cls).before a0 Z = true) (w4 : (Jvm.Cond.code y bytes maxL ret).before a0 Z = true) (hy : y.cls ≠ "java/lang/invoke/MethodHandle" ∧ y.cls ≠ "java/lang/invoke/VarHandle") {rm : Room} {as' : Array Value} {Q : Option Value → Heap → List Loc → Prop} (hM : oCon l Z y bytes maxL ret rm as' h Q) (eT : T.heap = h) {pc pc' : Nat} {Ls : Array Slot} {st : List Value} (hsz : Ls.size = c.maxLocals) (argsL rest : List Value) (has : argsL.toArray = as') {ps : List FieldType} {rr : Option FieldType} (hpd : parseMethodDescriptor y.desc = some ⟨ps, rr⟩) (hlen : argsL.length = ps.length) (hst : st = argsL.reverse ++ rest) (W : Nat) (hW : (rest.map fun v => v.category).sum ≤ W) (hd : decode c.code pc = .ok (.invokestatic index, 3)) (hp : pc + 3 = pc') (hf : rm.frames + 1 ≤ R.frames) (hl : W + (maxL + 11) + rm.locals ≤ R.locals) (hc : cells + rm.cells ≤ R.cells) (hn : slots + rm.slots ≤ R.slots) :
    ∃ v T' L, Stand p l e R s m args below meth c T' (locs ++ L) (cells + rm.cells) (slots + rm.slots) ∧ Q v T'.heap L ∧ ∀ t, Steps p.tables e below (T'.setTop (mkF m pc' Ls (v.toList ++ rest))) t → Steps p.tables e below (T.setTop (mkF m pc Ls st)) t := by
  subst hp has
  obtain ⟨v, vm₁, ⟨T', L', k', n'⟩, -, X', ⟨Lc, hQ, l1, y1, z1⟩, st'⟩ := Jvm.LawKit.callS X hx hown (mvT hZ w1) (mvT hZ w2) (mvT hZ w3) (mvT hZ w4) hy (backOf (W := W) (hM []) hZ w4 w3 hf hl) (g := mkF m pc Ls st) rfl hsz (argsL := argsL) (rest := rest) (lenOf hpd hlen) hst (by show 2 * 0 + _ ≤ _; omega) hd (fun _ _ => ⟨rfl, eT, hc, hn⟩)
  dsimp only [Pt.U, Pt.locs, Pt.cells, Pt.slots] at X' l1 y1 z1 st' hQ
  subst l1 y1 z1
  exact ⟨v, T', Lc, X', hQ, st'⟩
theorem o_callN (X : Stand p l e R s m args below meth c T locs cells slots) (hx : p.tables.exec = Jvm.exec) (hZ : Z.Warmed39 s.vm) {own : String} {index : Nat} {y : MethodName} {bytes : ByteArray} {maxL : Nat} (hown : s.vm.findClass own = some m.cls) (hi : y.name = "<init>") (w1 : (Jvm.Cond.methodLink own index y).before a0 Z = true) (w2 : (Jvm.Cond.instanceMethod y).before a0 Z = true) (w3 : (Jvm.Cond.initialized y.cls).before a0 Z = true) (w4 : (Jvm.Cond.code y bytes maxL none).before a0 Z = true) (hy : y.cls ≠ "java/lang/invoke/MethodHandle" ∧ y.cls ≠ "java/lang/invoke/VarHandle") {rm : Room} {as' : Array Value} {Q : Option Value → Heap → List Loc → Prop} (hM : oCon l Z y bytes maxL none rm as' h Q) (eT : T.heap = h) {pc pc' : Nat} {Ls : Array Slot} {st : List Value} (hsz : Ls.size = c.maxLocals) {a : Addr} (argsL rest : List Value) (has : (Value.ref a :: argsL).toArray = as') {ps : List FieldType} {rr : Option FieldType} (hpd : parseMethodDescriptor y.desc = some ⟨ps, rr⟩) (hlen : argsL.length = ps.length) (hst : st = argsL.reverse ++ .ref a :: rest) (W : Nat) (hW : (rest.map fun v => v.category).sum ≤ W) (hd : decode c.code pc = .ok (.invokespecial index, 3)) (hp : pc + 3 = pc') (hf : rm.frames + 1 ≤ R.frames) (hl : W + (maxL + 11) + rm.locals ≤ R.locals) (hc : cells + rm.cells ≤ R.cells) (hn : slots + rm.slots ≤ R.slots) :
    ∃ v T' L, Stand p l e R s m args below meth c T' (locs ++ L) (cells + rm.cells) (slots + rm.slots) ∧ Q v T'.heap L ∧ ∀ t, Steps p.tables e below (T'.setTop (mkF m pc' Ls (v.toList ++ rest))) t → Steps p.tables e below (T.setTop (mkF m pc Ls st)) t := by
  subst hp has
  obtain ⟨v, vm₁, ⟨T', L', k', n'⟩, -, X', ⟨Lc, hQ, l1, y1, z1⟩, st'⟩ := X.specialBack hx hi hown (mvT hZ w1) (mvT hZ w2) (mvT hZ w4) hy (backOf (W := W) (hM []) hZ w4 w3 hf hl) (g := mkF m pc Ls st) rfl hsz (Steps.refl _) (a := a) (argsL := argsL) (rest := rest) (lenOf hpd hlen) hst (by show 2 * 0 + _ ≤ _; omega) hd (fun _ _ => ⟨rfl, eT, hc, hn⟩)
  dsimp only [Pt.U, Pt.locs, Pt.cells, Pt.slots] at X' l1 y1 z1 st' hQ
  subst l1 y1 z1
  exact ⟨v, T', Lc, X', hQ, fun t r => st'.trans r⟩
theorem o_callV (X : Stand p l e R s m args below meth c T locs cells slots) (hx : p.tables.exec = Jvm.exec) (hZ : Z.Warmed39 s.vm) {own : String} {index : Nat} {y : MethodName} {bytes : ByteArray} {maxL : Nat} {ret : Option FieldType} (hown : s.vm.findClass own = some m.cls) {C : String} (w1 : (Jvm.Cond.methodLink own index y).before a0 Z = true) (w2 : (Jvm.Cond.declares y).before a0 Z = true) (w5 : (Jvm.Cond.selects C y y).before a0 Z = true) (w6 : (Jvm.Cond.instanceMethod y).before a0 Z = true) (w3 : (Jvm.Cond.initialized y.cls).before a0 Z = true) (w4 : (Jvm.Cond.code y bytes maxL ret).before a0 Z = true) (hy : y.cls ≠ "java/lang/invoke/MethodHandle" ∧ y.cls ≠ "java/lang/invoke/VarHandle") {aa : Addr} (E : Exa Z h aa C) {rm : Room} {as' : Array Value} {Q : Option Value → Heap → List Loc → Prop} (hM : oCon l Z y bytes maxL ret rm as' h Q) (eT : T.heap = h) {pc pc' : Nat} {Ls : Array Slot} {st : List Value} (hsz : Ls.size = c.maxLocals) (argsL rest : List Value) (has : (Value.ref aa :: argsL).toArray = as') {ps : List FieldType} {rr : Option FieldType} (hpd : parseMethodDescriptor y.desc = some ⟨ps, rr⟩) (hlen : argsL.length = ps.length) (hst : st = argsL.reverse ++ .ref aa :: rest) (W : Nat) (hW : (rest.map fun v => v.category).sum ≤ W) (hd : decode c.code pc = .ok (.invokevirtual index, 3)) (hp : pc + 3 = pc') (hf : rm.frames + 1 ≤ R.frames) (hl : W + (maxL + 11) + rm.locals ≤ R.locals) (hc : cells + rm.cells ≤ R.cells) (hn : slots + rm.slots ≤ R.slots) :
    ∃ v T' L, Stand p l e R s m args below meth c T' (locs ++ L) (cells + rm.cells) (slots + rm.slots) ∧ Q v T'.heap L ∧ ∀ t, Steps p.tables e below (T'.setTop (mkF m pc' Ls (v.toList ++ rest))) t → Steps p.tables e below (T.setTop (mkF m pc Ls st)) t := by
  subst hp has
  obtain ⟨v, vm₁, ⟨T', L', k', n'⟩, -, X', ⟨Lc, hQ, l1, y1, z1⟩, st'⟩ := X.virtualBack hx hown (mvT hZ w1) (mvT hZ w2) (notFace_of_selects (args := #[]) (mvT hZ w5)) (mvT hZ w5) (mvT hZ w6) hy (backOf (W := W) (hM []) hZ w4 w3 hf hl) (isOf hZ eT E).choose_spec.choose_spec.1 (isOf hZ eT E).choose_spec.choose_spec.2.2 (g := mkF m pc Ls st) rfl hsz (Steps.refl _) (argsL := argsL) (rest := rest) (lenOf hpd hlen) hst (by show 2 * 0 + _ ≤ _; omega) hd (fun _ _ => ⟨rfl, eT, hc, hn⟩)
  dsimp only [Pt.U, Pt.locs, Pt.cells, Pt.slots] at X' l1 y1 z1 st' hQ
  subst l1 y1 z1
  exact ⟨v, T', Lc, X', hQ, fun t r => st'.trans r⟩
theorem o_bz (b : Prop) [Decidable b] : (if b then (1 : Int32) else 0) &&& 1 = if b then 1 else 0 := by by_cases q : b <;> simp [q]
theorem o_same {k n : Nat} (X : Stand p l e R s m args below meth c T (locs ++ []) (cells + k) (slots + n)) (hk : k = 0) (hn : n = 0) : Stand p l e R s m args below meth c T locs cells slots := by subst hk hn; simpa using X
theorem o_flat {k n : Nat} (X : Stand p l e R s m args below meth c T locs (cells + k) (slots + n)) (hk : k = 0) (hn : n = 0) : Stand p l e R s m args below meth c T locs cells slots := by subst hk hn; exact X
theorem o_fldI {a : Addr} {C n d : String} {x y : Int32} (q : y = x) (F : Fld Z h a C n d (.int x)) : Fld Z h a C n d (.int y) := q ▸ F
theorem o_fldJ {a : Addr} {C n d : String} {x y : Int64} (q : y = x) (F : Fld Z h a C n d (.long x)) : Fld Z h a C n d (.long y) := q ▸ F
theorem o_nb {z : Int32} (q : z = 0 ∨ z = 1) : narrow .boolean (.int z) = .int z := by rcases q with rfl | rfl <;> rfl
theorem o_fb {z : Int32} (q : z = 0 ∨ z = 1) : fits .boolean (.int z) = true := by rcases q with rfl | rfl <;> rfl
theorem o_zb {z : Int32} (q : z = 0 ∨ z = 1) : z &&& 1 = z := by rcases q with rfl | rfl <;> rfl
theorem o_or1 {z : Int32} (q : z = 0 ∨ z = 1) : (z ||| 1) = 0 ∨ (z ||| 1) = 1 := by rcases q with rfl | rfl <;> simp
theorem o_or0 {z : Int32} (q : z = 0 ∨ z = 1) : (z ||| 0) = 0 ∨ (z ||| 0) = 1 := by rcases q with rfl | rfl <;> simp
def oInts (Z : State) (h : Heap) (a : Addr) (xs : List Int32) : Prop := ∃ c : Cell, Arr Z h a c .int ∧ c.slots = (xs.map Value.int).toArray ∧ xs.length < 2 ^ 31
theorem oInts.lt {a : Addr} {xs : List Int32} (F : oInts Z h a xs) : a < h.size := by obtain ⟨c, A, -⟩ := F; exact A.lt
theorem oInts.ext {h' : Heap} {a : Addr} {xs : List Int32} (F : oInts Z h a xs) (E : Ext h h') : oInts Z h' a xs := by obtain ⟨c, A, r⟩ := F; exact ⟨c, A.ext E, r⟩
theorem oInts.keep {h' : Heap} {a : Addr} {xs : List Int32} {ws : List Addr} (F : oInts Z h a xs) (K : Keep h h' ws) (q : a ∉ ws) : oInts Z h' a xs := by obtain ⟨c, A, r⟩ := F; exact ⟨c, ⟨K.2.1 a c A.1 q, A.2⟩, r⟩
theorem oInts.set {h' : Heap} {a : Addr} {xs : List Int32} {i : Nat} {v : Int32} (F : oInts Z h a xs) (W : Wr h h' a i (.int v)) : oInts Z h' a (xs.set i v) := by
  obtain ⟨c, A, S, L⟩ := F
  refine ⟨_, A.same W, ?_, by simpa using L⟩
  simp [Cell.setSlot, S, List.map_set]
theorem oInts.new {a : Addr} {k : ClassId} {n : Int32} (A : Arr Z h a (newA k .int n) .int) (q : ¬ n < 0) : oInts Z h a (List.replicate n.toNatClampNeg 0) := by
  refine ⟨_, A, ?_, ?_⟩
  · simp [newA, defaultValue]
  · have := n.toInt_lt; simp only [List.length_replicate]; have h2 : n.toInt = (n.toNatClampNeg : Int) := nat_of q; omega
theorem oInts.at {a : Addr} {xs : List Int32} {j v : Int32} (F : oInts Z h a xs) (q : ¬ j < 0) (hj : xs[j.toNatClampNeg]? = some v) : ∃ c : Cell, Arr Z h a c .int ∧ ¬ (j < 0 ∨ c.slots.size ≤ j.toNatClampNeg) ∧ c.slots[j.toNatClampNeg]? = some (.int v) := by
  obtain ⟨c, A, S, L⟩ := F
  have hl : j.toNatClampNeg < xs.length := by
    rcases Nat.lt_or_ge j.toNatClampNeg xs.length with r | r
    · exact r
    · rw [List.getElem?_eq_none r] at hj; cases hj
  refine ⟨c, A, ?_, ?_⟩
  · rw [S]; simp only [List.size_toArray, List.length_map]; rintro (r | r)
    · exact q r
    · omega
  · rw [S]; simp [hj]
theorem o_iaload (X : Stand p l e R s m args below meth c T locs cells slots) (hx : p.tables.exec = Jvm.exec) (hZ : Z.Warmed39 s.vm) (eT : T.heap = h) {a : Addr} {xs : List Int32} (F : oInts Z h a xs) {pc pc' : Nat} {Ls : Array Slot} {st : List Value} {j v : Int32} (hd : decode c.code pc = .ok (.iaload, 1)) (q0 : ¬ j < 0) (hj : xs[j.toNatClampNeg]? = some v) (hp : pc + 1 = pc') (q : oGo p e below G T (mkF m pc' Ls (.int v :: st))) : oGo p e below G T (mkF m pc Ls (.int j :: .ref a :: st)) := by
  subst hp
  obtain ⟨cl, A, h1, h2⟩ := F.at q0 hj
  exact q.step fun t r => X.iaload (g := mkF m pc Ls (.int j :: .ref a :: st)) (rest := st) hx (by rw [eT]; exact A.1) (State.isArrayOf_alike hZ.alike A.2.1) A.2.2 h1 h2 rfl rfl hd t r
theorem o_alen (X : Stand p l e R s m args below meth c T locs cells slots) (hx : p.tables.exec = Jvm.exec) (hZ : Z.Warmed39 s.vm) (eT : T.heap = h) {a : Addr} {xs : List Int32} (F : oInts Z h a xs) {pc pc' : Nat} {Ls : Array Slot} {st : List Value} (hd : decode c.code pc = .ok (.arraylength, 1)) (hp : pc + 1 = pc') (q : oGo p e below G T (mkF m pc' Ls (.int xs.length.toInt32 :: st))) : oGo p e below G T (mkF m pc Ls (.ref a :: st)) := by
  subst hp
  obtain ⟨cl, A, S, L⟩ := F
  refine q.step fun t r => X.arraylength (g := mkF m pc Ls (.ref a :: st)) (rest := st) hx (by rw [eT]; exact A.1) (State.isArrayOf_alike hZ.alike A.2.1) rfl rfl hd t ?_
  have : cl.slots.size = xs.length := by rw [S]; simp
  rw [this]; exact r
theorem o_iastore (X : Stand p l e R s m args below meth c T locs cells slots) (hx : p.tables.exec = Jvm.exec) (hZ : Z.Warmed39 s.vm) (eT : T.heap = h) {a : Addr} {xs : List Int32} (F : oInts Z h a xs) {pc pc' : Nat} {Ls : Array Slot} {st : List Value} {j x : Int32} (hd : decode c.code pc = .ok (.iastore, 1)) (q0 : ¬ j < 0) (hj : j.toNatClampNeg < xs.length) (hp : pc + 1 = pc') :
    ∃ T' h', Stand p l e R s m args below meth c T' (locs ++ [⟨a, j.toNatClampNeg⟩]) cells slots ∧ T'.heap = h' ∧ Wr h h' a j.toNatClampNeg (.int x) ∧ ∀ t, Steps p.tables e below (T'.setTop (mkF m pc' Ls st)) t → Steps p.tables e below (T.setTop (mkF m pc Ls (.int x :: .int j :: .ref a :: st))) t := by
  subst hp
  obtain ⟨v, hv⟩ : ∃ v, xs[j.toNatClampNeg]? = some v := ⟨_, List.getElem?_eq_getElem hj⟩
  obtain ⟨cl, A, h1, h2⟩ := F.at q0 hv
  obtain ⟨T', h', X', e', W', st'⟩ := stI X hx hZ eT A (x := x) h1 (g := mkF m pc Ls (.int x :: .int j :: .ref a :: st)) (rest := st) rfl rfl hd
  exact ⟨T', h', X', e', W', st'⟩
theorem o_newI (X : Stand p l e R s m args below meth c T locs cells slots) (hx : p.tables.exec = Jvm.exec) (hZ : Z.Warmed39 s.vm) (w : (Jvm.Cond.arrayClass .int).before a0 Z = true) (eT : T.heap = h) {pc pc' : Nat} {Ls : Array Slot} {st : List Value} {n : Int32} (hd : decode c.code pc = .ok (.newarray .int, 2)) (hn : ¬ n < 0) (cap : Nat) (hcap : n.toNatClampNeg ≤ cap) (hb : cap * 8 ≤ 536870912) (hc : cells + 1 ≤ R.cells) (hl : slots + cap ≤ R.slots) (hp : pc + 2 = pc') :
    ∃ T' h', Stand p l e R s m args below meth c T' locs (cells + 1) (slots + cap) ∧ T'.heap = h' ∧ Ext h h' ∧ oInts Z h' h.size (List.replicate n.toNatClampNeg 0) ∧ ∀ t, Steps p.tables e below (T'.setTop (mkF m pc' Ls (.ref h.size :: st))) t → Steps p.tables e below (T.setTop (mkF m pc Ls (.int n :: st))) t := by
  subst hp
  obtain ⟨T', h', cA, X', e', E, A, st'⟩ := newP X hx hZ (aty := .int) w eT (g := mkF m pc Ls (.int n :: st)) rfl hd (n := n) (rest := st) rfl hn hcap hb hc hl
  have A' := oInts.new A hn
  exact ⟨T', h', X', e', E, A', st'⟩
end OwnKit
theorem d4_0 : decode jdk_29_method_69_code 0 = .ok (.iload_n 0, 1) := by decide +kernel
theorem d4_1 : decode jdk_29_method_69_code 1 = .ok (.iload_n 1, 1) := by decide +kernel
theorem d4_2 : decode jdk_29_method_69_code 2 = .ok (.if_icmp .gt 7, 3) := by decide +kernel
theorem d4_5 : decode jdk_29_method_69_code 5 = .ok (.iload_n 0, 1) := by decide +kernel
theorem d4_6 : decode jdk_29_method_69_code 6 = .ok (.goto 4, 3) := by decide +kernel
theorem d4_9 : decode jdk_29_method_69_code 9 = .ok (.iload_n 1, 1) := by decide +kernel
theorem d4_10 : decode jdk_29_method_69_code 10 = .ok (.ireturn, 1) := by decide +kernel
theorem ef_4 (m : MethodId) (x0 : Int32) (x1 : Int32) : entryFrame m #[(.int x0), (.int x1)] 2 = mkF m 0 #[.val (.int x0), .val (.int x1)] [] := by first | (simp [entryFrame, mkF, argsToLocals, Value.category]; done) | rfl
def spec4 (x0 : Int32) (x1 : Int32)  : Int32 := (if x1 < x0 then x1 else x0)
def room4 : Room := { frames := 0, cells := 0, slots := 0, locals := 0 }
set_option maxRecDepth 65536 in
set_option maxHeartbeats 40000000 in
theorem rm4 (l : Launch) (Z : State) (a0 : Array Value) (hw : ∀ d ∈ tables_1, d.before a0 Z = true) (x0 : Int32) (x1 : Int32)  (h0 : Heap) (n0 : Nat) (Z0 : n0 ≤ h0.size)  :
    oCon l Z (⟨"java/lang/Math", "min", "(II)I"⟩ : MethodName) jdk_29_method_69_code 2 (some .int) room4 #[(.int x0), (.int x1)] h0 (fun v h L => v = some (.int (spec4 x0 x1)) ∧ L = [] ∧ h = h0) := by
  refine oCon.of (by decide +kernel) ?_
  intro p e s m below meth c s₁ hx hby hml hown hnm hret hlk hZ X0 e0
  rw [ef_4 m x0 x1]
  have N0 := Fr.nil n0
  refine o_iloadN (pc' := 1) X0 hx (hb hby d4_0) rfl rfl ?_
  refine o_iloadN (pc' := 2) X0 hx (hb hby d4_1) rfl rfl ?_
  have J2 : ∀ (v3 : Int32), v3 = (if x1 < x0 then x1 else x0) → oGo p e below (oG s (fun v h L => v = some (.int (spec4 x0 x1)) ∧ L = [] ∧ h = h0) room4.cells room4.slots) s₁ (mkF m 10 #[.val (.int x0), .val (.int x1)] [(.int v3)]) := by
    intro v3 hv3
    refine o_retI X0 hx hret hlk (hb hby d4_10) (by decide) (by decide) ?_
    subst hv3
    exact ⟨congrArg (fun z => some (Value.int z)) (show _ = spec4 x0 x1  from (rfl).symm), rfl, e0⟩
  by_cases c1 : x1 < x0
  · refine o_icmpT (pc' := 9) X0 hx (hb hby d4_2) (XT.ii_gt_t c1) (by decide) (by decide) ?_
    refine o_iloadN (pc' := 10) X0 hx (hb hby d4_9) rfl rfl ?_
    exact J2 _ (if_pos c1).symm
  · refine o_icmpF (pc' := 5) X0 hx (hb hby d4_2) (XT.ii_gt_f c1) rfl ?_
    refine o_iloadN (pc' := 6) X0 hx (hb hby d4_5) rfl rfl ?_
    refine o_goto (pc' := 10) X0 hx (hb hby d4_6) (by decide) (by decide) ?_
    exact J2 _ (if_neg c1).symm
theorem d5_0 : decode jdk_29_method_65_code 0 = .ok (.iload_n 0, 1) := by decide +kernel
theorem d5_1 : decode jdk_29_method_65_code 1 = .ok (.iload_n 1, 1) := by decide +kernel
theorem d5_2 : decode jdk_29_method_65_code 2 = .ok (.if_icmp .lt 7, 3) := by decide +kernel
theorem d5_5 : decode jdk_29_method_65_code 5 = .ok (.iload_n 0, 1) := by decide +kernel
theorem d5_6 : decode jdk_29_method_65_code 6 = .ok (.goto 4, 3) := by decide +kernel
theorem d5_9 : decode jdk_29_method_65_code 9 = .ok (.iload_n 1, 1) := by decide +kernel
theorem d5_10 : decode jdk_29_method_65_code 10 = .ok (.ireturn, 1) := by decide +kernel
theorem ef_5 (m : MethodId) (x0 : Int32) (x1 : Int32) : entryFrame m #[(.int x0), (.int x1)] 2 = mkF m 0 #[.val (.int x0), .val (.int x1)] [] := by first | (simp [entryFrame, mkF, argsToLocals, Value.category]; done) | rfl
def spec5 (x0 : Int32) (x1 : Int32)  : Int32 := (if x0 < x1 then x1 else x0)
def room5 : Room := { frames := 0, cells := 0, slots := 0, locals := 0 }
set_option maxRecDepth 65536 in
set_option maxHeartbeats 40000000 in
theorem rm5 (l : Launch) (Z : State) (a0 : Array Value) (hw : ∀ d ∈ tables_1, d.before a0 Z = true) (x0 : Int32) (x1 : Int32)  (h0 : Heap) (n0 : Nat) (Z0 : n0 ≤ h0.size)  :
    oCon l Z (⟨"java/lang/Math", "max", "(II)I"⟩ : MethodName) jdk_29_method_65_code 2 (some .int) room5 #[(.int x0), (.int x1)] h0 (fun v h L => v = some (.int (spec5 x0 x1)) ∧ L = [] ∧ h = h0) := by
  refine oCon.of (by decide +kernel) ?_
  intro p e s m below meth c s₁ hx hby hml hown hnm hret hlk hZ X0 e0
  rw [ef_5 m x0 x1]
  have N0 := Fr.nil n0
  refine o_iloadN (pc' := 1) X0 hx (hb hby d5_0) rfl rfl ?_
  refine o_iloadN (pc' := 2) X0 hx (hb hby d5_1) rfl rfl ?_
  have J2 : ∀ (v3 : Int32), v3 = (if x0 < x1 then x1 else x0) → oGo p e below (oG s (fun v h L => v = some (.int (spec5 x0 x1)) ∧ L = [] ∧ h = h0) room5.cells room5.slots) s₁ (mkF m 10 #[.val (.int x0), .val (.int x1)] [(.int v3)]) := by
    intro v3 hv3
    refine o_retI X0 hx hret hlk (hb hby d5_10) (by decide) (by decide) ?_
    subst hv3
    exact ⟨congrArg (fun z => some (Value.int z)) (show _ = spec5 x0 x1  from (rfl).symm), rfl, e0⟩
  by_cases c1 : x0 < x1
  · refine o_icmpT (pc' := 9) X0 hx (hb hby d5_2) (XT.ii_lt_t c1) (by decide) (by decide) ?_
    refine o_iloadN (pc' := 10) X0 hx (hb hby d5_9) rfl rfl ?_
    exact J2 _ (if_pos c1).symm
  · refine o_icmpF (pc' := 5) X0 hx (hb hby d5_2) (XT.ii_lt_f c1) rfl ?_
    refine o_iloadN (pc' := 6) X0 hx (hb hby d5_5) rfl rfl ?_
    refine o_goto (pc' := 10) X0 hx (hb hby d5_6) (by decide) (by decide) ?_
    exact J2 _ (if_neg c1).symm
def oD (x : Int32) : Prop := x = 0 ∨ x = 1 ∨ x = 2 ∨ x = 3
def oFor (p1 p2 p3 : Int32) : Prop := (p1 = 0 ∨ p1 = 1) ∧ (p2 = 0 ∨ p2 = 1 ∨ p2 = 2) ∧ (p3 = 0 ∨ p3 = 1 ∨ p3 = 2 ∨ p3 = 3)
def oR2 (p1 p2 : Int32) : Int32 := if p2 = 2 then 2 else if p2 = 1 then p1 else 0
def oR3 (p1 p2 p3 : Int32) : Int32 := if p3 = 3 then 3 else if p3 = 2 then oR2 p1 p2 else if p3 = 1 then p1 else 0
def oRoot (p1 p2 p3 x : Int32) : Int32 := if x = 0 then 0 else if x = 1 then p1 else if x = 2 then oR2 p1 p2 else oR3 p1 p2 p3
def oP2 (p1 p2 p3 x : Int32) : Int32 := if x = 2 then oR2 p1 p2 else if x = 3 then (if p3 = 2 then oR2 p1 p2 else p2) else p2
def oP3 (p1 p2 p3 x : Int32) : Int32 := if x = 3 then oR3 p1 p2 p3 else p3
def oGet4 (a b c d j : Int32) : Int32 := if j = 0 then a else if j = 1 then b else if j = 2 then c else d
theorem own_get4 {a b c d j : Int32} (q : oD j) : [a, b, c, d][j.toNatClampNeg]? = some (oGet4 a b c d j) := by
  rcases q with rfl | rfl | rfl | rfl <;> rfl
theorem own_nneg {j : Int32} (q : oD j) : ¬ j < 0 := by rcases q with rfl | rfl | rfl | rfl <;> decide
theorem own_and3 (x : Int32) : oD (x &&& (3 : Int32)) := by
  have h := c_mask x 3 2 (by decide) (by decide)
  generalize x &&& (3 : Int32) = y at *
  unfold oD
  have o0 : (0 : Int32).toInt = 0 := rfl
  have o1 : (1 : Int32).toInt = 1 := rfl
  have o2 : (2 : Int32).toInt = 2 := rfl
  have o3 : (3 : Int32).toInt = 3 := rfl
  simp only [← Int32.toInt_inj]
  omega
theorem own_dn {x : Int32} (q : oD x) : ∃ n, n < 4 ∧ x = Int32.ofNat n := by
  rcases q with rfl | rfl | rfl | rfl
  · exact ⟨0, by decide, rfl⟩
  · exact ⟨1, by decide, rfl⟩
  · exact ⟨2, by decide, rfl⟩
  · exact ⟨3, by decide, rfl⟩
theorem own_fn {p1 p2 p3 : Int32} (I : oFor p1 p2 p3) : ∃ a b c, a < 2 ∧ b < 3 ∧ c < 4 ∧ p1 = Int32.ofNat a ∧ p2 = Int32.ofNat b ∧ p3 = Int32.ofNat c := by
  obtain ⟨h1, h2, h3⟩ := I
  obtain ⟨a, ha, ea⟩ : ∃ a, a < 2 ∧ p1 = Int32.ofNat a := by
    rcases h1 with rfl | rfl
    · exact ⟨0, by decide, rfl⟩
    · exact ⟨1, by decide, rfl⟩
  obtain ⟨b, hb, eb⟩ : ∃ b, b < 3 ∧ p2 = Int32.ofNat b := by
    rcases h2 with rfl | rfl | rfl
    · exact ⟨0, by decide, rfl⟩
    · exact ⟨1, by decide, rfl⟩
    · exact ⟨2, by decide, rfl⟩
  obtain ⟨c, hc, ec⟩ := own_dn h3
  exact ⟨a, b, c, ha, hb, hc, ea, eb, ec⟩
def bFor (p1 p2 p3 : Int32) : Bool := decide (p1 = 0 ∨ p1 = 1) && decide (p2 = 0 ∨ p2 = 1 ∨ p2 = 2) && decide (p3 = 0 ∨ p3 = 1 ∨ p3 = 2 ∨ p3 = 3)
theorem own_bf {p1 p2 p3 : Int32} (h : bFor p1 p2 p3 = true) : oFor p1 p2 p3 := by
  simp only [bFor, Bool.and_eq_true, decide_eq_true_eq] at h; exact ⟨h.1.1, h.1.2, h.2⟩
theorem own_for0 : oFor 1 2 3 := ⟨Or.inr rfl, Or.inr (Or.inr rfl), Or.inr (Or.inr (Or.inr rfl))⟩
theorem own_tab1 : ∀ a, a < 2 → ∀ b, b < 3 → ∀ c, c < 4 → ∀ x, x < 4 → (bFor (Int32.ofNat a) (oP2 (Int32.ofNat a) (Int32.ofNat b) (Int32.ofNat c) (Int32.ofNat x)) (oP3 (Int32.ofNat a) (Int32.ofNat b) (Int32.ofNat c) (Int32.ofNat x)) && decide (oRoot (Int32.ofNat a) (Int32.ofNat b) (Int32.ofNat c) (Int32.ofNat x) = 0 ∨ oRoot (Int32.ofNat a) (Int32.ofNat b) (Int32.ofNat c) (Int32.ofNat x) = 1 ∨ oRoot (Int32.ofNat a) (Int32.ofNat b) (Int32.ofNat c) (Int32.ofNat x) = 2 ∨ oRoot (Int32.ofNat a) (Int32.ofNat b) (Int32.ofNat c) (Int32.ofNat x) = 3)) = true := by decide +kernel
theorem own_for_root {p1 p2 p3 x : Int32} (I : oFor p1 p2 p3) (q : oD x) : oFor p1 (oP2 p1 p2 p3 x) (oP3 p1 p2 p3 x) := by
  obtain ⟨a, b, c, ha, hb, hc, rfl, rfl, rfl⟩ := own_fn I
  obtain ⟨y, hy, rfl⟩ := own_dn q
  exact own_bf (Bool.and_eq_true_iff.mp (own_tab1 a ha b hb c hc y hy)).1
theorem own_root_D {p1 p2 p3 x : Int32} (I : oFor p1 p2 p3) (q : oD x) : oD (oRoot p1 p2 p3 x) := by
  obtain ⟨a, b, c, ha, hb, hc, rfl, rfl, rfl⟩ := own_fn I
  obtain ⟨y, hy, rfl⟩ := own_dn q
  unfold oD; exact of_decide_eq_true (Bool.and_eq_true_iff.mp (own_tab1 a ha b hb c hc y hy)).2
theorem own_max {x y : Int32} (hx : oD x) (hy : oD y) (hn : ¬ x = y) : (spec5 x y = 1 ∨ spec5 x y = 2 ∨ spec5 x y = 3) := by
  rcases hx with rfl | rfl | rfl | rfl <;> rcases hy with rfl | rfl | rfl | rfl <;> first | exact absurd rfl hn | decide
theorem own_mxD {j : Int32} (q : j = 1 ∨ j = 2 ∨ j = 3) : oD j := Or.inr q
theorem own_lt4 {a b c d j : Int32} (q : oD j) : j.toNatClampNeg < [a, b, c, d].length := by rcases q with rfl | rfl | rfl | rfl <;> (show _ < 4; decide)
theorem own_set4 {a b c v j : Int32} (q : j = 1 ∨ j = 2 ∨ j = 3) : [(0 : Int32), a, b, c].set j.toNatClampNeg v = [(0 : Int32), (if j = 1 then v else a), (if j = 2 then v else b), (if j = 3 then v else c)] := by
  rcases q with rfl | rfl | rfl <;> rfl
theorem d1_0 : decode prog_16_method_1_code 0 = .ok (.aload_n 0, 1) := by decide +kernel
theorem d1_1 : decode prog_16_method_1_code 1 = .ok (.invokespecial 1, 3) := by decide +kernel
theorem d1_4 : decode prog_16_method_1_code 4 = .ok (.aload_n 0, 1) := by decide +kernel
theorem d1_5 : decode prog_16_method_1_code 5 = .ok (.iload_n 1, 1) := by decide +kernel
theorem d1_6 : decode prog_16_method_1_code 6 = .ok (.newarray .int, 2) := by decide +kernel
theorem d1_8 : decode prog_16_method_1_code 8 = .ok (.putfield 7, 3) := by decide +kernel
theorem d1_11 : decode prog_16_method_1_code 11 = .ok (.iconst 0, 1) := by decide +kernel
theorem d1_12 : decode prog_16_method_1_code 12 = .ok (.istore_n 2, 1) := by decide +kernel
theorem d1_13 : decode prog_16_method_1_code 13 = .ok (.iload_n 2, 1) := by decide +kernel
theorem d1_14 : decode prog_16_method_1_code 14 = .ok (.iload_n 1, 1) := by decide +kernel
theorem d1_15 : decode prog_16_method_1_code 15 = .ok (.if_icmp .ge 16, 3) := by decide +kernel
theorem d1_18 : decode prog_16_method_1_code 18 = .ok (.aload_n 0, 1) := by decide +kernel
theorem d1_19 : decode prog_16_method_1_code 19 = .ok (.getfield 7, 3) := by decide +kernel
theorem d1_22 : decode prog_16_method_1_code 22 = .ok (.iload_n 2, 1) := by decide +kernel
theorem d1_23 : decode prog_16_method_1_code 23 = .ok (.iload_n 2, 1) := by decide +kernel
theorem d1_24 : decode prog_16_method_1_code 24 = .ok (.iastore, 1) := by decide +kernel
theorem d1_25 : decode prog_16_method_1_code 25 = .ok (.iinc 2 1, 3) := by decide +kernel
theorem d1_28 : decode prog_16_method_1_code 28 = .ok (.goto (-15), 3) := by decide +kernel
theorem d1_31 : decode prog_16_method_1_code 31 = .ok (.return_, 1) := by decide +kernel
theorem pn_1 : plainName "com/example/glyphweave/glyphweave/DisjointSets" = true := by first | (simp [plainName, overriddenIn]; done) | decide +kernel
theorem ef_1 (m : MethodId) (a1 : Addr) : entryFrame m #[(.ref a1), (.int (4 : Int32))] 3 = mkF m 0 #[.val (.ref a1), .val (.int (4 : Int32)), .unset] [] := by first | (simp [entryFrame, mkF, argsToLocals, Value.category]; done) | rfl
def room1 : Room := { frames := 1, cells := 1, slots := 4, locals := 12 }
set_option maxRecDepth 65536 in
set_option maxHeartbeats 40000000 in
theorem rm1 (l : Launch) (Z : State) (a0 : Array Value) (hw : ∀ d ∈ tables_1, d.before a0 Z = true) (a1 : Addr) (h0 : Heap) (n0 : Nat) (Z0 : n0 ≤ h0.size) (E0 : Exa Z h0 a1 "com/example/glyphweave/glyphweave/DisjointSets") (F_parent : Fld Z h0 a1 "com/example/glyphweave/glyphweave/DisjointSets" "parent" "[I" .null) (ga : n0 ≤ a1) :
    oCon l Z (⟨"com/example/glyphweave/glyphweave/DisjointSets", "<init>", "(I)V"⟩ : MethodName) prog_16_method_1_code 3 none room1 #[(.ref a1), (.int (4 : Int32))] h0 (fun v h L => v = none ∧ Fr n0 L ∧ Keep h0 h [a1] ∧ Exa Z h a1 "com/example/glyphweave/glyphweave/DisjointSets" ∧ Fld Z h a1 "com/example/glyphweave/glyphweave/DisjointSets" "parent" "[I" (.ref h0.size) ∧ oInts Z h h0.size [(0 : Int32), (1 : Int32), (2 : Int32), (3 : Int32)]) := by
  refine oCon.of (plainFor_of_name pn_1) ?_
  intro p e s m below meth c s₁ hx hby hml hown hnm hret hlk hZ X0 e0
  rw [ef_1 m a1]
  have N0 := Fr.nil n0
  have K0 := Keep.refl h0 [a1]
  refine o_aloadN (pc' := 1) X0 hx (hb hby d1_0) rfl rfl rfl ?_
  obtain ⟨T1, X1, e1, st1⟩ := initO X0 hx hZ hown (hw _ (List.mem_of_getElem? (i := 6) rfl)) (hw _ (List.mem_of_getElem? (i := 7) rfl)) (hw _ (List.mem_of_getElem? (i := 8) rfl)) e0 (g := (mkF m 1 #[.val (.ref a1), .val (.int (4 : Int32)), .unset] [(.ref a1)])) rfl (by rw [hml]; rfl) rfl (hb hby d1_1) (by decide) (W := 0) (by show 2 * 0 + _ ≤ _; exact Nat.le_of_eq rfl) (by decide)
  refine oGo.step (f' := (mkF m 4 #[.val (.ref a1), .val (.int (4 : Int32)), .unset] [])) st1 ?_
  refine o_aloadN (pc' := 5) X1 hx (hb hby d1_4) rfl rfl rfl ?_
  refine o_iloadN (pc' := 6) X1 hx (hb hby d1_5) rfl rfl ?_
  obtain ⟨T2, h2_, X2, e2, E2, A2, st2⟩ := o_newI (Ls := #[.val (.ref a1), .val (.int (4 : Int32)), .unset]) (st := [(.ref a1)]) (n := (4 : Int32)) X1 hx hZ (hw _ (List.mem_of_getElem? (i := 9) rfl)) e1 (hb hby d1_6) (by decide) 4 (by decide) (by decide) (by decide) (by decide) rfl
  obtain ⟨b2, g2⟩ : ∃ z, z = h0.size := ⟨_, rfl⟩
  rw [← g2] at A2 st2
  replace A2 : oInts Z h2_ b2 [(0 : Int32), (0 : Int32), (0 : Int32), (0 : Int32)] := A2
  have ne3 : a1 ≠ b2 := by rw [g2]; exact Nat.ne_of_lt E0.lt
  have ge4 : n0 ≤ b2 := by rw [g2]; exact Z0
  have ge5 : h0.size ≤ b2 := by rw [g2]; exact K0.1
  have K6 := (Keep.refl h0 []).ext E2
  have F7 := E0.keep K6
  have F8 := F_parent.keep K6 nin0
  have Z9 := Nat.le_trans Z0 K6.1
  have K10 := K0.trans K6 all0
  refine oGo.step (f' := (mkF m 8 #[.val (.ref a1), .val (.int (4 : Int32)), .unset] [(.ref b2), (.ref a1)])) st2 ?_
  obtain ⟨T11, h11_, X11, e11, W11, st11⟩ := putF X2 hx hZ hown (host := "") (Or.inl (hw _ (List.mem_of_getElem? (i := 10) rfl))) Via.refl e2 F8 F7 (Or.inr ⟨(hw _ (List.mem_of_getElem? (i := 11) rfl)), rfl, hnm⟩) (hw _ (List.mem_of_getElem? (i := 1) rfl)) (ty := (.array .int)) (by decide) rfl rfl (g := (mkF m 8 #[.val (.ref a1), .val (.int (4 : Int32)), .unset] [(.ref b2), (.ref a1)])) rfl rfl (hb hby d1_8)
  refine oGo.step (f' := (mkF m 11 #[.val (.ref a1), .val (.int (4 : Int32)), .unset] [])) st11 ?_
  have N11 := Fr.snoc X11 N0 ga
  have F12 := F7.wr W11
  have F13 := F8.same W11
  have F14 := A2.keep (Keep.of_wr W11) (ninS (Ne.symm ne3) nin0)
  have K15 := K10.wr W11 (Or.inl (List.mem_of_getElem? (i := 0) rfl))
  have Z16 := Nat.le_trans Z9 (Keep.of_wr W11).1
  refine o_iconst (pc' := 12) (v := (0 : Int32)) X11 hx (hb hby d1_11) rfl rfl ?_
  refine o_istoreN (pc' := 13) (l' := #[.val (.ref a1), .val (.int (4 : Int32)), .val (.int (0 : Int32))]) X11 hx (hb hby d1_12) rfl rfl ?_
  refine o_iloadN (pc' := 14) X11 hx (hb hby d1_13) rfl rfl ?_
  refine o_iloadN (pc' := 15) X11 hx (hb hby d1_14) rfl rfl ?_
  refine o_icmpF (pc' := 18) X11 hx (hb hby d1_15) (XT.ii_ge_f (by decide)) rfl ?_
  refine o_aloadN (pc' := 19) X11 hx (hb hby d1_18) rfl rfl rfl ?_
  obtain ⟨T17, X17, e17, st17⟩ := getF X11 hx hZ hown (host := "") (Or.inl (hw _ (List.mem_of_getElem? (i := 10) rfl))) Via.refl e11 F13 (g := (mkF m 19 #[.val (.ref a1), .val (.int (4 : Int32)), .val (.int (0 : Int32))] [(.ref a1)])) rfl rfl (hb hby d1_19)
  refine oGo.step (f' := (mkF m 22 #[.val (.ref a1), .val (.int (4 : Int32)), .val (.int (0 : Int32))] [(.ref b2)])) st17 ?_
  refine o_iloadN (pc' := 23) X17 hx (hb hby d1_22) rfl rfl ?_
  refine o_iloadN (pc' := 24) X17 hx (hb hby d1_23) rfl rfl ?_
  obtain ⟨T18, h18_, X18, e18, W18, st18⟩ := o_iastore (x := (0 : Int32)) (j := (0 : Int32)) (Ls := #[.val (.ref a1), .val (.int (4 : Int32)), .val (.int (0 : Int32))]) (st := []) X17 hx hZ e17 F14 (hb hby d1_24) (by decide) (show _ < 4 by decide) rfl
  refine oGo.step (f' := (mkF m 25 #[.val (.ref a1), .val (.int (4 : Int32)), .val (.int (0 : Int32))] [])) st18 ?_
  have N18 := Fr.snoc X18 N11 ge4
  have F19 := F14.set W18
  replace F19 : oInts Z h18_ b2 [(0 : Int32), (0 : Int32), (0 : Int32), (0 : Int32)] := F19
  have K20 := Keep.of_wr W18
  have F21 := F12.keep K20
  have F22 := F13.keep K20 (ninS ne3 nin0)
  have Z23 := Nat.le_trans Z16 K20.1
  have K24 := K15.trans K20 (allS (Or.inr ge5) all0)
  refine o_iinc (pc' := 28) (v := (1 : Int32)) (l' := #[.val (.ref a1), .val (.int (4 : Int32)), .val (.int (1 : Int32))]) X18 hx (hb hby d1_25) rfl rfl rfl rfl ?_
  refine o_goto (pc' := 13) X18 hx (hb hby d1_28) (by decide) (by decide) ?_
  refine o_iloadN (pc' := 14) X18 hx (hb hby d1_13) rfl rfl ?_
  refine o_iloadN (pc' := 15) X18 hx (hb hby d1_14) rfl rfl ?_
  refine o_icmpF (pc' := 18) X18 hx (hb hby d1_15) (XT.ii_ge_f (by decide)) rfl ?_
  refine o_aloadN (pc' := 19) X18 hx (hb hby d1_18) rfl rfl rfl ?_
  obtain ⟨T25, X25, e25, st25⟩ := getF X18 hx hZ hown (host := "") (Or.inl (hw _ (List.mem_of_getElem? (i := 10) rfl))) Via.refl e18 F22 (g := (mkF m 19 #[.val (.ref a1), .val (.int (4 : Int32)), .val (.int (1 : Int32))] [(.ref a1)])) rfl rfl (hb hby d1_19)
  refine oGo.step (f' := (mkF m 22 #[.val (.ref a1), .val (.int (4 : Int32)), .val (.int (1 : Int32))] [(.ref b2)])) st25 ?_
  refine o_iloadN (pc' := 23) X25 hx (hb hby d1_22) rfl rfl ?_
  refine o_iloadN (pc' := 24) X25 hx (hb hby d1_23) rfl rfl ?_
  obtain ⟨T26, h26_, X26, e26, W26, st26⟩ := o_iastore (x := (1 : Int32)) (j := (1 : Int32)) (Ls := #[.val (.ref a1), .val (.int (4 : Int32)), .val (.int (1 : Int32))]) (st := []) X25 hx hZ e25 F19 (hb hby d1_24) (by decide) (show _ < 4 by decide) rfl
  refine oGo.step (f' := (mkF m 25 #[.val (.ref a1), .val (.int (4 : Int32)), .val (.int (1 : Int32))] [])) st26 ?_
  have N26 := Fr.snoc X26 N18 ge4
  have F27 := F19.set W26
  replace F27 : oInts Z h26_ b2 [(0 : Int32), (1 : Int32), (0 : Int32), (0 : Int32)] := F27
  have K28 := Keep.of_wr W26
  have F29 := F21.keep K28
  have F30 := F22.keep K28 (ninS ne3 nin0)
  have Z31 := Nat.le_trans Z23 K28.1
  have K32 := K24.trans K28 (allS (Or.inr ge5) all0)
  refine o_iinc (pc' := 28) (v := (1 : Int32)) (l' := #[.val (.ref a1), .val (.int (4 : Int32)), .val (.int (2 : Int32))]) X26 hx (hb hby d1_25) rfl rfl rfl rfl ?_
  refine o_goto (pc' := 13) X26 hx (hb hby d1_28) (by decide) (by decide) ?_
  refine o_iloadN (pc' := 14) X26 hx (hb hby d1_13) rfl rfl ?_
  refine o_iloadN (pc' := 15) X26 hx (hb hby d1_14) rfl rfl ?_
  refine o_icmpF (pc' := 18) X26 hx (hb hby d1_15) (XT.ii_ge_f (by decide)) rfl ?_
  refine o_aloadN (pc' := 19) X26 hx (hb hby d1_18) rfl rfl rfl ?_
  obtain ⟨T33, X33, e33, st33⟩ := getF X26 hx hZ hown (host := "") (Or.inl (hw _ (List.mem_of_getElem? (i := 10) rfl))) Via.refl e26 F30 (g := (mkF m 19 #[.val (.ref a1), .val (.int (4 : Int32)), .val (.int (2 : Int32))] [(.ref a1)])) rfl rfl (hb hby d1_19)
  refine oGo.step (f' := (mkF m 22 #[.val (.ref a1), .val (.int (4 : Int32)), .val (.int (2 : Int32))] [(.ref b2)])) st33 ?_
  refine o_iloadN (pc' := 23) X33 hx (hb hby d1_22) rfl rfl ?_
  refine o_iloadN (pc' := 24) X33 hx (hb hby d1_23) rfl rfl ?_
  obtain ⟨T34, h34_, X34, e34, W34, st34⟩ := o_iastore (x := (2 : Int32)) (j := (2 : Int32)) (Ls := #[.val (.ref a1), .val (.int (4 : Int32)), .val (.int (2 : Int32))]) (st := []) X33 hx hZ e33 F27 (hb hby d1_24) (by decide) (show _ < 4 by decide) rfl
  refine oGo.step (f' := (mkF m 25 #[.val (.ref a1), .val (.int (4 : Int32)), .val (.int (2 : Int32))] [])) st34 ?_
  have N34 := Fr.snoc X34 N26 ge4
  have F35 := F27.set W34
  replace F35 : oInts Z h34_ b2 [(0 : Int32), (1 : Int32), (2 : Int32), (0 : Int32)] := F35
  have K36 := Keep.of_wr W34
  have F37 := F29.keep K36
  have F38 := F30.keep K36 (ninS ne3 nin0)
  have Z39 := Nat.le_trans Z31 K36.1
  have K40 := K32.trans K36 (allS (Or.inr ge5) all0)
  refine o_iinc (pc' := 28) (v := (1 : Int32)) (l' := #[.val (.ref a1), .val (.int (4 : Int32)), .val (.int (3 : Int32))]) X34 hx (hb hby d1_25) rfl rfl rfl rfl ?_
  refine o_goto (pc' := 13) X34 hx (hb hby d1_28) (by decide) (by decide) ?_
  refine o_iloadN (pc' := 14) X34 hx (hb hby d1_13) rfl rfl ?_
  refine o_iloadN (pc' := 15) X34 hx (hb hby d1_14) rfl rfl ?_
  refine o_icmpF (pc' := 18) X34 hx (hb hby d1_15) (XT.ii_ge_f (by decide)) rfl ?_
  refine o_aloadN (pc' := 19) X34 hx (hb hby d1_18) rfl rfl rfl ?_
  obtain ⟨T41, X41, e41, st41⟩ := getF X34 hx hZ hown (host := "") (Or.inl (hw _ (List.mem_of_getElem? (i := 10) rfl))) Via.refl e34 F38 (g := (mkF m 19 #[.val (.ref a1), .val (.int (4 : Int32)), .val (.int (3 : Int32))] [(.ref a1)])) rfl rfl (hb hby d1_19)
  refine oGo.step (f' := (mkF m 22 #[.val (.ref a1), .val (.int (4 : Int32)), .val (.int (3 : Int32))] [(.ref b2)])) st41 ?_
  refine o_iloadN (pc' := 23) X41 hx (hb hby d1_22) rfl rfl ?_
  refine o_iloadN (pc' := 24) X41 hx (hb hby d1_23) rfl rfl ?_
  obtain ⟨T42, h42_, X42, e42, W42, st42⟩ := o_iastore (x := (3 : Int32)) (j := (3 : Int32)) (Ls := #[.val (.ref a1), .val (.int (4 : Int32)), .val (.int (3 : Int32))]) (st := []) X41 hx hZ e41 F35 (hb hby d1_24) (by decide) (show _ < 4 by decide) rfl
  refine oGo.step (f' := (mkF m 25 #[.val (.ref a1), .val (.int (4 : Int32)), .val (.int (3 : Int32))] [])) st42 ?_
  have N42 := Fr.snoc X42 N34 ge4
  have F43 := F35.set W42
  replace F43 : oInts Z h42_ b2 [(0 : Int32), (1 : Int32), (2 : Int32), (3 : Int32)] := F43
  have K44 := Keep.of_wr W42
  have F45 := F37.keep K44
  have F46 := F38.keep K44 (ninS ne3 nin0)
  have Z47 := Nat.le_trans Z39 K44.1
  have K48 := K40.trans K44 (allS (Or.inr ge5) all0)
  refine o_iinc (pc' := 28) (v := (1 : Int32)) (l' := #[.val (.ref a1), .val (.int (4 : Int32)), .val (.int (4 : Int32))]) X42 hx (hb hby d1_25) rfl rfl rfl rfl ?_
  refine o_goto (pc' := 13) X42 hx (hb hby d1_28) (by decide) (by decide) ?_
  refine o_iloadN (pc' := 14) X42 hx (hb hby d1_13) rfl rfl ?_
  refine o_iloadN (pc' := 15) X42 hx (hb hby d1_14) rfl rfl ?_
  refine o_icmpT (pc' := 31) X42 hx (hb hby d1_15) (XT.ii_ge_t (by decide)) (by decide) (by decide) ?_
  refine o_retV X42 hx hret hlk (hb hby d1_31) (by decide) (by decide) ?_
  rw [e42]
  subst g2
  exact ⟨rfl, N42, K48, F45, F46, F43⟩
theorem d7_0 : decode prog_16_method_2_code 0 = .ok (.iload_n 1, 1) := by decide +kernel
theorem d7_1 : decode prog_16_method_2_code 1 = .ok (.istore_n 2, 1) := by decide +kernel
theorem d7_2 : decode prog_16_method_2_code 2 = .ok (.aload_n 0, 1) := by decide +kernel
theorem d7_3 : decode prog_16_method_2_code 3 = .ok (.getfield 7, 3) := by decide +kernel
theorem d7_6 : decode prog_16_method_2_code 6 = .ok (.iload_n 2, 1) := by decide +kernel
theorem d7_7 : decode prog_16_method_2_code 7 = .ok (.iaload, 1) := by decide +kernel
theorem d7_8 : decode prog_16_method_2_code 8 = .ok (.iload_n 2, 1) := by decide +kernel
theorem d7_9 : decode prog_16_method_2_code 9 = .ok (.if_icmp .eq 13, 3) := by decide +kernel
theorem d7_12 : decode prog_16_method_2_code 12 = .ok (.aload_n 0, 1) := by decide +kernel
theorem d7_13 : decode prog_16_method_2_code 13 = .ok (.getfield 7, 3) := by decide +kernel
theorem d7_16 : decode prog_16_method_2_code 16 = .ok (.iload_n 2, 1) := by decide +kernel
theorem d7_17 : decode prog_16_method_2_code 17 = .ok (.iaload, 1) := by decide +kernel
theorem d7_18 : decode prog_16_method_2_code 18 = .ok (.istore_n 2, 1) := by decide +kernel
theorem d7_19 : decode prog_16_method_2_code 19 = .ok (.goto (-17), 3) := by decide +kernel
theorem d7_22 : decode prog_16_method_2_code 22 = .ok (.iload_n 1, 1) := by decide +kernel
theorem d7_23 : decode prog_16_method_2_code 23 = .ok (.istore_n 3, 1) := by decide +kernel
theorem d7_24 : decode prog_16_method_2_code 24 = .ok (.aload_n 0, 1) := by decide +kernel
theorem d7_25 : decode prog_16_method_2_code 25 = .ok (.getfield 7, 3) := by decide +kernel
theorem d7_28 : decode prog_16_method_2_code 28 = .ok (.iload_n 3, 1) := by decide +kernel
theorem d7_29 : decode prog_16_method_2_code 29 = .ok (.iaload, 1) := by decide +kernel
theorem d7_30 : decode prog_16_method_2_code 30 = .ok (.iload_n 2, 1) := by decide +kernel
theorem d7_31 : decode prog_16_method_2_code 31 = .ok (.if_icmp .eq 24, 3) := by decide +kernel
theorem d7_34 : decode prog_16_method_2_code 34 = .ok (.aload_n 0, 1) := by decide +kernel
theorem d7_35 : decode prog_16_method_2_code 35 = .ok (.getfield 7, 3) := by decide +kernel
theorem d7_38 : decode prog_16_method_2_code 38 = .ok (.iload_n 3, 1) := by decide +kernel
theorem d7_39 : decode prog_16_method_2_code 39 = .ok (.iaload, 1) := by decide +kernel
theorem d7_40 : decode prog_16_method_2_code 40 = .ok (.istore 4, 2) := by decide +kernel
theorem d7_42 : decode prog_16_method_2_code 42 = .ok (.aload_n 0, 1) := by decide +kernel
theorem d7_43 : decode prog_16_method_2_code 43 = .ok (.getfield 7, 3) := by decide +kernel
theorem d7_46 : decode prog_16_method_2_code 46 = .ok (.iload_n 3, 1) := by decide +kernel
theorem d7_47 : decode prog_16_method_2_code 47 = .ok (.iload_n 2, 1) := by decide +kernel
theorem d7_48 : decode prog_16_method_2_code 48 = .ok (.iastore, 1) := by decide +kernel
theorem d7_49 : decode prog_16_method_2_code 49 = .ok (.iload 4, 2) := by decide +kernel
theorem d7_51 : decode prog_16_method_2_code 51 = .ok (.istore_n 3, 1) := by decide +kernel
theorem d7_52 : decode prog_16_method_2_code 52 = .ok (.goto (-28), 3) := by decide +kernel
theorem d7_55 : decode prog_16_method_2_code 55 = .ok (.iload_n 2, 1) := by decide +kernel
theorem d7_56 : decode prog_16_method_2_code 56 = .ok (.ireturn, 1) := by decide +kernel
theorem ef7 (m : MethodId) (a1 : Addr) (x1 : Int32) : entryFrame m #[(.ref a1), (.int x1)] 5 = mkF m 0 #[.val (.ref a1), .val (.int x1), .unset, .unset, .unset] [] := by first | (simp [entryFrame, mkF, argsToLocals, Value.category]; done) | rfl
def room7 : Room := { frames := 0, cells := 0, slots := 0, locals := 0 }
set_option maxRecDepth 65536 in
set_option maxHeartbeats 40000000 in
theorem rm7 (l : Launch) (Z : State) (a0 : Array Value) (hw : ∀ d ∈ tables_1, d.before a0 Z = true) (a1 : Addr) (x1 : Int32) (pa : Addr) (pa : Addr) (p1 : Int32) (p2 : Int32) (p3 : Int32) (h0 : Heap) (n0 : Nat) (Z0 : n0 ≤ h0.size) (E0 : Exa Z h0 a1 "com/example/glyphweave/glyphweave/DisjointSets") (F_parent : Fld Z h0 a1 "com/example/glyphweave/glyphweave/DisjointSets" "parent" "[I" (.ref pa)) (A_pa : oInts Z h0 pa [(0 : Int32), p1, p2, p3]) (ge_pa : n0 ≤ pa) (ne_pa : a1 ≠ pa) (hI : oFor p1 p2 p3) (hx1 : oD x1) :
    oCon l Z (⟨"com/example/glyphweave/glyphweave/DisjointSets", "rootOf", "(I)I"⟩ : MethodName) prog_16_method_2_code 5 (some .int) room7 #[(.ref a1), (.int x1)] h0 (fun v h L => v = some (.int (oRoot p1 p2 p3 x1)) ∧ Fr n0 L ∧ Keep h0 h [pa] ∧ oInts Z h pa [(0 : Int32), p1, (oP2 p1 p2 p3 x1), (oP3 p1 p2 p3 x1)]) := by
  refine oCon.of (plainFor_of_name pn_1) ?_
  intro p e s m below meth c s₁ hx hby hml hown hnm hret hlk hZ X0 e0
  rw [ef7 m a1 x1]
  have N0 := Fr.nil n0
  have K0 := Keep.refl h0 [pa]
  obtain ⟨hp1, hp2, hp3⟩ := hI
  rcases hx1 with rfl | rfl | rfl | rfl
  · refine o_iloadN (pc' := 1) X0 hx (hb hby d7_0) rfl rfl ?_
    refine o_istoreN (pc' := 2) (l' := #[.val (.ref a1), .val (.int (0 : Int32)), .val (.int (0 : Int32)), .unset, .unset]) X0 hx (hb hby d7_1) rfl rfl ?_
    refine o_aloadN (pc' := 3) X0 hx (hb hby d7_2) rfl rfl rfl ?_
    obtain ⟨T1, X1, e1, st1⟩ := getF X0 hx hZ hown (host := "") (Or.inl (hw _ (List.mem_of_getElem? (i := 10) rfl))) Via.refl e0 F_parent (g := (mkF m 3 #[.val (.ref a1), .val (.int (0 : Int32)), .val (.int (0 : Int32)), .unset, .unset] [(.ref a1)])) rfl rfl (hb hby d7_3)
    refine oGo.step (f' := (mkF m 6 #[.val (.ref a1), .val (.int (0 : Int32)), .val (.int (0 : Int32)), .unset, .unset] [(.ref pa)])) st1 ?_
    refine o_iloadN (pc' := 7) X1 hx (hb hby d7_6) rfl rfl ?_
    refine o_iaload (pc' := 8) (v := (0 : Int32)) X1 hx hZ e1 A_pa (hb hby d7_7) (by decide) rfl rfl ?_
    refine o_iloadN (pc' := 9) X1 hx (hb hby d7_8) rfl rfl ?_
    refine o_icmpT (pc' := 22) X1 hx (hb hby d7_9) (XT.ii_eq_t (by decide)) (by decide) (by decide) ?_
    refine o_iloadN (pc' := 23) X1 hx (hb hby d7_22) rfl rfl ?_
    refine o_istoreN (pc' := 24) (l' := #[.val (.ref a1), .val (.int (0 : Int32)), .val (.int (0 : Int32)), .val (.int (0 : Int32)), .unset]) X1 hx (hb hby d7_23) rfl rfl ?_
    refine o_aloadN (pc' := 25) X1 hx (hb hby d7_24) rfl rfl rfl ?_
    obtain ⟨T2, X2, e2, st2⟩ := getF X1 hx hZ hown (host := "") (Or.inl (hw _ (List.mem_of_getElem? (i := 10) rfl))) Via.refl e1 F_parent (g := (mkF m 25 #[.val (.ref a1), .val (.int (0 : Int32)), .val (.int (0 : Int32)), .val (.int (0 : Int32)), .unset] [(.ref a1)])) rfl rfl (hb hby d7_25)
    refine oGo.step (f' := (mkF m 28 #[.val (.ref a1), .val (.int (0 : Int32)), .val (.int (0 : Int32)), .val (.int (0 : Int32)), .unset] [(.ref pa)])) st2 ?_
    refine o_iloadN (pc' := 29) X2 hx (hb hby d7_28) rfl rfl ?_
    refine o_iaload (pc' := 30) (v := (0 : Int32)) X2 hx hZ e2 A_pa (hb hby d7_29) (by decide) rfl rfl ?_
    refine o_iloadN (pc' := 31) X2 hx (hb hby d7_30) rfl rfl ?_
    refine o_icmpT (pc' := 55) X2 hx (hb hby d7_31) (XT.ii_eq_t (by decide)) (by decide) (by decide) ?_
    refine o_iloadN (pc' := 56) X2 hx (hb hby d7_55) rfl rfl ?_
    refine o_retI X2 hx hret hlk (hb hby d7_56) (by decide) (by decide) ?_
    rw [e2]
    exact ⟨rfl, N0, K0, A_pa⟩
  · rcases hp1 with rfl | rfl
    · refine o_iloadN (pc' := 1) X0 hx (hb hby d7_0) rfl rfl ?_
      refine o_istoreN (pc' := 2) (l' := #[.val (.ref a1), .val (.int (1 : Int32)), .val (.int (1 : Int32)), .unset, .unset]) X0 hx (hb hby d7_1) rfl rfl ?_
      refine o_aloadN (pc' := 3) X0 hx (hb hby d7_2) rfl rfl rfl ?_
      obtain ⟨T3, X3, e3, st3⟩ := getF X0 hx hZ hown (host := "") (Or.inl (hw _ (List.mem_of_getElem? (i := 10) rfl))) Via.refl e0 F_parent (g := (mkF m 3 #[.val (.ref a1), .val (.int (1 : Int32)), .val (.int (1 : Int32)), .unset, .unset] [(.ref a1)])) rfl rfl (hb hby d7_3)
      refine oGo.step (f' := (mkF m 6 #[.val (.ref a1), .val (.int (1 : Int32)), .val (.int (1 : Int32)), .unset, .unset] [(.ref pa)])) st3 ?_
      refine o_iloadN (pc' := 7) X3 hx (hb hby d7_6) rfl rfl ?_
      refine o_iaload (pc' := 8) (v := (0 : Int32)) X3 hx hZ e3 A_pa (hb hby d7_7) (by decide) rfl rfl ?_
      refine o_iloadN (pc' := 9) X3 hx (hb hby d7_8) rfl rfl ?_
      refine o_icmpF (pc' := 12) X3 hx (hb hby d7_9) (XT.ii_eq_f (by decide)) rfl ?_
      refine o_aloadN (pc' := 13) X3 hx (hb hby d7_12) rfl rfl rfl ?_
      obtain ⟨T4, X4, e4, st4⟩ := getF X3 hx hZ hown (host := "") (Or.inl (hw _ (List.mem_of_getElem? (i := 10) rfl))) Via.refl e3 F_parent (g := (mkF m 13 #[.val (.ref a1), .val (.int (1 : Int32)), .val (.int (1 : Int32)), .unset, .unset] [(.ref a1)])) rfl rfl (hb hby d7_13)
      refine oGo.step (f' := (mkF m 16 #[.val (.ref a1), .val (.int (1 : Int32)), .val (.int (1 : Int32)), .unset, .unset] [(.ref pa)])) st4 ?_
      refine o_iloadN (pc' := 17) X4 hx (hb hby d7_16) rfl rfl ?_
      refine o_iaload (pc' := 18) (v := (0 : Int32)) X4 hx hZ e4 A_pa (hb hby d7_17) (by decide) rfl rfl ?_
      refine o_istoreN (pc' := 19) (l' := #[.val (.ref a1), .val (.int (1 : Int32)), .val (.int (0 : Int32)), .unset, .unset]) X4 hx (hb hby d7_18) rfl rfl ?_
      refine o_goto (pc' := 2) X4 hx (hb hby d7_19) (by decide) (by decide) ?_
      refine o_aloadN (pc' := 3) X4 hx (hb hby d7_2) rfl rfl rfl ?_
      obtain ⟨T5, X5, e5, st5⟩ := getF X4 hx hZ hown (host := "") (Or.inl (hw _ (List.mem_of_getElem? (i := 10) rfl))) Via.refl e4 F_parent (g := (mkF m 3 #[.val (.ref a1), .val (.int (1 : Int32)), .val (.int (0 : Int32)), .unset, .unset] [(.ref a1)])) rfl rfl (hb hby d7_3)
      refine oGo.step (f' := (mkF m 6 #[.val (.ref a1), .val (.int (1 : Int32)), .val (.int (0 : Int32)), .unset, .unset] [(.ref pa)])) st5 ?_
      refine o_iloadN (pc' := 7) X5 hx (hb hby d7_6) rfl rfl ?_
      refine o_iaload (pc' := 8) (v := (0 : Int32)) X5 hx hZ e5 A_pa (hb hby d7_7) (by decide) rfl rfl ?_
      refine o_iloadN (pc' := 9) X5 hx (hb hby d7_8) rfl rfl ?_
      refine o_icmpT (pc' := 22) X5 hx (hb hby d7_9) (XT.ii_eq_t (by decide)) (by decide) (by decide) ?_
      refine o_iloadN (pc' := 23) X5 hx (hb hby d7_22) rfl rfl ?_
      refine o_istoreN (pc' := 24) (l' := #[.val (.ref a1), .val (.int (1 : Int32)), .val (.int (0 : Int32)), .val (.int (1 : Int32)), .unset]) X5 hx (hb hby d7_23) rfl rfl ?_
      refine o_aloadN (pc' := 25) X5 hx (hb hby d7_24) rfl rfl rfl ?_
      obtain ⟨T6, X6, e6, st6⟩ := getF X5 hx hZ hown (host := "") (Or.inl (hw _ (List.mem_of_getElem? (i := 10) rfl))) Via.refl e5 F_parent (g := (mkF m 25 #[.val (.ref a1), .val (.int (1 : Int32)), .val (.int (0 : Int32)), .val (.int (1 : Int32)), .unset] [(.ref a1)])) rfl rfl (hb hby d7_25)
      refine oGo.step (f' := (mkF m 28 #[.val (.ref a1), .val (.int (1 : Int32)), .val (.int (0 : Int32)), .val (.int (1 : Int32)), .unset] [(.ref pa)])) st6 ?_
      refine o_iloadN (pc' := 29) X6 hx (hb hby d7_28) rfl rfl ?_
      refine o_iaload (pc' := 30) (v := (0 : Int32)) X6 hx hZ e6 A_pa (hb hby d7_29) (by decide) rfl rfl ?_
      refine o_iloadN (pc' := 31) X6 hx (hb hby d7_30) rfl rfl ?_
      refine o_icmpT (pc' := 55) X6 hx (hb hby d7_31) (XT.ii_eq_t (by decide)) (by decide) (by decide) ?_
      refine o_iloadN (pc' := 56) X6 hx (hb hby d7_55) rfl rfl ?_
      refine o_retI X6 hx hret hlk (hb hby d7_56) (by decide) (by decide) ?_
      rw [e6]
      exact ⟨rfl, N0, K0, A_pa⟩
    · refine o_iloadN (pc' := 1) X0 hx (hb hby d7_0) rfl rfl ?_
      refine o_istoreN (pc' := 2) (l' := #[.val (.ref a1), .val (.int (1 : Int32)), .val (.int (1 : Int32)), .unset, .unset]) X0 hx (hb hby d7_1) rfl rfl ?_
      refine o_aloadN (pc' := 3) X0 hx (hb hby d7_2) rfl rfl rfl ?_
      obtain ⟨T7, X7, e7, st7⟩ := getF X0 hx hZ hown (host := "") (Or.inl (hw _ (List.mem_of_getElem? (i := 10) rfl))) Via.refl e0 F_parent (g := (mkF m 3 #[.val (.ref a1), .val (.int (1 : Int32)), .val (.int (1 : Int32)), .unset, .unset] [(.ref a1)])) rfl rfl (hb hby d7_3)
      refine oGo.step (f' := (mkF m 6 #[.val (.ref a1), .val (.int (1 : Int32)), .val (.int (1 : Int32)), .unset, .unset] [(.ref pa)])) st7 ?_
      refine o_iloadN (pc' := 7) X7 hx (hb hby d7_6) rfl rfl ?_
      refine o_iaload (pc' := 8) (v := (1 : Int32)) X7 hx hZ e7 A_pa (hb hby d7_7) (by decide) rfl rfl ?_
      refine o_iloadN (pc' := 9) X7 hx (hb hby d7_8) rfl rfl ?_
      refine o_icmpT (pc' := 22) X7 hx (hb hby d7_9) (XT.ii_eq_t (by decide)) (by decide) (by decide) ?_
      refine o_iloadN (pc' := 23) X7 hx (hb hby d7_22) rfl rfl ?_
      refine o_istoreN (pc' := 24) (l' := #[.val (.ref a1), .val (.int (1 : Int32)), .val (.int (1 : Int32)), .val (.int (1 : Int32)), .unset]) X7 hx (hb hby d7_23) rfl rfl ?_
      refine o_aloadN (pc' := 25) X7 hx (hb hby d7_24) rfl rfl rfl ?_
      obtain ⟨T8, X8, e8, st8⟩ := getF X7 hx hZ hown (host := "") (Or.inl (hw _ (List.mem_of_getElem? (i := 10) rfl))) Via.refl e7 F_parent (g := (mkF m 25 #[.val (.ref a1), .val (.int (1 : Int32)), .val (.int (1 : Int32)), .val (.int (1 : Int32)), .unset] [(.ref a1)])) rfl rfl (hb hby d7_25)
      refine oGo.step (f' := (mkF m 28 #[.val (.ref a1), .val (.int (1 : Int32)), .val (.int (1 : Int32)), .val (.int (1 : Int32)), .unset] [(.ref pa)])) st8 ?_
      refine o_iloadN (pc' := 29) X8 hx (hb hby d7_28) rfl rfl ?_
      refine o_iaload (pc' := 30) (v := (1 : Int32)) X8 hx hZ e8 A_pa (hb hby d7_29) (by decide) rfl rfl ?_
      refine o_iloadN (pc' := 31) X8 hx (hb hby d7_30) rfl rfl ?_
      refine o_icmpT (pc' := 55) X8 hx (hb hby d7_31) (XT.ii_eq_t (by decide)) (by decide) (by decide) ?_
      refine o_iloadN (pc' := 56) X8 hx (hb hby d7_55) rfl rfl ?_
      refine o_retI X8 hx hret hlk (hb hby d7_56) (by decide) (by decide) ?_
      rw [e8]
      exact ⟨rfl, N0, K0, A_pa⟩
  · rcases hp2 with rfl | rfl | rfl
    · refine o_iloadN (pc' := 1) X0 hx (hb hby d7_0) rfl rfl ?_
      refine o_istoreN (pc' := 2) (l' := #[.val (.ref a1), .val (.int (2 : Int32)), .val (.int (2 : Int32)), .unset, .unset]) X0 hx (hb hby d7_1) rfl rfl ?_
      refine o_aloadN (pc' := 3) X0 hx (hb hby d7_2) rfl rfl rfl ?_
      obtain ⟨T9, X9, e9, st9⟩ := getF X0 hx hZ hown (host := "") (Or.inl (hw _ (List.mem_of_getElem? (i := 10) rfl))) Via.refl e0 F_parent (g := (mkF m 3 #[.val (.ref a1), .val (.int (2 : Int32)), .val (.int (2 : Int32)), .unset, .unset] [(.ref a1)])) rfl rfl (hb hby d7_3)
      refine oGo.step (f' := (mkF m 6 #[.val (.ref a1), .val (.int (2 : Int32)), .val (.int (2 : Int32)), .unset, .unset] [(.ref pa)])) st9 ?_
      refine o_iloadN (pc' := 7) X9 hx (hb hby d7_6) rfl rfl ?_
      refine o_iaload (pc' := 8) (v := (0 : Int32)) X9 hx hZ e9 A_pa (hb hby d7_7) (by decide) rfl rfl ?_
      refine o_iloadN (pc' := 9) X9 hx (hb hby d7_8) rfl rfl ?_
      refine o_icmpF (pc' := 12) X9 hx (hb hby d7_9) (XT.ii_eq_f (by decide)) rfl ?_
      refine o_aloadN (pc' := 13) X9 hx (hb hby d7_12) rfl rfl rfl ?_
      obtain ⟨T10, X10, e10, st10⟩ := getF X9 hx hZ hown (host := "") (Or.inl (hw _ (List.mem_of_getElem? (i := 10) rfl))) Via.refl e9 F_parent (g := (mkF m 13 #[.val (.ref a1), .val (.int (2 : Int32)), .val (.int (2 : Int32)), .unset, .unset] [(.ref a1)])) rfl rfl (hb hby d7_13)
      refine oGo.step (f' := (mkF m 16 #[.val (.ref a1), .val (.int (2 : Int32)), .val (.int (2 : Int32)), .unset, .unset] [(.ref pa)])) st10 ?_
      refine o_iloadN (pc' := 17) X10 hx (hb hby d7_16) rfl rfl ?_
      refine o_iaload (pc' := 18) (v := (0 : Int32)) X10 hx hZ e10 A_pa (hb hby d7_17) (by decide) rfl rfl ?_
      refine o_istoreN (pc' := 19) (l' := #[.val (.ref a1), .val (.int (2 : Int32)), .val (.int (0 : Int32)), .unset, .unset]) X10 hx (hb hby d7_18) rfl rfl ?_
      refine o_goto (pc' := 2) X10 hx (hb hby d7_19) (by decide) (by decide) ?_
      refine o_aloadN (pc' := 3) X10 hx (hb hby d7_2) rfl rfl rfl ?_
      obtain ⟨T11, X11, e11, st11⟩ := getF X10 hx hZ hown (host := "") (Or.inl (hw _ (List.mem_of_getElem? (i := 10) rfl))) Via.refl e10 F_parent (g := (mkF m 3 #[.val (.ref a1), .val (.int (2 : Int32)), .val (.int (0 : Int32)), .unset, .unset] [(.ref a1)])) rfl rfl (hb hby d7_3)
      refine oGo.step (f' := (mkF m 6 #[.val (.ref a1), .val (.int (2 : Int32)), .val (.int (0 : Int32)), .unset, .unset] [(.ref pa)])) st11 ?_
      refine o_iloadN (pc' := 7) X11 hx (hb hby d7_6) rfl rfl ?_
      refine o_iaload (pc' := 8) (v := (0 : Int32)) X11 hx hZ e11 A_pa (hb hby d7_7) (by decide) rfl rfl ?_
      refine o_iloadN (pc' := 9) X11 hx (hb hby d7_8) rfl rfl ?_
      refine o_icmpT (pc' := 22) X11 hx (hb hby d7_9) (XT.ii_eq_t (by decide)) (by decide) (by decide) ?_
      refine o_iloadN (pc' := 23) X11 hx (hb hby d7_22) rfl rfl ?_
      refine o_istoreN (pc' := 24) (l' := #[.val (.ref a1), .val (.int (2 : Int32)), .val (.int (0 : Int32)), .val (.int (2 : Int32)), .unset]) X11 hx (hb hby d7_23) rfl rfl ?_
      refine o_aloadN (pc' := 25) X11 hx (hb hby d7_24) rfl rfl rfl ?_
      obtain ⟨T12, X12, e12, st12⟩ := getF X11 hx hZ hown (host := "") (Or.inl (hw _ (List.mem_of_getElem? (i := 10) rfl))) Via.refl e11 F_parent (g := (mkF m 25 #[.val (.ref a1), .val (.int (2 : Int32)), .val (.int (0 : Int32)), .val (.int (2 : Int32)), .unset] [(.ref a1)])) rfl rfl (hb hby d7_25)
      refine oGo.step (f' := (mkF m 28 #[.val (.ref a1), .val (.int (2 : Int32)), .val (.int (0 : Int32)), .val (.int (2 : Int32)), .unset] [(.ref pa)])) st12 ?_
      refine o_iloadN (pc' := 29) X12 hx (hb hby d7_28) rfl rfl ?_
      refine o_iaload (pc' := 30) (v := (0 : Int32)) X12 hx hZ e12 A_pa (hb hby d7_29) (by decide) rfl rfl ?_
      refine o_iloadN (pc' := 31) X12 hx (hb hby d7_30) rfl rfl ?_
      refine o_icmpT (pc' := 55) X12 hx (hb hby d7_31) (XT.ii_eq_t (by decide)) (by decide) (by decide) ?_
      refine o_iloadN (pc' := 56) X12 hx (hb hby d7_55) rfl rfl ?_
      refine o_retI X12 hx hret hlk (hb hby d7_56) (by decide) (by decide) ?_
      rw [e12]
      exact ⟨rfl, N0, K0, A_pa⟩
    · rcases hp1 with rfl | rfl
      · refine o_iloadN (pc' := 1) X0 hx (hb hby d7_0) rfl rfl ?_
        refine o_istoreN (pc' := 2) (l' := #[.val (.ref a1), .val (.int (2 : Int32)), .val (.int (2 : Int32)), .unset, .unset]) X0 hx (hb hby d7_1) rfl rfl ?_
        refine o_aloadN (pc' := 3) X0 hx (hb hby d7_2) rfl rfl rfl ?_
        obtain ⟨T13, X13, e13, st13⟩ := getF X0 hx hZ hown (host := "") (Or.inl (hw _ (List.mem_of_getElem? (i := 10) rfl))) Via.refl e0 F_parent (g := (mkF m 3 #[.val (.ref a1), .val (.int (2 : Int32)), .val (.int (2 : Int32)), .unset, .unset] [(.ref a1)])) rfl rfl (hb hby d7_3)
        refine oGo.step (f' := (mkF m 6 #[.val (.ref a1), .val (.int (2 : Int32)), .val (.int (2 : Int32)), .unset, .unset] [(.ref pa)])) st13 ?_
        refine o_iloadN (pc' := 7) X13 hx (hb hby d7_6) rfl rfl ?_
        refine o_iaload (pc' := 8) (v := (1 : Int32)) X13 hx hZ e13 A_pa (hb hby d7_7) (by decide) rfl rfl ?_
        refine o_iloadN (pc' := 9) X13 hx (hb hby d7_8) rfl rfl ?_
        refine o_icmpF (pc' := 12) X13 hx (hb hby d7_9) (XT.ii_eq_f (by decide)) rfl ?_
        refine o_aloadN (pc' := 13) X13 hx (hb hby d7_12) rfl rfl rfl ?_
        obtain ⟨T14, X14, e14, st14⟩ := getF X13 hx hZ hown (host := "") (Or.inl (hw _ (List.mem_of_getElem? (i := 10) rfl))) Via.refl e13 F_parent (g := (mkF m 13 #[.val (.ref a1), .val (.int (2 : Int32)), .val (.int (2 : Int32)), .unset, .unset] [(.ref a1)])) rfl rfl (hb hby d7_13)
        refine oGo.step (f' := (mkF m 16 #[.val (.ref a1), .val (.int (2 : Int32)), .val (.int (2 : Int32)), .unset, .unset] [(.ref pa)])) st14 ?_
        refine o_iloadN (pc' := 17) X14 hx (hb hby d7_16) rfl rfl ?_
        refine o_iaload (pc' := 18) (v := (1 : Int32)) X14 hx hZ e14 A_pa (hb hby d7_17) (by decide) rfl rfl ?_
        refine o_istoreN (pc' := 19) (l' := #[.val (.ref a1), .val (.int (2 : Int32)), .val (.int (1 : Int32)), .unset, .unset]) X14 hx (hb hby d7_18) rfl rfl ?_
        refine o_goto (pc' := 2) X14 hx (hb hby d7_19) (by decide) (by decide) ?_
        refine o_aloadN (pc' := 3) X14 hx (hb hby d7_2) rfl rfl rfl ?_
        obtain ⟨T15, X15, e15, st15⟩ := getF X14 hx hZ hown (host := "") (Or.inl (hw _ (List.mem_of_getElem? (i := 10) rfl))) Via.refl e14 F_parent (g := (mkF m 3 #[.val (.ref a1), .val (.int (2 : Int32)), .val (.int (1 : Int32)), .unset, .unset] [(.ref a1)])) rfl rfl (hb hby d7_3)
        refine oGo.step (f' := (mkF m 6 #[.val (.ref a1), .val (.int (2 : Int32)), .val (.int (1 : Int32)), .unset, .unset] [(.ref pa)])) st15 ?_
        refine o_iloadN (pc' := 7) X15 hx (hb hby d7_6) rfl rfl ?_
        refine o_iaload (pc' := 8) (v := (0 : Int32)) X15 hx hZ e15 A_pa (hb hby d7_7) (by decide) rfl rfl ?_
        refine o_iloadN (pc' := 9) X15 hx (hb hby d7_8) rfl rfl ?_
        refine o_icmpF (pc' := 12) X15 hx (hb hby d7_9) (XT.ii_eq_f (by decide)) rfl ?_
        refine o_aloadN (pc' := 13) X15 hx (hb hby d7_12) rfl rfl rfl ?_
        obtain ⟨T16, X16, e16, st16⟩ := getF X15 hx hZ hown (host := "") (Or.inl (hw _ (List.mem_of_getElem? (i := 10) rfl))) Via.refl e15 F_parent (g := (mkF m 13 #[.val (.ref a1), .val (.int (2 : Int32)), .val (.int (1 : Int32)), .unset, .unset] [(.ref a1)])) rfl rfl (hb hby d7_13)
        refine oGo.step (f' := (mkF m 16 #[.val (.ref a1), .val (.int (2 : Int32)), .val (.int (1 : Int32)), .unset, .unset] [(.ref pa)])) st16 ?_
        refine o_iloadN (pc' := 17) X16 hx (hb hby d7_16) rfl rfl ?_
        refine o_iaload (pc' := 18) (v := (0 : Int32)) X16 hx hZ e16 A_pa (hb hby d7_17) (by decide) rfl rfl ?_
        refine o_istoreN (pc' := 19) (l' := #[.val (.ref a1), .val (.int (2 : Int32)), .val (.int (0 : Int32)), .unset, .unset]) X16 hx (hb hby d7_18) rfl rfl ?_
        refine o_goto (pc' := 2) X16 hx (hb hby d7_19) (by decide) (by decide) ?_
        refine o_aloadN (pc' := 3) X16 hx (hb hby d7_2) rfl rfl rfl ?_
        obtain ⟨T17, X17, e17, st17⟩ := getF X16 hx hZ hown (host := "") (Or.inl (hw _ (List.mem_of_getElem? (i := 10) rfl))) Via.refl e16 F_parent (g := (mkF m 3 #[.val (.ref a1), .val (.int (2 : Int32)), .val (.int (0 : Int32)), .unset, .unset] [(.ref a1)])) rfl rfl (hb hby d7_3)
        refine oGo.step (f' := (mkF m 6 #[.val (.ref a1), .val (.int (2 : Int32)), .val (.int (0 : Int32)), .unset, .unset] [(.ref pa)])) st17 ?_
        refine o_iloadN (pc' := 7) X17 hx (hb hby d7_6) rfl rfl ?_
        refine o_iaload (pc' := 8) (v := (0 : Int32)) X17 hx hZ e17 A_pa (hb hby d7_7) (by decide) rfl rfl ?_
        refine o_iloadN (pc' := 9) X17 hx (hb hby d7_8) rfl rfl ?_
        refine o_icmpT (pc' := 22) X17 hx (hb hby d7_9) (XT.ii_eq_t (by decide)) (by decide) (by decide) ?_
        refine o_iloadN (pc' := 23) X17 hx (hb hby d7_22) rfl rfl ?_
        refine o_istoreN (pc' := 24) (l' := #[.val (.ref a1), .val (.int (2 : Int32)), .val (.int (0 : Int32)), .val (.int (2 : Int32)), .unset]) X17 hx (hb hby d7_23) rfl rfl ?_
        refine o_aloadN (pc' := 25) X17 hx (hb hby d7_24) rfl rfl rfl ?_
        obtain ⟨T18, X18, e18, st18⟩ := getF X17 hx hZ hown (host := "") (Or.inl (hw _ (List.mem_of_getElem? (i := 10) rfl))) Via.refl e17 F_parent (g := (mkF m 25 #[.val (.ref a1), .val (.int (2 : Int32)), .val (.int (0 : Int32)), .val (.int (2 : Int32)), .unset] [(.ref a1)])) rfl rfl (hb hby d7_25)
        refine oGo.step (f' := (mkF m 28 #[.val (.ref a1), .val (.int (2 : Int32)), .val (.int (0 : Int32)), .val (.int (2 : Int32)), .unset] [(.ref pa)])) st18 ?_
        refine o_iloadN (pc' := 29) X18 hx (hb hby d7_28) rfl rfl ?_
        refine o_iaload (pc' := 30) (v := (1 : Int32)) X18 hx hZ e18 A_pa (hb hby d7_29) (by decide) rfl rfl ?_
        refine o_iloadN (pc' := 31) X18 hx (hb hby d7_30) rfl rfl ?_
        refine o_icmpF (pc' := 34) X18 hx (hb hby d7_31) (XT.ii_eq_f (by decide)) rfl ?_
        refine o_aloadN (pc' := 35) X18 hx (hb hby d7_34) rfl rfl rfl ?_
        obtain ⟨T19, X19, e19, st19⟩ := getF X18 hx hZ hown (host := "") (Or.inl (hw _ (List.mem_of_getElem? (i := 10) rfl))) Via.refl e18 F_parent (g := (mkF m 35 #[.val (.ref a1), .val (.int (2 : Int32)), .val (.int (0 : Int32)), .val (.int (2 : Int32)), .unset] [(.ref a1)])) rfl rfl (hb hby d7_35)
        refine oGo.step (f' := (mkF m 38 #[.val (.ref a1), .val (.int (2 : Int32)), .val (.int (0 : Int32)), .val (.int (2 : Int32)), .unset] [(.ref pa)])) st19 ?_
        refine o_iloadN (pc' := 39) X19 hx (hb hby d7_38) rfl rfl ?_
        refine o_iaload (pc' := 40) (v := (1 : Int32)) X19 hx hZ e19 A_pa (hb hby d7_39) (by decide) rfl rfl ?_
        refine o_istore (pc' := 42) (l' := #[.val (.ref a1), .val (.int (2 : Int32)), .val (.int (0 : Int32)), .val (.int (2 : Int32)), .val (.int (1 : Int32))]) X19 hx (hb hby d7_40) rfl rfl ?_
        refine o_aloadN (pc' := 43) X19 hx (hb hby d7_42) rfl rfl rfl ?_
        obtain ⟨T20, X20, e20, st20⟩ := getF X19 hx hZ hown (host := "") (Or.inl (hw _ (List.mem_of_getElem? (i := 10) rfl))) Via.refl e19 F_parent (g := (mkF m 43 #[.val (.ref a1), .val (.int (2 : Int32)), .val (.int (0 : Int32)), .val (.int (2 : Int32)), .val (.int (1 : Int32))] [(.ref a1)])) rfl rfl (hb hby d7_43)
        refine oGo.step (f' := (mkF m 46 #[.val (.ref a1), .val (.int (2 : Int32)), .val (.int (0 : Int32)), .val (.int (2 : Int32)), .val (.int (1 : Int32))] [(.ref pa)])) st20 ?_
        refine o_iloadN (pc' := 47) X20 hx (hb hby d7_46) rfl rfl ?_
        refine o_iloadN (pc' := 48) X20 hx (hb hby d7_47) rfl rfl ?_
        obtain ⟨T21, h21_, X21, e21, W21, st21⟩ := o_iastore (x := (0 : Int32)) (j := (2 : Int32)) (Ls := #[.val (.ref a1), .val (.int (2 : Int32)), .val (.int (0 : Int32)), .val (.int (2 : Int32)), .val (.int (1 : Int32))]) (st := []) X20 hx hZ e20 A_pa (hb hby d7_48) (by decide) (show _ < 4 by decide) rfl
        refine oGo.step (f' := (mkF m 49 #[.val (.ref a1), .val (.int (2 : Int32)), .val (.int (0 : Int32)), .val (.int (2 : Int32)), .val (.int (1 : Int32))] [])) st21 ?_
        have N21 := Fr.snoc X21 N0 ge_pa
        have F22 := A_pa.set W21
        replace F22 : oInts Z h21_ pa [(0 : Int32), (0 : Int32), (0 : Int32), p3] := F22
        have K23 := Keep.of_wr W21
        have F24 := E0.keep K23
        have F25 := F_parent.keep K23 (ninS ne_pa nin0)
        have Z26 := Nat.le_trans Z0 K23.1
        have K27 := K0.trans K23 (allS (Or.inl (List.mem_of_getElem? (i := 0) rfl)) all0)
        refine o_iload (pc' := 51) X21 hx (hb hby d7_49) rfl rfl ?_
        refine o_istoreN (pc' := 52) (l' := #[.val (.ref a1), .val (.int (2 : Int32)), .val (.int (0 : Int32)), .val (.int (1 : Int32)), .val (.int (1 : Int32))]) X21 hx (hb hby d7_51) rfl rfl ?_
        refine o_goto (pc' := 24) X21 hx (hb hby d7_52) (by decide) (by decide) ?_
        refine o_aloadN (pc' := 25) X21 hx (hb hby d7_24) rfl rfl rfl ?_
        obtain ⟨T28, X28, e28, st28⟩ := getF X21 hx hZ hown (host := "") (Or.inl (hw _ (List.mem_of_getElem? (i := 10) rfl))) Via.refl e21 F25 (g := (mkF m 25 #[.val (.ref a1), .val (.int (2 : Int32)), .val (.int (0 : Int32)), .val (.int (1 : Int32)), .val (.int (1 : Int32))] [(.ref a1)])) rfl rfl (hb hby d7_25)
        refine oGo.step (f' := (mkF m 28 #[.val (.ref a1), .val (.int (2 : Int32)), .val (.int (0 : Int32)), .val (.int (1 : Int32)), .val (.int (1 : Int32))] [(.ref pa)])) st28 ?_
        refine o_iloadN (pc' := 29) X28 hx (hb hby d7_28) rfl rfl ?_
        refine o_iaload (pc' := 30) (v := (0 : Int32)) X28 hx hZ e28 F22 (hb hby d7_29) (by decide) rfl rfl ?_
        refine o_iloadN (pc' := 31) X28 hx (hb hby d7_30) rfl rfl ?_
        refine o_icmpT (pc' := 55) X28 hx (hb hby d7_31) (XT.ii_eq_t (by decide)) (by decide) (by decide) ?_
        refine o_iloadN (pc' := 56) X28 hx (hb hby d7_55) rfl rfl ?_
        refine o_retI X28 hx hret hlk (hb hby d7_56) (by decide) (by decide) ?_
        rw [e28]
        exact ⟨rfl, N21, K27, F22⟩
      · refine o_iloadN (pc' := 1) X0 hx (hb hby d7_0) rfl rfl ?_
        refine o_istoreN (pc' := 2) (l' := #[.val (.ref a1), .val (.int (2 : Int32)), .val (.int (2 : Int32)), .unset, .unset]) X0 hx (hb hby d7_1) rfl rfl ?_
        refine o_aloadN (pc' := 3) X0 hx (hb hby d7_2) rfl rfl rfl ?_
        obtain ⟨T29, X29, e29, st29⟩ := getF X0 hx hZ hown (host := "") (Or.inl (hw _ (List.mem_of_getElem? (i := 10) rfl))) Via.refl e0 F_parent (g := (mkF m 3 #[.val (.ref a1), .val (.int (2 : Int32)), .val (.int (2 : Int32)), .unset, .unset] [(.ref a1)])) rfl rfl (hb hby d7_3)
        refine oGo.step (f' := (mkF m 6 #[.val (.ref a1), .val (.int (2 : Int32)), .val (.int (2 : Int32)), .unset, .unset] [(.ref pa)])) st29 ?_
        refine o_iloadN (pc' := 7) X29 hx (hb hby d7_6) rfl rfl ?_
        refine o_iaload (pc' := 8) (v := (1 : Int32)) X29 hx hZ e29 A_pa (hb hby d7_7) (by decide) rfl rfl ?_
        refine o_iloadN (pc' := 9) X29 hx (hb hby d7_8) rfl rfl ?_
        refine o_icmpF (pc' := 12) X29 hx (hb hby d7_9) (XT.ii_eq_f (by decide)) rfl ?_
        refine o_aloadN (pc' := 13) X29 hx (hb hby d7_12) rfl rfl rfl ?_
        obtain ⟨T30, X30, e30, st30⟩ := getF X29 hx hZ hown (host := "") (Or.inl (hw _ (List.mem_of_getElem? (i := 10) rfl))) Via.refl e29 F_parent (g := (mkF m 13 #[.val (.ref a1), .val (.int (2 : Int32)), .val (.int (2 : Int32)), .unset, .unset] [(.ref a1)])) rfl rfl (hb hby d7_13)
        refine oGo.step (f' := (mkF m 16 #[.val (.ref a1), .val (.int (2 : Int32)), .val (.int (2 : Int32)), .unset, .unset] [(.ref pa)])) st30 ?_
        refine o_iloadN (pc' := 17) X30 hx (hb hby d7_16) rfl rfl ?_
        refine o_iaload (pc' := 18) (v := (1 : Int32)) X30 hx hZ e30 A_pa (hb hby d7_17) (by decide) rfl rfl ?_
        refine o_istoreN (pc' := 19) (l' := #[.val (.ref a1), .val (.int (2 : Int32)), .val (.int (1 : Int32)), .unset, .unset]) X30 hx (hb hby d7_18) rfl rfl ?_
        refine o_goto (pc' := 2) X30 hx (hb hby d7_19) (by decide) (by decide) ?_
        refine o_aloadN (pc' := 3) X30 hx (hb hby d7_2) rfl rfl rfl ?_
        obtain ⟨T31, X31, e31, st31⟩ := getF X30 hx hZ hown (host := "") (Or.inl (hw _ (List.mem_of_getElem? (i := 10) rfl))) Via.refl e30 F_parent (g := (mkF m 3 #[.val (.ref a1), .val (.int (2 : Int32)), .val (.int (1 : Int32)), .unset, .unset] [(.ref a1)])) rfl rfl (hb hby d7_3)
        refine oGo.step (f' := (mkF m 6 #[.val (.ref a1), .val (.int (2 : Int32)), .val (.int (1 : Int32)), .unset, .unset] [(.ref pa)])) st31 ?_
        refine o_iloadN (pc' := 7) X31 hx (hb hby d7_6) rfl rfl ?_
        refine o_iaload (pc' := 8) (v := (1 : Int32)) X31 hx hZ e31 A_pa (hb hby d7_7) (by decide) rfl rfl ?_
        refine o_iloadN (pc' := 9) X31 hx (hb hby d7_8) rfl rfl ?_
        refine o_icmpT (pc' := 22) X31 hx (hb hby d7_9) (XT.ii_eq_t (by decide)) (by decide) (by decide) ?_
        refine o_iloadN (pc' := 23) X31 hx (hb hby d7_22) rfl rfl ?_
        refine o_istoreN (pc' := 24) (l' := #[.val (.ref a1), .val (.int (2 : Int32)), .val (.int (1 : Int32)), .val (.int (2 : Int32)), .unset]) X31 hx (hb hby d7_23) rfl rfl ?_
        refine o_aloadN (pc' := 25) X31 hx (hb hby d7_24) rfl rfl rfl ?_
        obtain ⟨T32, X32, e32, st32⟩ := getF X31 hx hZ hown (host := "") (Or.inl (hw _ (List.mem_of_getElem? (i := 10) rfl))) Via.refl e31 F_parent (g := (mkF m 25 #[.val (.ref a1), .val (.int (2 : Int32)), .val (.int (1 : Int32)), .val (.int (2 : Int32)), .unset] [(.ref a1)])) rfl rfl (hb hby d7_25)
        refine oGo.step (f' := (mkF m 28 #[.val (.ref a1), .val (.int (2 : Int32)), .val (.int (1 : Int32)), .val (.int (2 : Int32)), .unset] [(.ref pa)])) st32 ?_
        refine o_iloadN (pc' := 29) X32 hx (hb hby d7_28) rfl rfl ?_
        refine o_iaload (pc' := 30) (v := (1 : Int32)) X32 hx hZ e32 A_pa (hb hby d7_29) (by decide) rfl rfl ?_
        refine o_iloadN (pc' := 31) X32 hx (hb hby d7_30) rfl rfl ?_
        refine o_icmpT (pc' := 55) X32 hx (hb hby d7_31) (XT.ii_eq_t (by decide)) (by decide) (by decide) ?_
        refine o_iloadN (pc' := 56) X32 hx (hb hby d7_55) rfl rfl ?_
        refine o_retI X32 hx hret hlk (hb hby d7_56) (by decide) (by decide) ?_
        rw [e32]
        exact ⟨rfl, N0, K0, A_pa⟩
    · refine o_iloadN (pc' := 1) X0 hx (hb hby d7_0) rfl rfl ?_
      refine o_istoreN (pc' := 2) (l' := #[.val (.ref a1), .val (.int (2 : Int32)), .val (.int (2 : Int32)), .unset, .unset]) X0 hx (hb hby d7_1) rfl rfl ?_
      refine o_aloadN (pc' := 3) X0 hx (hb hby d7_2) rfl rfl rfl ?_
      obtain ⟨T33, X33, e33, st33⟩ := getF X0 hx hZ hown (host := "") (Or.inl (hw _ (List.mem_of_getElem? (i := 10) rfl))) Via.refl e0 F_parent (g := (mkF m 3 #[.val (.ref a1), .val (.int (2 : Int32)), .val (.int (2 : Int32)), .unset, .unset] [(.ref a1)])) rfl rfl (hb hby d7_3)
      refine oGo.step (f' := (mkF m 6 #[.val (.ref a1), .val (.int (2 : Int32)), .val (.int (2 : Int32)), .unset, .unset] [(.ref pa)])) st33 ?_
      refine o_iloadN (pc' := 7) X33 hx (hb hby d7_6) rfl rfl ?_
      refine o_iaload (pc' := 8) (v := (2 : Int32)) X33 hx hZ e33 A_pa (hb hby d7_7) (by decide) rfl rfl ?_
      refine o_iloadN (pc' := 9) X33 hx (hb hby d7_8) rfl rfl ?_
      refine o_icmpT (pc' := 22) X33 hx (hb hby d7_9) (XT.ii_eq_t (by decide)) (by decide) (by decide) ?_
      refine o_iloadN (pc' := 23) X33 hx (hb hby d7_22) rfl rfl ?_
      refine o_istoreN (pc' := 24) (l' := #[.val (.ref a1), .val (.int (2 : Int32)), .val (.int (2 : Int32)), .val (.int (2 : Int32)), .unset]) X33 hx (hb hby d7_23) rfl rfl ?_
      refine o_aloadN (pc' := 25) X33 hx (hb hby d7_24) rfl rfl rfl ?_
      obtain ⟨T34, X34, e34, st34⟩ := getF X33 hx hZ hown (host := "") (Or.inl (hw _ (List.mem_of_getElem? (i := 10) rfl))) Via.refl e33 F_parent (g := (mkF m 25 #[.val (.ref a1), .val (.int (2 : Int32)), .val (.int (2 : Int32)), .val (.int (2 : Int32)), .unset] [(.ref a1)])) rfl rfl (hb hby d7_25)
      refine oGo.step (f' := (mkF m 28 #[.val (.ref a1), .val (.int (2 : Int32)), .val (.int (2 : Int32)), .val (.int (2 : Int32)), .unset] [(.ref pa)])) st34 ?_
      refine o_iloadN (pc' := 29) X34 hx (hb hby d7_28) rfl rfl ?_
      refine o_iaload (pc' := 30) (v := (2 : Int32)) X34 hx hZ e34 A_pa (hb hby d7_29) (by decide) rfl rfl ?_
      refine o_iloadN (pc' := 31) X34 hx (hb hby d7_30) rfl rfl ?_
      refine o_icmpT (pc' := 55) X34 hx (hb hby d7_31) (XT.ii_eq_t (by decide)) (by decide) (by decide) ?_
      refine o_iloadN (pc' := 56) X34 hx (hb hby d7_55) rfl rfl ?_
      refine o_retI X34 hx hret hlk (hb hby d7_56) (by decide) (by decide) ?_
      rw [e34]
      exact ⟨rfl, N0, K0, A_pa⟩
  · rcases hp3 with rfl | rfl | rfl | rfl
    · refine o_iloadN (pc' := 1) X0 hx (hb hby d7_0) rfl rfl ?_
      refine o_istoreN (pc' := 2) (l' := #[.val (.ref a1), .val (.int (3 : Int32)), .val (.int (3 : Int32)), .unset, .unset]) X0 hx (hb hby d7_1) rfl rfl ?_
      refine o_aloadN (pc' := 3) X0 hx (hb hby d7_2) rfl rfl rfl ?_
      obtain ⟨T35, X35, e35, st35⟩ := getF X0 hx hZ hown (host := "") (Or.inl (hw _ (List.mem_of_getElem? (i := 10) rfl))) Via.refl e0 F_parent (g := (mkF m 3 #[.val (.ref a1), .val (.int (3 : Int32)), .val (.int (3 : Int32)), .unset, .unset] [(.ref a1)])) rfl rfl (hb hby d7_3)
      refine oGo.step (f' := (mkF m 6 #[.val (.ref a1), .val (.int (3 : Int32)), .val (.int (3 : Int32)), .unset, .unset] [(.ref pa)])) st35 ?_
      refine o_iloadN (pc' := 7) X35 hx (hb hby d7_6) rfl rfl ?_
      refine o_iaload (pc' := 8) (v := (0 : Int32)) X35 hx hZ e35 A_pa (hb hby d7_7) (by decide) rfl rfl ?_
      refine o_iloadN (pc' := 9) X35 hx (hb hby d7_8) rfl rfl ?_
      refine o_icmpF (pc' := 12) X35 hx (hb hby d7_9) (XT.ii_eq_f (by decide)) rfl ?_
      refine o_aloadN (pc' := 13) X35 hx (hb hby d7_12) rfl rfl rfl ?_
      obtain ⟨T36, X36, e36, st36⟩ := getF X35 hx hZ hown (host := "") (Or.inl (hw _ (List.mem_of_getElem? (i := 10) rfl))) Via.refl e35 F_parent (g := (mkF m 13 #[.val (.ref a1), .val (.int (3 : Int32)), .val (.int (3 : Int32)), .unset, .unset] [(.ref a1)])) rfl rfl (hb hby d7_13)
      refine oGo.step (f' := (mkF m 16 #[.val (.ref a1), .val (.int (3 : Int32)), .val (.int (3 : Int32)), .unset, .unset] [(.ref pa)])) st36 ?_
      refine o_iloadN (pc' := 17) X36 hx (hb hby d7_16) rfl rfl ?_
      refine o_iaload (pc' := 18) (v := (0 : Int32)) X36 hx hZ e36 A_pa (hb hby d7_17) (by decide) rfl rfl ?_
      refine o_istoreN (pc' := 19) (l' := #[.val (.ref a1), .val (.int (3 : Int32)), .val (.int (0 : Int32)), .unset, .unset]) X36 hx (hb hby d7_18) rfl rfl ?_
      refine o_goto (pc' := 2) X36 hx (hb hby d7_19) (by decide) (by decide) ?_
      refine o_aloadN (pc' := 3) X36 hx (hb hby d7_2) rfl rfl rfl ?_
      obtain ⟨T37, X37, e37, st37⟩ := getF X36 hx hZ hown (host := "") (Or.inl (hw _ (List.mem_of_getElem? (i := 10) rfl))) Via.refl e36 F_parent (g := (mkF m 3 #[.val (.ref a1), .val (.int (3 : Int32)), .val (.int (0 : Int32)), .unset, .unset] [(.ref a1)])) rfl rfl (hb hby d7_3)
      refine oGo.step (f' := (mkF m 6 #[.val (.ref a1), .val (.int (3 : Int32)), .val (.int (0 : Int32)), .unset, .unset] [(.ref pa)])) st37 ?_
      refine o_iloadN (pc' := 7) X37 hx (hb hby d7_6) rfl rfl ?_
      refine o_iaload (pc' := 8) (v := (0 : Int32)) X37 hx hZ e37 A_pa (hb hby d7_7) (by decide) rfl rfl ?_
      refine o_iloadN (pc' := 9) X37 hx (hb hby d7_8) rfl rfl ?_
      refine o_icmpT (pc' := 22) X37 hx (hb hby d7_9) (XT.ii_eq_t (by decide)) (by decide) (by decide) ?_
      refine o_iloadN (pc' := 23) X37 hx (hb hby d7_22) rfl rfl ?_
      refine o_istoreN (pc' := 24) (l' := #[.val (.ref a1), .val (.int (3 : Int32)), .val (.int (0 : Int32)), .val (.int (3 : Int32)), .unset]) X37 hx (hb hby d7_23) rfl rfl ?_
      refine o_aloadN (pc' := 25) X37 hx (hb hby d7_24) rfl rfl rfl ?_
      obtain ⟨T38, X38, e38, st38⟩ := getF X37 hx hZ hown (host := "") (Or.inl (hw _ (List.mem_of_getElem? (i := 10) rfl))) Via.refl e37 F_parent (g := (mkF m 25 #[.val (.ref a1), .val (.int (3 : Int32)), .val (.int (0 : Int32)), .val (.int (3 : Int32)), .unset] [(.ref a1)])) rfl rfl (hb hby d7_25)
      refine oGo.step (f' := (mkF m 28 #[.val (.ref a1), .val (.int (3 : Int32)), .val (.int (0 : Int32)), .val (.int (3 : Int32)), .unset] [(.ref pa)])) st38 ?_
      refine o_iloadN (pc' := 29) X38 hx (hb hby d7_28) rfl rfl ?_
      refine o_iaload (pc' := 30) (v := (0 : Int32)) X38 hx hZ e38 A_pa (hb hby d7_29) (by decide) rfl rfl ?_
      refine o_iloadN (pc' := 31) X38 hx (hb hby d7_30) rfl rfl ?_
      refine o_icmpT (pc' := 55) X38 hx (hb hby d7_31) (XT.ii_eq_t (by decide)) (by decide) (by decide) ?_
      refine o_iloadN (pc' := 56) X38 hx (hb hby d7_55) rfl rfl ?_
      refine o_retI X38 hx hret hlk (hb hby d7_56) (by decide) (by decide) ?_
      rw [e38]
      exact ⟨rfl, N0, K0, A_pa⟩
    · rcases hp1 with rfl | rfl
      · refine o_iloadN (pc' := 1) X0 hx (hb hby d7_0) rfl rfl ?_
        refine o_istoreN (pc' := 2) (l' := #[.val (.ref a1), .val (.int (3 : Int32)), .val (.int (3 : Int32)), .unset, .unset]) X0 hx (hb hby d7_1) rfl rfl ?_
        refine o_aloadN (pc' := 3) X0 hx (hb hby d7_2) rfl rfl rfl ?_
        obtain ⟨T39, X39, e39, st39⟩ := getF X0 hx hZ hown (host := "") (Or.inl (hw _ (List.mem_of_getElem? (i := 10) rfl))) Via.refl e0 F_parent (g := (mkF m 3 #[.val (.ref a1), .val (.int (3 : Int32)), .val (.int (3 : Int32)), .unset, .unset] [(.ref a1)])) rfl rfl (hb hby d7_3)
        refine oGo.step (f' := (mkF m 6 #[.val (.ref a1), .val (.int (3 : Int32)), .val (.int (3 : Int32)), .unset, .unset] [(.ref pa)])) st39 ?_
        refine o_iloadN (pc' := 7) X39 hx (hb hby d7_6) rfl rfl ?_
        refine o_iaload (pc' := 8) (v := (1 : Int32)) X39 hx hZ e39 A_pa (hb hby d7_7) (by decide) rfl rfl ?_
        refine o_iloadN (pc' := 9) X39 hx (hb hby d7_8) rfl rfl ?_
        refine o_icmpF (pc' := 12) X39 hx (hb hby d7_9) (XT.ii_eq_f (by decide)) rfl ?_
        refine o_aloadN (pc' := 13) X39 hx (hb hby d7_12) rfl rfl rfl ?_
        obtain ⟨T40, X40, e40, st40⟩ := getF X39 hx hZ hown (host := "") (Or.inl (hw _ (List.mem_of_getElem? (i := 10) rfl))) Via.refl e39 F_parent (g := (mkF m 13 #[.val (.ref a1), .val (.int (3 : Int32)), .val (.int (3 : Int32)), .unset, .unset] [(.ref a1)])) rfl rfl (hb hby d7_13)
        refine oGo.step (f' := (mkF m 16 #[.val (.ref a1), .val (.int (3 : Int32)), .val (.int (3 : Int32)), .unset, .unset] [(.ref pa)])) st40 ?_
        refine o_iloadN (pc' := 17) X40 hx (hb hby d7_16) rfl rfl ?_
        refine o_iaload (pc' := 18) (v := (1 : Int32)) X40 hx hZ e40 A_pa (hb hby d7_17) (by decide) rfl rfl ?_
        refine o_istoreN (pc' := 19) (l' := #[.val (.ref a1), .val (.int (3 : Int32)), .val (.int (1 : Int32)), .unset, .unset]) X40 hx (hb hby d7_18) rfl rfl ?_
        refine o_goto (pc' := 2) X40 hx (hb hby d7_19) (by decide) (by decide) ?_
        refine o_aloadN (pc' := 3) X40 hx (hb hby d7_2) rfl rfl rfl ?_
        obtain ⟨T41, X41, e41, st41⟩ := getF X40 hx hZ hown (host := "") (Or.inl (hw _ (List.mem_of_getElem? (i := 10) rfl))) Via.refl e40 F_parent (g := (mkF m 3 #[.val (.ref a1), .val (.int (3 : Int32)), .val (.int (1 : Int32)), .unset, .unset] [(.ref a1)])) rfl rfl (hb hby d7_3)
        refine oGo.step (f' := (mkF m 6 #[.val (.ref a1), .val (.int (3 : Int32)), .val (.int (1 : Int32)), .unset, .unset] [(.ref pa)])) st41 ?_
        refine o_iloadN (pc' := 7) X41 hx (hb hby d7_6) rfl rfl ?_
        refine o_iaload (pc' := 8) (v := (0 : Int32)) X41 hx hZ e41 A_pa (hb hby d7_7) (by decide) rfl rfl ?_
        refine o_iloadN (pc' := 9) X41 hx (hb hby d7_8) rfl rfl ?_
        refine o_icmpF (pc' := 12) X41 hx (hb hby d7_9) (XT.ii_eq_f (by decide)) rfl ?_
        refine o_aloadN (pc' := 13) X41 hx (hb hby d7_12) rfl rfl rfl ?_
        obtain ⟨T42, X42, e42, st42⟩ := getF X41 hx hZ hown (host := "") (Or.inl (hw _ (List.mem_of_getElem? (i := 10) rfl))) Via.refl e41 F_parent (g := (mkF m 13 #[.val (.ref a1), .val (.int (3 : Int32)), .val (.int (1 : Int32)), .unset, .unset] [(.ref a1)])) rfl rfl (hb hby d7_13)
        refine oGo.step (f' := (mkF m 16 #[.val (.ref a1), .val (.int (3 : Int32)), .val (.int (1 : Int32)), .unset, .unset] [(.ref pa)])) st42 ?_
        refine o_iloadN (pc' := 17) X42 hx (hb hby d7_16) rfl rfl ?_
        refine o_iaload (pc' := 18) (v := (0 : Int32)) X42 hx hZ e42 A_pa (hb hby d7_17) (by decide) rfl rfl ?_
        refine o_istoreN (pc' := 19) (l' := #[.val (.ref a1), .val (.int (3 : Int32)), .val (.int (0 : Int32)), .unset, .unset]) X42 hx (hb hby d7_18) rfl rfl ?_
        refine o_goto (pc' := 2) X42 hx (hb hby d7_19) (by decide) (by decide) ?_
        refine o_aloadN (pc' := 3) X42 hx (hb hby d7_2) rfl rfl rfl ?_
        obtain ⟨T43, X43, e43, st43⟩ := getF X42 hx hZ hown (host := "") (Or.inl (hw _ (List.mem_of_getElem? (i := 10) rfl))) Via.refl e42 F_parent (g := (mkF m 3 #[.val (.ref a1), .val (.int (3 : Int32)), .val (.int (0 : Int32)), .unset, .unset] [(.ref a1)])) rfl rfl (hb hby d7_3)
        refine oGo.step (f' := (mkF m 6 #[.val (.ref a1), .val (.int (3 : Int32)), .val (.int (0 : Int32)), .unset, .unset] [(.ref pa)])) st43 ?_
        refine o_iloadN (pc' := 7) X43 hx (hb hby d7_6) rfl rfl ?_
        refine o_iaload (pc' := 8) (v := (0 : Int32)) X43 hx hZ e43 A_pa (hb hby d7_7) (by decide) rfl rfl ?_
        refine o_iloadN (pc' := 9) X43 hx (hb hby d7_8) rfl rfl ?_
        refine o_icmpT (pc' := 22) X43 hx (hb hby d7_9) (XT.ii_eq_t (by decide)) (by decide) (by decide) ?_
        refine o_iloadN (pc' := 23) X43 hx (hb hby d7_22) rfl rfl ?_
        refine o_istoreN (pc' := 24) (l' := #[.val (.ref a1), .val (.int (3 : Int32)), .val (.int (0 : Int32)), .val (.int (3 : Int32)), .unset]) X43 hx (hb hby d7_23) rfl rfl ?_
        refine o_aloadN (pc' := 25) X43 hx (hb hby d7_24) rfl rfl rfl ?_
        obtain ⟨T44, X44, e44, st44⟩ := getF X43 hx hZ hown (host := "") (Or.inl (hw _ (List.mem_of_getElem? (i := 10) rfl))) Via.refl e43 F_parent (g := (mkF m 25 #[.val (.ref a1), .val (.int (3 : Int32)), .val (.int (0 : Int32)), .val (.int (3 : Int32)), .unset] [(.ref a1)])) rfl rfl (hb hby d7_25)
        refine oGo.step (f' := (mkF m 28 #[.val (.ref a1), .val (.int (3 : Int32)), .val (.int (0 : Int32)), .val (.int (3 : Int32)), .unset] [(.ref pa)])) st44 ?_
        refine o_iloadN (pc' := 29) X44 hx (hb hby d7_28) rfl rfl ?_
        refine o_iaload (pc' := 30) (v := (1 : Int32)) X44 hx hZ e44 A_pa (hb hby d7_29) (by decide) rfl rfl ?_
        refine o_iloadN (pc' := 31) X44 hx (hb hby d7_30) rfl rfl ?_
        refine o_icmpF (pc' := 34) X44 hx (hb hby d7_31) (XT.ii_eq_f (by decide)) rfl ?_
        refine o_aloadN (pc' := 35) X44 hx (hb hby d7_34) rfl rfl rfl ?_
        obtain ⟨T45, X45, e45, st45⟩ := getF X44 hx hZ hown (host := "") (Or.inl (hw _ (List.mem_of_getElem? (i := 10) rfl))) Via.refl e44 F_parent (g := (mkF m 35 #[.val (.ref a1), .val (.int (3 : Int32)), .val (.int (0 : Int32)), .val (.int (3 : Int32)), .unset] [(.ref a1)])) rfl rfl (hb hby d7_35)
        refine oGo.step (f' := (mkF m 38 #[.val (.ref a1), .val (.int (3 : Int32)), .val (.int (0 : Int32)), .val (.int (3 : Int32)), .unset] [(.ref pa)])) st45 ?_
        refine o_iloadN (pc' := 39) X45 hx (hb hby d7_38) rfl rfl ?_
        refine o_iaload (pc' := 40) (v := (1 : Int32)) X45 hx hZ e45 A_pa (hb hby d7_39) (by decide) rfl rfl ?_
        refine o_istore (pc' := 42) (l' := #[.val (.ref a1), .val (.int (3 : Int32)), .val (.int (0 : Int32)), .val (.int (3 : Int32)), .val (.int (1 : Int32))]) X45 hx (hb hby d7_40) rfl rfl ?_
        refine o_aloadN (pc' := 43) X45 hx (hb hby d7_42) rfl rfl rfl ?_
        obtain ⟨T46, X46, e46, st46⟩ := getF X45 hx hZ hown (host := "") (Or.inl (hw _ (List.mem_of_getElem? (i := 10) rfl))) Via.refl e45 F_parent (g := (mkF m 43 #[.val (.ref a1), .val (.int (3 : Int32)), .val (.int (0 : Int32)), .val (.int (3 : Int32)), .val (.int (1 : Int32))] [(.ref a1)])) rfl rfl (hb hby d7_43)
        refine oGo.step (f' := (mkF m 46 #[.val (.ref a1), .val (.int (3 : Int32)), .val (.int (0 : Int32)), .val (.int (3 : Int32)), .val (.int (1 : Int32))] [(.ref pa)])) st46 ?_
        refine o_iloadN (pc' := 47) X46 hx (hb hby d7_46) rfl rfl ?_
        refine o_iloadN (pc' := 48) X46 hx (hb hby d7_47) rfl rfl ?_
        obtain ⟨T47, h47_, X47, e47, W47, st47⟩ := o_iastore (x := (0 : Int32)) (j := (3 : Int32)) (Ls := #[.val (.ref a1), .val (.int (3 : Int32)), .val (.int (0 : Int32)), .val (.int (3 : Int32)), .val (.int (1 : Int32))]) (st := []) X46 hx hZ e46 A_pa (hb hby d7_48) (by decide) (show _ < 4 by decide) rfl
        refine oGo.step (f' := (mkF m 49 #[.val (.ref a1), .val (.int (3 : Int32)), .val (.int (0 : Int32)), .val (.int (3 : Int32)), .val (.int (1 : Int32))] [])) st47 ?_
        have N47 := Fr.snoc X47 N0 ge_pa
        have F48 := A_pa.set W47
        replace F48 : oInts Z h47_ pa [(0 : Int32), (0 : Int32), p2, (0 : Int32)] := F48
        have K49 := Keep.of_wr W47
        have F50 := E0.keep K49
        have F51 := F_parent.keep K49 (ninS ne_pa nin0)
        have Z52 := Nat.le_trans Z0 K49.1
        have K53 := K0.trans K49 (allS (Or.inl (List.mem_of_getElem? (i := 0) rfl)) all0)
        refine o_iload (pc' := 51) X47 hx (hb hby d7_49) rfl rfl ?_
        refine o_istoreN (pc' := 52) (l' := #[.val (.ref a1), .val (.int (3 : Int32)), .val (.int (0 : Int32)), .val (.int (1 : Int32)), .val (.int (1 : Int32))]) X47 hx (hb hby d7_51) rfl rfl ?_
        refine o_goto (pc' := 24) X47 hx (hb hby d7_52) (by decide) (by decide) ?_
        refine o_aloadN (pc' := 25) X47 hx (hb hby d7_24) rfl rfl rfl ?_
        obtain ⟨T54, X54, e54, st54⟩ := getF X47 hx hZ hown (host := "") (Or.inl (hw _ (List.mem_of_getElem? (i := 10) rfl))) Via.refl e47 F51 (g := (mkF m 25 #[.val (.ref a1), .val (.int (3 : Int32)), .val (.int (0 : Int32)), .val (.int (1 : Int32)), .val (.int (1 : Int32))] [(.ref a1)])) rfl rfl (hb hby d7_25)
        refine oGo.step (f' := (mkF m 28 #[.val (.ref a1), .val (.int (3 : Int32)), .val (.int (0 : Int32)), .val (.int (1 : Int32)), .val (.int (1 : Int32))] [(.ref pa)])) st54 ?_
        refine o_iloadN (pc' := 29) X54 hx (hb hby d7_28) rfl rfl ?_
        refine o_iaload (pc' := 30) (v := (0 : Int32)) X54 hx hZ e54 F48 (hb hby d7_29) (by decide) rfl rfl ?_
        refine o_iloadN (pc' := 31) X54 hx (hb hby d7_30) rfl rfl ?_
        refine o_icmpT (pc' := 55) X54 hx (hb hby d7_31) (XT.ii_eq_t (by decide)) (by decide) (by decide) ?_
        refine o_iloadN (pc' := 56) X54 hx (hb hby d7_55) rfl rfl ?_
        refine o_retI X54 hx hret hlk (hb hby d7_56) (by decide) (by decide) ?_
        rw [e54]
        exact ⟨rfl, N47, K53, F48⟩
      · refine o_iloadN (pc' := 1) X0 hx (hb hby d7_0) rfl rfl ?_
        refine o_istoreN (pc' := 2) (l' := #[.val (.ref a1), .val (.int (3 : Int32)), .val (.int (3 : Int32)), .unset, .unset]) X0 hx (hb hby d7_1) rfl rfl ?_
        refine o_aloadN (pc' := 3) X0 hx (hb hby d7_2) rfl rfl rfl ?_
        obtain ⟨T55, X55, e55, st55⟩ := getF X0 hx hZ hown (host := "") (Or.inl (hw _ (List.mem_of_getElem? (i := 10) rfl))) Via.refl e0 F_parent (g := (mkF m 3 #[.val (.ref a1), .val (.int (3 : Int32)), .val (.int (3 : Int32)), .unset, .unset] [(.ref a1)])) rfl rfl (hb hby d7_3)
        refine oGo.step (f' := (mkF m 6 #[.val (.ref a1), .val (.int (3 : Int32)), .val (.int (3 : Int32)), .unset, .unset] [(.ref pa)])) st55 ?_
        refine o_iloadN (pc' := 7) X55 hx (hb hby d7_6) rfl rfl ?_
        refine o_iaload (pc' := 8) (v := (1 : Int32)) X55 hx hZ e55 A_pa (hb hby d7_7) (by decide) rfl rfl ?_
        refine o_iloadN (pc' := 9) X55 hx (hb hby d7_8) rfl rfl ?_
        refine o_icmpF (pc' := 12) X55 hx (hb hby d7_9) (XT.ii_eq_f (by decide)) rfl ?_
        refine o_aloadN (pc' := 13) X55 hx (hb hby d7_12) rfl rfl rfl ?_
        obtain ⟨T56, X56, e56, st56⟩ := getF X55 hx hZ hown (host := "") (Or.inl (hw _ (List.mem_of_getElem? (i := 10) rfl))) Via.refl e55 F_parent (g := (mkF m 13 #[.val (.ref a1), .val (.int (3 : Int32)), .val (.int (3 : Int32)), .unset, .unset] [(.ref a1)])) rfl rfl (hb hby d7_13)
        refine oGo.step (f' := (mkF m 16 #[.val (.ref a1), .val (.int (3 : Int32)), .val (.int (3 : Int32)), .unset, .unset] [(.ref pa)])) st56 ?_
        refine o_iloadN (pc' := 17) X56 hx (hb hby d7_16) rfl rfl ?_
        refine o_iaload (pc' := 18) (v := (1 : Int32)) X56 hx hZ e56 A_pa (hb hby d7_17) (by decide) rfl rfl ?_
        refine o_istoreN (pc' := 19) (l' := #[.val (.ref a1), .val (.int (3 : Int32)), .val (.int (1 : Int32)), .unset, .unset]) X56 hx (hb hby d7_18) rfl rfl ?_
        refine o_goto (pc' := 2) X56 hx (hb hby d7_19) (by decide) (by decide) ?_
        refine o_aloadN (pc' := 3) X56 hx (hb hby d7_2) rfl rfl rfl ?_
        obtain ⟨T57, X57, e57, st57⟩ := getF X56 hx hZ hown (host := "") (Or.inl (hw _ (List.mem_of_getElem? (i := 10) rfl))) Via.refl e56 F_parent (g := (mkF m 3 #[.val (.ref a1), .val (.int (3 : Int32)), .val (.int (1 : Int32)), .unset, .unset] [(.ref a1)])) rfl rfl (hb hby d7_3)
        refine oGo.step (f' := (mkF m 6 #[.val (.ref a1), .val (.int (3 : Int32)), .val (.int (1 : Int32)), .unset, .unset] [(.ref pa)])) st57 ?_
        refine o_iloadN (pc' := 7) X57 hx (hb hby d7_6) rfl rfl ?_
        refine o_iaload (pc' := 8) (v := (1 : Int32)) X57 hx hZ e57 A_pa (hb hby d7_7) (by decide) rfl rfl ?_
        refine o_iloadN (pc' := 9) X57 hx (hb hby d7_8) rfl rfl ?_
        refine o_icmpT (pc' := 22) X57 hx (hb hby d7_9) (XT.ii_eq_t (by decide)) (by decide) (by decide) ?_
        refine o_iloadN (pc' := 23) X57 hx (hb hby d7_22) rfl rfl ?_
        refine o_istoreN (pc' := 24) (l' := #[.val (.ref a1), .val (.int (3 : Int32)), .val (.int (1 : Int32)), .val (.int (3 : Int32)), .unset]) X57 hx (hb hby d7_23) rfl rfl ?_
        refine o_aloadN (pc' := 25) X57 hx (hb hby d7_24) rfl rfl rfl ?_
        obtain ⟨T58, X58, e58, st58⟩ := getF X57 hx hZ hown (host := "") (Or.inl (hw _ (List.mem_of_getElem? (i := 10) rfl))) Via.refl e57 F_parent (g := (mkF m 25 #[.val (.ref a1), .val (.int (3 : Int32)), .val (.int (1 : Int32)), .val (.int (3 : Int32)), .unset] [(.ref a1)])) rfl rfl (hb hby d7_25)
        refine oGo.step (f' := (mkF m 28 #[.val (.ref a1), .val (.int (3 : Int32)), .val (.int (1 : Int32)), .val (.int (3 : Int32)), .unset] [(.ref pa)])) st58 ?_
        refine o_iloadN (pc' := 29) X58 hx (hb hby d7_28) rfl rfl ?_
        refine o_iaload (pc' := 30) (v := (1 : Int32)) X58 hx hZ e58 A_pa (hb hby d7_29) (by decide) rfl rfl ?_
        refine o_iloadN (pc' := 31) X58 hx (hb hby d7_30) rfl rfl ?_
        refine o_icmpT (pc' := 55) X58 hx (hb hby d7_31) (XT.ii_eq_t (by decide)) (by decide) (by decide) ?_
        refine o_iloadN (pc' := 56) X58 hx (hb hby d7_55) rfl rfl ?_
        refine o_retI X58 hx hret hlk (hb hby d7_56) (by decide) (by decide) ?_
        rw [e58]
        exact ⟨rfl, N0, K0, A_pa⟩
    · rcases hp2 with rfl | rfl | rfl
      · refine o_iloadN (pc' := 1) X0 hx (hb hby d7_0) rfl rfl ?_
        refine o_istoreN (pc' := 2) (l' := #[.val (.ref a1), .val (.int (3 : Int32)), .val (.int (3 : Int32)), .unset, .unset]) X0 hx (hb hby d7_1) rfl rfl ?_
        refine o_aloadN (pc' := 3) X0 hx (hb hby d7_2) rfl rfl rfl ?_
        obtain ⟨T59, X59, e59, st59⟩ := getF X0 hx hZ hown (host := "") (Or.inl (hw _ (List.mem_of_getElem? (i := 10) rfl))) Via.refl e0 F_parent (g := (mkF m 3 #[.val (.ref a1), .val (.int (3 : Int32)), .val (.int (3 : Int32)), .unset, .unset] [(.ref a1)])) rfl rfl (hb hby d7_3)
        refine oGo.step (f' := (mkF m 6 #[.val (.ref a1), .val (.int (3 : Int32)), .val (.int (3 : Int32)), .unset, .unset] [(.ref pa)])) st59 ?_
        refine o_iloadN (pc' := 7) X59 hx (hb hby d7_6) rfl rfl ?_
        refine o_iaload (pc' := 8) (v := (2 : Int32)) X59 hx hZ e59 A_pa (hb hby d7_7) (by decide) rfl rfl ?_
        refine o_iloadN (pc' := 9) X59 hx (hb hby d7_8) rfl rfl ?_
        refine o_icmpF (pc' := 12) X59 hx (hb hby d7_9) (XT.ii_eq_f (by decide)) rfl ?_
        refine o_aloadN (pc' := 13) X59 hx (hb hby d7_12) rfl rfl rfl ?_
        obtain ⟨T60, X60, e60, st60⟩ := getF X59 hx hZ hown (host := "") (Or.inl (hw _ (List.mem_of_getElem? (i := 10) rfl))) Via.refl e59 F_parent (g := (mkF m 13 #[.val (.ref a1), .val (.int (3 : Int32)), .val (.int (3 : Int32)), .unset, .unset] [(.ref a1)])) rfl rfl (hb hby d7_13)
        refine oGo.step (f' := (mkF m 16 #[.val (.ref a1), .val (.int (3 : Int32)), .val (.int (3 : Int32)), .unset, .unset] [(.ref pa)])) st60 ?_
        refine o_iloadN (pc' := 17) X60 hx (hb hby d7_16) rfl rfl ?_
        refine o_iaload (pc' := 18) (v := (2 : Int32)) X60 hx hZ e60 A_pa (hb hby d7_17) (by decide) rfl rfl ?_
        refine o_istoreN (pc' := 19) (l' := #[.val (.ref a1), .val (.int (3 : Int32)), .val (.int (2 : Int32)), .unset, .unset]) X60 hx (hb hby d7_18) rfl rfl ?_
        refine o_goto (pc' := 2) X60 hx (hb hby d7_19) (by decide) (by decide) ?_
        refine o_aloadN (pc' := 3) X60 hx (hb hby d7_2) rfl rfl rfl ?_
        obtain ⟨T61, X61, e61, st61⟩ := getF X60 hx hZ hown (host := "") (Or.inl (hw _ (List.mem_of_getElem? (i := 10) rfl))) Via.refl e60 F_parent (g := (mkF m 3 #[.val (.ref a1), .val (.int (3 : Int32)), .val (.int (2 : Int32)), .unset, .unset] [(.ref a1)])) rfl rfl (hb hby d7_3)
        refine oGo.step (f' := (mkF m 6 #[.val (.ref a1), .val (.int (3 : Int32)), .val (.int (2 : Int32)), .unset, .unset] [(.ref pa)])) st61 ?_
        refine o_iloadN (pc' := 7) X61 hx (hb hby d7_6) rfl rfl ?_
        refine o_iaload (pc' := 8) (v := (0 : Int32)) X61 hx hZ e61 A_pa (hb hby d7_7) (by decide) rfl rfl ?_
        refine o_iloadN (pc' := 9) X61 hx (hb hby d7_8) rfl rfl ?_
        refine o_icmpF (pc' := 12) X61 hx (hb hby d7_9) (XT.ii_eq_f (by decide)) rfl ?_
        refine o_aloadN (pc' := 13) X61 hx (hb hby d7_12) rfl rfl rfl ?_
        obtain ⟨T62, X62, e62, st62⟩ := getF X61 hx hZ hown (host := "") (Or.inl (hw _ (List.mem_of_getElem? (i := 10) rfl))) Via.refl e61 F_parent (g := (mkF m 13 #[.val (.ref a1), .val (.int (3 : Int32)), .val (.int (2 : Int32)), .unset, .unset] [(.ref a1)])) rfl rfl (hb hby d7_13)
        refine oGo.step (f' := (mkF m 16 #[.val (.ref a1), .val (.int (3 : Int32)), .val (.int (2 : Int32)), .unset, .unset] [(.ref pa)])) st62 ?_
        refine o_iloadN (pc' := 17) X62 hx (hb hby d7_16) rfl rfl ?_
        refine o_iaload (pc' := 18) (v := (0 : Int32)) X62 hx hZ e62 A_pa (hb hby d7_17) (by decide) rfl rfl ?_
        refine o_istoreN (pc' := 19) (l' := #[.val (.ref a1), .val (.int (3 : Int32)), .val (.int (0 : Int32)), .unset, .unset]) X62 hx (hb hby d7_18) rfl rfl ?_
        refine o_goto (pc' := 2) X62 hx (hb hby d7_19) (by decide) (by decide) ?_
        refine o_aloadN (pc' := 3) X62 hx (hb hby d7_2) rfl rfl rfl ?_
        obtain ⟨T63, X63, e63, st63⟩ := getF X62 hx hZ hown (host := "") (Or.inl (hw _ (List.mem_of_getElem? (i := 10) rfl))) Via.refl e62 F_parent (g := (mkF m 3 #[.val (.ref a1), .val (.int (3 : Int32)), .val (.int (0 : Int32)), .unset, .unset] [(.ref a1)])) rfl rfl (hb hby d7_3)
        refine oGo.step (f' := (mkF m 6 #[.val (.ref a1), .val (.int (3 : Int32)), .val (.int (0 : Int32)), .unset, .unset] [(.ref pa)])) st63 ?_
        refine o_iloadN (pc' := 7) X63 hx (hb hby d7_6) rfl rfl ?_
        refine o_iaload (pc' := 8) (v := (0 : Int32)) X63 hx hZ e63 A_pa (hb hby d7_7) (by decide) rfl rfl ?_
        refine o_iloadN (pc' := 9) X63 hx (hb hby d7_8) rfl rfl ?_
        refine o_icmpT (pc' := 22) X63 hx (hb hby d7_9) (XT.ii_eq_t (by decide)) (by decide) (by decide) ?_
        refine o_iloadN (pc' := 23) X63 hx (hb hby d7_22) rfl rfl ?_
        refine o_istoreN (pc' := 24) (l' := #[.val (.ref a1), .val (.int (3 : Int32)), .val (.int (0 : Int32)), .val (.int (3 : Int32)), .unset]) X63 hx (hb hby d7_23) rfl rfl ?_
        refine o_aloadN (pc' := 25) X63 hx (hb hby d7_24) rfl rfl rfl ?_
        obtain ⟨T64, X64, e64, st64⟩ := getF X63 hx hZ hown (host := "") (Or.inl (hw _ (List.mem_of_getElem? (i := 10) rfl))) Via.refl e63 F_parent (g := (mkF m 25 #[.val (.ref a1), .val (.int (3 : Int32)), .val (.int (0 : Int32)), .val (.int (3 : Int32)), .unset] [(.ref a1)])) rfl rfl (hb hby d7_25)
        refine oGo.step (f' := (mkF m 28 #[.val (.ref a1), .val (.int (3 : Int32)), .val (.int (0 : Int32)), .val (.int (3 : Int32)), .unset] [(.ref pa)])) st64 ?_
        refine o_iloadN (pc' := 29) X64 hx (hb hby d7_28) rfl rfl ?_
        refine o_iaload (pc' := 30) (v := (2 : Int32)) X64 hx hZ e64 A_pa (hb hby d7_29) (by decide) rfl rfl ?_
        refine o_iloadN (pc' := 31) X64 hx (hb hby d7_30) rfl rfl ?_
        refine o_icmpF (pc' := 34) X64 hx (hb hby d7_31) (XT.ii_eq_f (by decide)) rfl ?_
        refine o_aloadN (pc' := 35) X64 hx (hb hby d7_34) rfl rfl rfl ?_
        obtain ⟨T65, X65, e65, st65⟩ := getF X64 hx hZ hown (host := "") (Or.inl (hw _ (List.mem_of_getElem? (i := 10) rfl))) Via.refl e64 F_parent (g := (mkF m 35 #[.val (.ref a1), .val (.int (3 : Int32)), .val (.int (0 : Int32)), .val (.int (3 : Int32)), .unset] [(.ref a1)])) rfl rfl (hb hby d7_35)
        refine oGo.step (f' := (mkF m 38 #[.val (.ref a1), .val (.int (3 : Int32)), .val (.int (0 : Int32)), .val (.int (3 : Int32)), .unset] [(.ref pa)])) st65 ?_
        refine o_iloadN (pc' := 39) X65 hx (hb hby d7_38) rfl rfl ?_
        refine o_iaload (pc' := 40) (v := (2 : Int32)) X65 hx hZ e65 A_pa (hb hby d7_39) (by decide) rfl rfl ?_
        refine o_istore (pc' := 42) (l' := #[.val (.ref a1), .val (.int (3 : Int32)), .val (.int (0 : Int32)), .val (.int (3 : Int32)), .val (.int (2 : Int32))]) X65 hx (hb hby d7_40) rfl rfl ?_
        refine o_aloadN (pc' := 43) X65 hx (hb hby d7_42) rfl rfl rfl ?_
        obtain ⟨T66, X66, e66, st66⟩ := getF X65 hx hZ hown (host := "") (Or.inl (hw _ (List.mem_of_getElem? (i := 10) rfl))) Via.refl e65 F_parent (g := (mkF m 43 #[.val (.ref a1), .val (.int (3 : Int32)), .val (.int (0 : Int32)), .val (.int (3 : Int32)), .val (.int (2 : Int32))] [(.ref a1)])) rfl rfl (hb hby d7_43)
        refine oGo.step (f' := (mkF m 46 #[.val (.ref a1), .val (.int (3 : Int32)), .val (.int (0 : Int32)), .val (.int (3 : Int32)), .val (.int (2 : Int32))] [(.ref pa)])) st66 ?_
        refine o_iloadN (pc' := 47) X66 hx (hb hby d7_46) rfl rfl ?_
        refine o_iloadN (pc' := 48) X66 hx (hb hby d7_47) rfl rfl ?_
        obtain ⟨T67, h67_, X67, e67, W67, st67⟩ := o_iastore (x := (0 : Int32)) (j := (3 : Int32)) (Ls := #[.val (.ref a1), .val (.int (3 : Int32)), .val (.int (0 : Int32)), .val (.int (3 : Int32)), .val (.int (2 : Int32))]) (st := []) X66 hx hZ e66 A_pa (hb hby d7_48) (by decide) (show _ < 4 by decide) rfl
        refine oGo.step (f' := (mkF m 49 #[.val (.ref a1), .val (.int (3 : Int32)), .val (.int (0 : Int32)), .val (.int (3 : Int32)), .val (.int (2 : Int32))] [])) st67 ?_
        have N67 := Fr.snoc X67 N0 ge_pa
        have F68 := A_pa.set W67
        replace F68 : oInts Z h67_ pa [(0 : Int32), p1, (0 : Int32), (0 : Int32)] := F68
        have K69 := Keep.of_wr W67
        have F70 := E0.keep K69
        have F71 := F_parent.keep K69 (ninS ne_pa nin0)
        have Z72 := Nat.le_trans Z0 K69.1
        have K73 := K0.trans K69 (allS (Or.inl (List.mem_of_getElem? (i := 0) rfl)) all0)
        refine o_iload (pc' := 51) X67 hx (hb hby d7_49) rfl rfl ?_
        refine o_istoreN (pc' := 52) (l' := #[.val (.ref a1), .val (.int (3 : Int32)), .val (.int (0 : Int32)), .val (.int (2 : Int32)), .val (.int (2 : Int32))]) X67 hx (hb hby d7_51) rfl rfl ?_
        refine o_goto (pc' := 24) X67 hx (hb hby d7_52) (by decide) (by decide) ?_
        refine o_aloadN (pc' := 25) X67 hx (hb hby d7_24) rfl rfl rfl ?_
        obtain ⟨T74, X74, e74, st74⟩ := getF X67 hx hZ hown (host := "") (Or.inl (hw _ (List.mem_of_getElem? (i := 10) rfl))) Via.refl e67 F71 (g := (mkF m 25 #[.val (.ref a1), .val (.int (3 : Int32)), .val (.int (0 : Int32)), .val (.int (2 : Int32)), .val (.int (2 : Int32))] [(.ref a1)])) rfl rfl (hb hby d7_25)
        refine oGo.step (f' := (mkF m 28 #[.val (.ref a1), .val (.int (3 : Int32)), .val (.int (0 : Int32)), .val (.int (2 : Int32)), .val (.int (2 : Int32))] [(.ref pa)])) st74 ?_
        refine o_iloadN (pc' := 29) X74 hx (hb hby d7_28) rfl rfl ?_
        refine o_iaload (pc' := 30) (v := (0 : Int32)) X74 hx hZ e74 F68 (hb hby d7_29) (by decide) rfl rfl ?_
        refine o_iloadN (pc' := 31) X74 hx (hb hby d7_30) rfl rfl ?_
        refine o_icmpT (pc' := 55) X74 hx (hb hby d7_31) (XT.ii_eq_t (by decide)) (by decide) (by decide) ?_
        refine o_iloadN (pc' := 56) X74 hx (hb hby d7_55) rfl rfl ?_
        refine o_retI X74 hx hret hlk (hb hby d7_56) (by decide) (by decide) ?_
        rw [e74]
        exact ⟨rfl, N67, K73, F68⟩
      · rcases hp1 with rfl | rfl
        · refine o_iloadN (pc' := 1) X0 hx (hb hby d7_0) rfl rfl ?_
          refine o_istoreN (pc' := 2) (l' := #[.val (.ref a1), .val (.int (3 : Int32)), .val (.int (3 : Int32)), .unset, .unset]) X0 hx (hb hby d7_1) rfl rfl ?_
          refine o_aloadN (pc' := 3) X0 hx (hb hby d7_2) rfl rfl rfl ?_
          obtain ⟨T75, X75, e75, st75⟩ := getF X0 hx hZ hown (host := "") (Or.inl (hw _ (List.mem_of_getElem? (i := 10) rfl))) Via.refl e0 F_parent (g := (mkF m 3 #[.val (.ref a1), .val (.int (3 : Int32)), .val (.int (3 : Int32)), .unset, .unset] [(.ref a1)])) rfl rfl (hb hby d7_3)
          refine oGo.step (f' := (mkF m 6 #[.val (.ref a1), .val (.int (3 : Int32)), .val (.int (3 : Int32)), .unset, .unset] [(.ref pa)])) st75 ?_
          refine o_iloadN (pc' := 7) X75 hx (hb hby d7_6) rfl rfl ?_
          refine o_iaload (pc' := 8) (v := (2 : Int32)) X75 hx hZ e75 A_pa (hb hby d7_7) (by decide) rfl rfl ?_
          refine o_iloadN (pc' := 9) X75 hx (hb hby d7_8) rfl rfl ?_
          refine o_icmpF (pc' := 12) X75 hx (hb hby d7_9) (XT.ii_eq_f (by decide)) rfl ?_
          refine o_aloadN (pc' := 13) X75 hx (hb hby d7_12) rfl rfl rfl ?_
          obtain ⟨T76, X76, e76, st76⟩ := getF X75 hx hZ hown (host := "") (Or.inl (hw _ (List.mem_of_getElem? (i := 10) rfl))) Via.refl e75 F_parent (g := (mkF m 13 #[.val (.ref a1), .val (.int (3 : Int32)), .val (.int (3 : Int32)), .unset, .unset] [(.ref a1)])) rfl rfl (hb hby d7_13)
          refine oGo.step (f' := (mkF m 16 #[.val (.ref a1), .val (.int (3 : Int32)), .val (.int (3 : Int32)), .unset, .unset] [(.ref pa)])) st76 ?_
          refine o_iloadN (pc' := 17) X76 hx (hb hby d7_16) rfl rfl ?_
          refine o_iaload (pc' := 18) (v := (2 : Int32)) X76 hx hZ e76 A_pa (hb hby d7_17) (by decide) rfl rfl ?_
          refine o_istoreN (pc' := 19) (l' := #[.val (.ref a1), .val (.int (3 : Int32)), .val (.int (2 : Int32)), .unset, .unset]) X76 hx (hb hby d7_18) rfl rfl ?_
          refine o_goto (pc' := 2) X76 hx (hb hby d7_19) (by decide) (by decide) ?_
          refine o_aloadN (pc' := 3) X76 hx (hb hby d7_2) rfl rfl rfl ?_
          obtain ⟨T77, X77, e77, st77⟩ := getF X76 hx hZ hown (host := "") (Or.inl (hw _ (List.mem_of_getElem? (i := 10) rfl))) Via.refl e76 F_parent (g := (mkF m 3 #[.val (.ref a1), .val (.int (3 : Int32)), .val (.int (2 : Int32)), .unset, .unset] [(.ref a1)])) rfl rfl (hb hby d7_3)
          refine oGo.step (f' := (mkF m 6 #[.val (.ref a1), .val (.int (3 : Int32)), .val (.int (2 : Int32)), .unset, .unset] [(.ref pa)])) st77 ?_
          refine o_iloadN (pc' := 7) X77 hx (hb hby d7_6) rfl rfl ?_
          refine o_iaload (pc' := 8) (v := (1 : Int32)) X77 hx hZ e77 A_pa (hb hby d7_7) (by decide) rfl rfl ?_
          refine o_iloadN (pc' := 9) X77 hx (hb hby d7_8) rfl rfl ?_
          refine o_icmpF (pc' := 12) X77 hx (hb hby d7_9) (XT.ii_eq_f (by decide)) rfl ?_
          refine o_aloadN (pc' := 13) X77 hx (hb hby d7_12) rfl rfl rfl ?_
          obtain ⟨T78, X78, e78, st78⟩ := getF X77 hx hZ hown (host := "") (Or.inl (hw _ (List.mem_of_getElem? (i := 10) rfl))) Via.refl e77 F_parent (g := (mkF m 13 #[.val (.ref a1), .val (.int (3 : Int32)), .val (.int (2 : Int32)), .unset, .unset] [(.ref a1)])) rfl rfl (hb hby d7_13)
          refine oGo.step (f' := (mkF m 16 #[.val (.ref a1), .val (.int (3 : Int32)), .val (.int (2 : Int32)), .unset, .unset] [(.ref pa)])) st78 ?_
          refine o_iloadN (pc' := 17) X78 hx (hb hby d7_16) rfl rfl ?_
          refine o_iaload (pc' := 18) (v := (1 : Int32)) X78 hx hZ e78 A_pa (hb hby d7_17) (by decide) rfl rfl ?_
          refine o_istoreN (pc' := 19) (l' := #[.val (.ref a1), .val (.int (3 : Int32)), .val (.int (1 : Int32)), .unset, .unset]) X78 hx (hb hby d7_18) rfl rfl ?_
          refine o_goto (pc' := 2) X78 hx (hb hby d7_19) (by decide) (by decide) ?_
          refine o_aloadN (pc' := 3) X78 hx (hb hby d7_2) rfl rfl rfl ?_
          obtain ⟨T79, X79, e79, st79⟩ := getF X78 hx hZ hown (host := "") (Or.inl (hw _ (List.mem_of_getElem? (i := 10) rfl))) Via.refl e78 F_parent (g := (mkF m 3 #[.val (.ref a1), .val (.int (3 : Int32)), .val (.int (1 : Int32)), .unset, .unset] [(.ref a1)])) rfl rfl (hb hby d7_3)
          refine oGo.step (f' := (mkF m 6 #[.val (.ref a1), .val (.int (3 : Int32)), .val (.int (1 : Int32)), .unset, .unset] [(.ref pa)])) st79 ?_
          refine o_iloadN (pc' := 7) X79 hx (hb hby d7_6) rfl rfl ?_
          refine o_iaload (pc' := 8) (v := (0 : Int32)) X79 hx hZ e79 A_pa (hb hby d7_7) (by decide) rfl rfl ?_
          refine o_iloadN (pc' := 9) X79 hx (hb hby d7_8) rfl rfl ?_
          refine o_icmpF (pc' := 12) X79 hx (hb hby d7_9) (XT.ii_eq_f (by decide)) rfl ?_
          refine o_aloadN (pc' := 13) X79 hx (hb hby d7_12) rfl rfl rfl ?_
          obtain ⟨T80, X80, e80, st80⟩ := getF X79 hx hZ hown (host := "") (Or.inl (hw _ (List.mem_of_getElem? (i := 10) rfl))) Via.refl e79 F_parent (g := (mkF m 13 #[.val (.ref a1), .val (.int (3 : Int32)), .val (.int (1 : Int32)), .unset, .unset] [(.ref a1)])) rfl rfl (hb hby d7_13)
          refine oGo.step (f' := (mkF m 16 #[.val (.ref a1), .val (.int (3 : Int32)), .val (.int (1 : Int32)), .unset, .unset] [(.ref pa)])) st80 ?_
          refine o_iloadN (pc' := 17) X80 hx (hb hby d7_16) rfl rfl ?_
          refine o_iaload (pc' := 18) (v := (0 : Int32)) X80 hx hZ e80 A_pa (hb hby d7_17) (by decide) rfl rfl ?_
          refine o_istoreN (pc' := 19) (l' := #[.val (.ref a1), .val (.int (3 : Int32)), .val (.int (0 : Int32)), .unset, .unset]) X80 hx (hb hby d7_18) rfl rfl ?_
          refine o_goto (pc' := 2) X80 hx (hb hby d7_19) (by decide) (by decide) ?_
          refine o_aloadN (pc' := 3) X80 hx (hb hby d7_2) rfl rfl rfl ?_
          obtain ⟨T81, X81, e81, st81⟩ := getF X80 hx hZ hown (host := "") (Or.inl (hw _ (List.mem_of_getElem? (i := 10) rfl))) Via.refl e80 F_parent (g := (mkF m 3 #[.val (.ref a1), .val (.int (3 : Int32)), .val (.int (0 : Int32)), .unset, .unset] [(.ref a1)])) rfl rfl (hb hby d7_3)
          refine oGo.step (f' := (mkF m 6 #[.val (.ref a1), .val (.int (3 : Int32)), .val (.int (0 : Int32)), .unset, .unset] [(.ref pa)])) st81 ?_
          refine o_iloadN (pc' := 7) X81 hx (hb hby d7_6) rfl rfl ?_
          refine o_iaload (pc' := 8) (v := (0 : Int32)) X81 hx hZ e81 A_pa (hb hby d7_7) (by decide) rfl rfl ?_
          refine o_iloadN (pc' := 9) X81 hx (hb hby d7_8) rfl rfl ?_
          refine o_icmpT (pc' := 22) X81 hx (hb hby d7_9) (XT.ii_eq_t (by decide)) (by decide) (by decide) ?_
          refine o_iloadN (pc' := 23) X81 hx (hb hby d7_22) rfl rfl ?_
          refine o_istoreN (pc' := 24) (l' := #[.val (.ref a1), .val (.int (3 : Int32)), .val (.int (0 : Int32)), .val (.int (3 : Int32)), .unset]) X81 hx (hb hby d7_23) rfl rfl ?_
          refine o_aloadN (pc' := 25) X81 hx (hb hby d7_24) rfl rfl rfl ?_
          obtain ⟨T82, X82, e82, st82⟩ := getF X81 hx hZ hown (host := "") (Or.inl (hw _ (List.mem_of_getElem? (i := 10) rfl))) Via.refl e81 F_parent (g := (mkF m 25 #[.val (.ref a1), .val (.int (3 : Int32)), .val (.int (0 : Int32)), .val (.int (3 : Int32)), .unset] [(.ref a1)])) rfl rfl (hb hby d7_25)
          refine oGo.step (f' := (mkF m 28 #[.val (.ref a1), .val (.int (3 : Int32)), .val (.int (0 : Int32)), .val (.int (3 : Int32)), .unset] [(.ref pa)])) st82 ?_
          refine o_iloadN (pc' := 29) X82 hx (hb hby d7_28) rfl rfl ?_
          refine o_iaload (pc' := 30) (v := (2 : Int32)) X82 hx hZ e82 A_pa (hb hby d7_29) (by decide) rfl rfl ?_
          refine o_iloadN (pc' := 31) X82 hx (hb hby d7_30) rfl rfl ?_
          refine o_icmpF (pc' := 34) X82 hx (hb hby d7_31) (XT.ii_eq_f (by decide)) rfl ?_
          refine o_aloadN (pc' := 35) X82 hx (hb hby d7_34) rfl rfl rfl ?_
          obtain ⟨T83, X83, e83, st83⟩ := getF X82 hx hZ hown (host := "") (Or.inl (hw _ (List.mem_of_getElem? (i := 10) rfl))) Via.refl e82 F_parent (g := (mkF m 35 #[.val (.ref a1), .val (.int (3 : Int32)), .val (.int (0 : Int32)), .val (.int (3 : Int32)), .unset] [(.ref a1)])) rfl rfl (hb hby d7_35)
          refine oGo.step (f' := (mkF m 38 #[.val (.ref a1), .val (.int (3 : Int32)), .val (.int (0 : Int32)), .val (.int (3 : Int32)), .unset] [(.ref pa)])) st83 ?_
          refine o_iloadN (pc' := 39) X83 hx (hb hby d7_38) rfl rfl ?_
          refine o_iaload (pc' := 40) (v := (2 : Int32)) X83 hx hZ e83 A_pa (hb hby d7_39) (by decide) rfl rfl ?_
          refine o_istore (pc' := 42) (l' := #[.val (.ref a1), .val (.int (3 : Int32)), .val (.int (0 : Int32)), .val (.int (3 : Int32)), .val (.int (2 : Int32))]) X83 hx (hb hby d7_40) rfl rfl ?_
          refine o_aloadN (pc' := 43) X83 hx (hb hby d7_42) rfl rfl rfl ?_
          obtain ⟨T84, X84, e84, st84⟩ := getF X83 hx hZ hown (host := "") (Or.inl (hw _ (List.mem_of_getElem? (i := 10) rfl))) Via.refl e83 F_parent (g := (mkF m 43 #[.val (.ref a1), .val (.int (3 : Int32)), .val (.int (0 : Int32)), .val (.int (3 : Int32)), .val (.int (2 : Int32))] [(.ref a1)])) rfl rfl (hb hby d7_43)
          refine oGo.step (f' := (mkF m 46 #[.val (.ref a1), .val (.int (3 : Int32)), .val (.int (0 : Int32)), .val (.int (3 : Int32)), .val (.int (2 : Int32))] [(.ref pa)])) st84 ?_
          refine o_iloadN (pc' := 47) X84 hx (hb hby d7_46) rfl rfl ?_
          refine o_iloadN (pc' := 48) X84 hx (hb hby d7_47) rfl rfl ?_
          obtain ⟨T85, h85_, X85, e85, W85, st85⟩ := o_iastore (x := (0 : Int32)) (j := (3 : Int32)) (Ls := #[.val (.ref a1), .val (.int (3 : Int32)), .val (.int (0 : Int32)), .val (.int (3 : Int32)), .val (.int (2 : Int32))]) (st := []) X84 hx hZ e84 A_pa (hb hby d7_48) (by decide) (show _ < 4 by decide) rfl
          refine oGo.step (f' := (mkF m 49 #[.val (.ref a1), .val (.int (3 : Int32)), .val (.int (0 : Int32)), .val (.int (3 : Int32)), .val (.int (2 : Int32))] [])) st85 ?_
          have N85 := Fr.snoc X85 N0 ge_pa
          have F86 := A_pa.set W85
          replace F86 : oInts Z h85_ pa [(0 : Int32), (0 : Int32), (1 : Int32), (0 : Int32)] := F86
          have K87 := Keep.of_wr W85
          have F88 := E0.keep K87
          have F89 := F_parent.keep K87 (ninS ne_pa nin0)
          have Z90 := Nat.le_trans Z0 K87.1
          have K91 := K0.trans K87 (allS (Or.inl (List.mem_of_getElem? (i := 0) rfl)) all0)
          refine o_iload (pc' := 51) X85 hx (hb hby d7_49) rfl rfl ?_
          refine o_istoreN (pc' := 52) (l' := #[.val (.ref a1), .val (.int (3 : Int32)), .val (.int (0 : Int32)), .val (.int (2 : Int32)), .val (.int (2 : Int32))]) X85 hx (hb hby d7_51) rfl rfl ?_
          refine o_goto (pc' := 24) X85 hx (hb hby d7_52) (by decide) (by decide) ?_
          refine o_aloadN (pc' := 25) X85 hx (hb hby d7_24) rfl rfl rfl ?_
          obtain ⟨T92, X92, e92, st92⟩ := getF X85 hx hZ hown (host := "") (Or.inl (hw _ (List.mem_of_getElem? (i := 10) rfl))) Via.refl e85 F89 (g := (mkF m 25 #[.val (.ref a1), .val (.int (3 : Int32)), .val (.int (0 : Int32)), .val (.int (2 : Int32)), .val (.int (2 : Int32))] [(.ref a1)])) rfl rfl (hb hby d7_25)
          refine oGo.step (f' := (mkF m 28 #[.val (.ref a1), .val (.int (3 : Int32)), .val (.int (0 : Int32)), .val (.int (2 : Int32)), .val (.int (2 : Int32))] [(.ref pa)])) st92 ?_
          refine o_iloadN (pc' := 29) X92 hx (hb hby d7_28) rfl rfl ?_
          refine o_iaload (pc' := 30) (v := (1 : Int32)) X92 hx hZ e92 F86 (hb hby d7_29) (by decide) rfl rfl ?_
          refine o_iloadN (pc' := 31) X92 hx (hb hby d7_30) rfl rfl ?_
          refine o_icmpF (pc' := 34) X92 hx (hb hby d7_31) (XT.ii_eq_f (by decide)) rfl ?_
          refine o_aloadN (pc' := 35) X92 hx (hb hby d7_34) rfl rfl rfl ?_
          obtain ⟨T93, X93, e93, st93⟩ := getF X92 hx hZ hown (host := "") (Or.inl (hw _ (List.mem_of_getElem? (i := 10) rfl))) Via.refl e92 F89 (g := (mkF m 35 #[.val (.ref a1), .val (.int (3 : Int32)), .val (.int (0 : Int32)), .val (.int (2 : Int32)), .val (.int (2 : Int32))] [(.ref a1)])) rfl rfl (hb hby d7_35)
          refine oGo.step (f' := (mkF m 38 #[.val (.ref a1), .val (.int (3 : Int32)), .val (.int (0 : Int32)), .val (.int (2 : Int32)), .val (.int (2 : Int32))] [(.ref pa)])) st93 ?_
          refine o_iloadN (pc' := 39) X93 hx (hb hby d7_38) rfl rfl ?_
          refine o_iaload (pc' := 40) (v := (1 : Int32)) X93 hx hZ e93 F86 (hb hby d7_39) (by decide) rfl rfl ?_
          refine o_istore (pc' := 42) (l' := #[.val (.ref a1), .val (.int (3 : Int32)), .val (.int (0 : Int32)), .val (.int (2 : Int32)), .val (.int (1 : Int32))]) X93 hx (hb hby d7_40) rfl rfl ?_
          refine o_aloadN (pc' := 43) X93 hx (hb hby d7_42) rfl rfl rfl ?_
          obtain ⟨T94, X94, e94, st94⟩ := getF X93 hx hZ hown (host := "") (Or.inl (hw _ (List.mem_of_getElem? (i := 10) rfl))) Via.refl e93 F89 (g := (mkF m 43 #[.val (.ref a1), .val (.int (3 : Int32)), .val (.int (0 : Int32)), .val (.int (2 : Int32)), .val (.int (1 : Int32))] [(.ref a1)])) rfl rfl (hb hby d7_43)
          refine oGo.step (f' := (mkF m 46 #[.val (.ref a1), .val (.int (3 : Int32)), .val (.int (0 : Int32)), .val (.int (2 : Int32)), .val (.int (1 : Int32))] [(.ref pa)])) st94 ?_
          refine o_iloadN (pc' := 47) X94 hx (hb hby d7_46) rfl rfl ?_
          refine o_iloadN (pc' := 48) X94 hx (hb hby d7_47) rfl rfl ?_
          obtain ⟨T95, h95_, X95, e95, W95, st95⟩ := o_iastore (x := (0 : Int32)) (j := (2 : Int32)) (Ls := #[.val (.ref a1), .val (.int (3 : Int32)), .val (.int (0 : Int32)), .val (.int (2 : Int32)), .val (.int (1 : Int32))]) (st := []) X94 hx hZ e94 F86 (hb hby d7_48) (by decide) (show _ < 4 by decide) rfl
          refine oGo.step (f' := (mkF m 49 #[.val (.ref a1), .val (.int (3 : Int32)), .val (.int (0 : Int32)), .val (.int (2 : Int32)), .val (.int (1 : Int32))] [])) st95 ?_
          have N95 := Fr.snoc X95 N85 ge_pa
          have F96 := F86.set W95
          replace F96 : oInts Z h95_ pa [(0 : Int32), (0 : Int32), (0 : Int32), (0 : Int32)] := F96
          have K97 := Keep.of_wr W95
          have F98 := F88.keep K97
          have F99 := F89.keep K97 (ninS ne_pa nin0)
          have Z100 := Nat.le_trans Z90 K97.1
          have K101 := K91.trans K97 (allS (Or.inl (List.mem_of_getElem? (i := 0) rfl)) all0)
          refine o_iload (pc' := 51) X95 hx (hb hby d7_49) rfl rfl ?_
          refine o_istoreN (pc' := 52) (l' := #[.val (.ref a1), .val (.int (3 : Int32)), .val (.int (0 : Int32)), .val (.int (1 : Int32)), .val (.int (1 : Int32))]) X95 hx (hb hby d7_51) rfl rfl ?_
          refine o_goto (pc' := 24) X95 hx (hb hby d7_52) (by decide) (by decide) ?_
          refine o_aloadN (pc' := 25) X95 hx (hb hby d7_24) rfl rfl rfl ?_
          obtain ⟨T102, X102, e102, st102⟩ := getF X95 hx hZ hown (host := "") (Or.inl (hw _ (List.mem_of_getElem? (i := 10) rfl))) Via.refl e95 F99 (g := (mkF m 25 #[.val (.ref a1), .val (.int (3 : Int32)), .val (.int (0 : Int32)), .val (.int (1 : Int32)), .val (.int (1 : Int32))] [(.ref a1)])) rfl rfl (hb hby d7_25)
          refine oGo.step (f' := (mkF m 28 #[.val (.ref a1), .val (.int (3 : Int32)), .val (.int (0 : Int32)), .val (.int (1 : Int32)), .val (.int (1 : Int32))] [(.ref pa)])) st102 ?_
          refine o_iloadN (pc' := 29) X102 hx (hb hby d7_28) rfl rfl ?_
          refine o_iaload (pc' := 30) (v := (0 : Int32)) X102 hx hZ e102 F96 (hb hby d7_29) (by decide) rfl rfl ?_
          refine o_iloadN (pc' := 31) X102 hx (hb hby d7_30) rfl rfl ?_
          refine o_icmpT (pc' := 55) X102 hx (hb hby d7_31) (XT.ii_eq_t (by decide)) (by decide) (by decide) ?_
          refine o_iloadN (pc' := 56) X102 hx (hb hby d7_55) rfl rfl ?_
          refine o_retI X102 hx hret hlk (hb hby d7_56) (by decide) (by decide) ?_
          rw [e102]
          exact ⟨rfl, N95, K101, F96⟩
        · refine o_iloadN (pc' := 1) X0 hx (hb hby d7_0) rfl rfl ?_
          refine o_istoreN (pc' := 2) (l' := #[.val (.ref a1), .val (.int (3 : Int32)), .val (.int (3 : Int32)), .unset, .unset]) X0 hx (hb hby d7_1) rfl rfl ?_
          refine o_aloadN (pc' := 3) X0 hx (hb hby d7_2) rfl rfl rfl ?_
          obtain ⟨T103, X103, e103, st103⟩ := getF X0 hx hZ hown (host := "") (Or.inl (hw _ (List.mem_of_getElem? (i := 10) rfl))) Via.refl e0 F_parent (g := (mkF m 3 #[.val (.ref a1), .val (.int (3 : Int32)), .val (.int (3 : Int32)), .unset, .unset] [(.ref a1)])) rfl rfl (hb hby d7_3)
          refine oGo.step (f' := (mkF m 6 #[.val (.ref a1), .val (.int (3 : Int32)), .val (.int (3 : Int32)), .unset, .unset] [(.ref pa)])) st103 ?_
          refine o_iloadN (pc' := 7) X103 hx (hb hby d7_6) rfl rfl ?_
          refine o_iaload (pc' := 8) (v := (2 : Int32)) X103 hx hZ e103 A_pa (hb hby d7_7) (by decide) rfl rfl ?_
          refine o_iloadN (pc' := 9) X103 hx (hb hby d7_8) rfl rfl ?_
          refine o_icmpF (pc' := 12) X103 hx (hb hby d7_9) (XT.ii_eq_f (by decide)) rfl ?_
          refine o_aloadN (pc' := 13) X103 hx (hb hby d7_12) rfl rfl rfl ?_
          obtain ⟨T104, X104, e104, st104⟩ := getF X103 hx hZ hown (host := "") (Or.inl (hw _ (List.mem_of_getElem? (i := 10) rfl))) Via.refl e103 F_parent (g := (mkF m 13 #[.val (.ref a1), .val (.int (3 : Int32)), .val (.int (3 : Int32)), .unset, .unset] [(.ref a1)])) rfl rfl (hb hby d7_13)
          refine oGo.step (f' := (mkF m 16 #[.val (.ref a1), .val (.int (3 : Int32)), .val (.int (3 : Int32)), .unset, .unset] [(.ref pa)])) st104 ?_
          refine o_iloadN (pc' := 17) X104 hx (hb hby d7_16) rfl rfl ?_
          refine o_iaload (pc' := 18) (v := (2 : Int32)) X104 hx hZ e104 A_pa (hb hby d7_17) (by decide) rfl rfl ?_
          refine o_istoreN (pc' := 19) (l' := #[.val (.ref a1), .val (.int (3 : Int32)), .val (.int (2 : Int32)), .unset, .unset]) X104 hx (hb hby d7_18) rfl rfl ?_
          refine o_goto (pc' := 2) X104 hx (hb hby d7_19) (by decide) (by decide) ?_
          refine o_aloadN (pc' := 3) X104 hx (hb hby d7_2) rfl rfl rfl ?_
          obtain ⟨T105, X105, e105, st105⟩ := getF X104 hx hZ hown (host := "") (Or.inl (hw _ (List.mem_of_getElem? (i := 10) rfl))) Via.refl e104 F_parent (g := (mkF m 3 #[.val (.ref a1), .val (.int (3 : Int32)), .val (.int (2 : Int32)), .unset, .unset] [(.ref a1)])) rfl rfl (hb hby d7_3)
          refine oGo.step (f' := (mkF m 6 #[.val (.ref a1), .val (.int (3 : Int32)), .val (.int (2 : Int32)), .unset, .unset] [(.ref pa)])) st105 ?_
          refine o_iloadN (pc' := 7) X105 hx (hb hby d7_6) rfl rfl ?_
          refine o_iaload (pc' := 8) (v := (1 : Int32)) X105 hx hZ e105 A_pa (hb hby d7_7) (by decide) rfl rfl ?_
          refine o_iloadN (pc' := 9) X105 hx (hb hby d7_8) rfl rfl ?_
          refine o_icmpF (pc' := 12) X105 hx (hb hby d7_9) (XT.ii_eq_f (by decide)) rfl ?_
          refine o_aloadN (pc' := 13) X105 hx (hb hby d7_12) rfl rfl rfl ?_
          obtain ⟨T106, X106, e106, st106⟩ := getF X105 hx hZ hown (host := "") (Or.inl (hw _ (List.mem_of_getElem? (i := 10) rfl))) Via.refl e105 F_parent (g := (mkF m 13 #[.val (.ref a1), .val (.int (3 : Int32)), .val (.int (2 : Int32)), .unset, .unset] [(.ref a1)])) rfl rfl (hb hby d7_13)
          refine oGo.step (f' := (mkF m 16 #[.val (.ref a1), .val (.int (3 : Int32)), .val (.int (2 : Int32)), .unset, .unset] [(.ref pa)])) st106 ?_
          refine o_iloadN (pc' := 17) X106 hx (hb hby d7_16) rfl rfl ?_
          refine o_iaload (pc' := 18) (v := (1 : Int32)) X106 hx hZ e106 A_pa (hb hby d7_17) (by decide) rfl rfl ?_
          refine o_istoreN (pc' := 19) (l' := #[.val (.ref a1), .val (.int (3 : Int32)), .val (.int (1 : Int32)), .unset, .unset]) X106 hx (hb hby d7_18) rfl rfl ?_
          refine o_goto (pc' := 2) X106 hx (hb hby d7_19) (by decide) (by decide) ?_
          refine o_aloadN (pc' := 3) X106 hx (hb hby d7_2) rfl rfl rfl ?_
          obtain ⟨T107, X107, e107, st107⟩ := getF X106 hx hZ hown (host := "") (Or.inl (hw _ (List.mem_of_getElem? (i := 10) rfl))) Via.refl e106 F_parent (g := (mkF m 3 #[.val (.ref a1), .val (.int (3 : Int32)), .val (.int (1 : Int32)), .unset, .unset] [(.ref a1)])) rfl rfl (hb hby d7_3)
          refine oGo.step (f' := (mkF m 6 #[.val (.ref a1), .val (.int (3 : Int32)), .val (.int (1 : Int32)), .unset, .unset] [(.ref pa)])) st107 ?_
          refine o_iloadN (pc' := 7) X107 hx (hb hby d7_6) rfl rfl ?_
          refine o_iaload (pc' := 8) (v := (1 : Int32)) X107 hx hZ e107 A_pa (hb hby d7_7) (by decide) rfl rfl ?_
          refine o_iloadN (pc' := 9) X107 hx (hb hby d7_8) rfl rfl ?_
          refine o_icmpT (pc' := 22) X107 hx (hb hby d7_9) (XT.ii_eq_t (by decide)) (by decide) (by decide) ?_
          refine o_iloadN (pc' := 23) X107 hx (hb hby d7_22) rfl rfl ?_
          refine o_istoreN (pc' := 24) (l' := #[.val (.ref a1), .val (.int (3 : Int32)), .val (.int (1 : Int32)), .val (.int (3 : Int32)), .unset]) X107 hx (hb hby d7_23) rfl rfl ?_
          refine o_aloadN (pc' := 25) X107 hx (hb hby d7_24) rfl rfl rfl ?_
          obtain ⟨T108, X108, e108, st108⟩ := getF X107 hx hZ hown (host := "") (Or.inl (hw _ (List.mem_of_getElem? (i := 10) rfl))) Via.refl e107 F_parent (g := (mkF m 25 #[.val (.ref a1), .val (.int (3 : Int32)), .val (.int (1 : Int32)), .val (.int (3 : Int32)), .unset] [(.ref a1)])) rfl rfl (hb hby d7_25)
          refine oGo.step (f' := (mkF m 28 #[.val (.ref a1), .val (.int (3 : Int32)), .val (.int (1 : Int32)), .val (.int (3 : Int32)), .unset] [(.ref pa)])) st108 ?_
          refine o_iloadN (pc' := 29) X108 hx (hb hby d7_28) rfl rfl ?_
          refine o_iaload (pc' := 30) (v := (2 : Int32)) X108 hx hZ e108 A_pa (hb hby d7_29) (by decide) rfl rfl ?_
          refine o_iloadN (pc' := 31) X108 hx (hb hby d7_30) rfl rfl ?_
          refine o_icmpF (pc' := 34) X108 hx (hb hby d7_31) (XT.ii_eq_f (by decide)) rfl ?_
          refine o_aloadN (pc' := 35) X108 hx (hb hby d7_34) rfl rfl rfl ?_
          obtain ⟨T109, X109, e109, st109⟩ := getF X108 hx hZ hown (host := "") (Or.inl (hw _ (List.mem_of_getElem? (i := 10) rfl))) Via.refl e108 F_parent (g := (mkF m 35 #[.val (.ref a1), .val (.int (3 : Int32)), .val (.int (1 : Int32)), .val (.int (3 : Int32)), .unset] [(.ref a1)])) rfl rfl (hb hby d7_35)
          refine oGo.step (f' := (mkF m 38 #[.val (.ref a1), .val (.int (3 : Int32)), .val (.int (1 : Int32)), .val (.int (3 : Int32)), .unset] [(.ref pa)])) st109 ?_
          refine o_iloadN (pc' := 39) X109 hx (hb hby d7_38) rfl rfl ?_
          refine o_iaload (pc' := 40) (v := (2 : Int32)) X109 hx hZ e109 A_pa (hb hby d7_39) (by decide) rfl rfl ?_
          refine o_istore (pc' := 42) (l' := #[.val (.ref a1), .val (.int (3 : Int32)), .val (.int (1 : Int32)), .val (.int (3 : Int32)), .val (.int (2 : Int32))]) X109 hx (hb hby d7_40) rfl rfl ?_
          refine o_aloadN (pc' := 43) X109 hx (hb hby d7_42) rfl rfl rfl ?_
          obtain ⟨T110, X110, e110, st110⟩ := getF X109 hx hZ hown (host := "") (Or.inl (hw _ (List.mem_of_getElem? (i := 10) rfl))) Via.refl e109 F_parent (g := (mkF m 43 #[.val (.ref a1), .val (.int (3 : Int32)), .val (.int (1 : Int32)), .val (.int (3 : Int32)), .val (.int (2 : Int32))] [(.ref a1)])) rfl rfl (hb hby d7_43)
          refine oGo.step (f' := (mkF m 46 #[.val (.ref a1), .val (.int (3 : Int32)), .val (.int (1 : Int32)), .val (.int (3 : Int32)), .val (.int (2 : Int32))] [(.ref pa)])) st110 ?_
          refine o_iloadN (pc' := 47) X110 hx (hb hby d7_46) rfl rfl ?_
          refine o_iloadN (pc' := 48) X110 hx (hb hby d7_47) rfl rfl ?_
          obtain ⟨T111, h111_, X111, e111, W111, st111⟩ := o_iastore (x := (1 : Int32)) (j := (3 : Int32)) (Ls := #[.val (.ref a1), .val (.int (3 : Int32)), .val (.int (1 : Int32)), .val (.int (3 : Int32)), .val (.int (2 : Int32))]) (st := []) X110 hx hZ e110 A_pa (hb hby d7_48) (by decide) (show _ < 4 by decide) rfl
          refine oGo.step (f' := (mkF m 49 #[.val (.ref a1), .val (.int (3 : Int32)), .val (.int (1 : Int32)), .val (.int (3 : Int32)), .val (.int (2 : Int32))] [])) st111 ?_
          have N111 := Fr.snoc X111 N0 ge_pa
          have F112 := A_pa.set W111
          replace F112 : oInts Z h111_ pa [(0 : Int32), (1 : Int32), (1 : Int32), (1 : Int32)] := F112
          have K113 := Keep.of_wr W111
          have F114 := E0.keep K113
          have F115 := F_parent.keep K113 (ninS ne_pa nin0)
          have Z116 := Nat.le_trans Z0 K113.1
          have K117 := K0.trans K113 (allS (Or.inl (List.mem_of_getElem? (i := 0) rfl)) all0)
          refine o_iload (pc' := 51) X111 hx (hb hby d7_49) rfl rfl ?_
          refine o_istoreN (pc' := 52) (l' := #[.val (.ref a1), .val (.int (3 : Int32)), .val (.int (1 : Int32)), .val (.int (2 : Int32)), .val (.int (2 : Int32))]) X111 hx (hb hby d7_51) rfl rfl ?_
          refine o_goto (pc' := 24) X111 hx (hb hby d7_52) (by decide) (by decide) ?_
          refine o_aloadN (pc' := 25) X111 hx (hb hby d7_24) rfl rfl rfl ?_
          obtain ⟨T118, X118, e118, st118⟩ := getF X111 hx hZ hown (host := "") (Or.inl (hw _ (List.mem_of_getElem? (i := 10) rfl))) Via.refl e111 F115 (g := (mkF m 25 #[.val (.ref a1), .val (.int (3 : Int32)), .val (.int (1 : Int32)), .val (.int (2 : Int32)), .val (.int (2 : Int32))] [(.ref a1)])) rfl rfl (hb hby d7_25)
          refine oGo.step (f' := (mkF m 28 #[.val (.ref a1), .val (.int (3 : Int32)), .val (.int (1 : Int32)), .val (.int (2 : Int32)), .val (.int (2 : Int32))] [(.ref pa)])) st118 ?_
          refine o_iloadN (pc' := 29) X118 hx (hb hby d7_28) rfl rfl ?_
          refine o_iaload (pc' := 30) (v := (1 : Int32)) X118 hx hZ e118 F112 (hb hby d7_29) (by decide) rfl rfl ?_
          refine o_iloadN (pc' := 31) X118 hx (hb hby d7_30) rfl rfl ?_
          refine o_icmpT (pc' := 55) X118 hx (hb hby d7_31) (XT.ii_eq_t (by decide)) (by decide) (by decide) ?_
          refine o_iloadN (pc' := 56) X118 hx (hb hby d7_55) rfl rfl ?_
          refine o_retI X118 hx hret hlk (hb hby d7_56) (by decide) (by decide) ?_
          rw [e118]
          exact ⟨rfl, N111, K117, F112⟩
      · refine o_iloadN (pc' := 1) X0 hx (hb hby d7_0) rfl rfl ?_
        refine o_istoreN (pc' := 2) (l' := #[.val (.ref a1), .val (.int (3 : Int32)), .val (.int (3 : Int32)), .unset, .unset]) X0 hx (hb hby d7_1) rfl rfl ?_
        refine o_aloadN (pc' := 3) X0 hx (hb hby d7_2) rfl rfl rfl ?_
        obtain ⟨T119, X119, e119, st119⟩ := getF X0 hx hZ hown (host := "") (Or.inl (hw _ (List.mem_of_getElem? (i := 10) rfl))) Via.refl e0 F_parent (g := (mkF m 3 #[.val (.ref a1), .val (.int (3 : Int32)), .val (.int (3 : Int32)), .unset, .unset] [(.ref a1)])) rfl rfl (hb hby d7_3)
        refine oGo.step (f' := (mkF m 6 #[.val (.ref a1), .val (.int (3 : Int32)), .val (.int (3 : Int32)), .unset, .unset] [(.ref pa)])) st119 ?_
        refine o_iloadN (pc' := 7) X119 hx (hb hby d7_6) rfl rfl ?_
        refine o_iaload (pc' := 8) (v := (2 : Int32)) X119 hx hZ e119 A_pa (hb hby d7_7) (by decide) rfl rfl ?_
        refine o_iloadN (pc' := 9) X119 hx (hb hby d7_8) rfl rfl ?_
        refine o_icmpF (pc' := 12) X119 hx (hb hby d7_9) (XT.ii_eq_f (by decide)) rfl ?_
        refine o_aloadN (pc' := 13) X119 hx (hb hby d7_12) rfl rfl rfl ?_
        obtain ⟨T120, X120, e120, st120⟩ := getF X119 hx hZ hown (host := "") (Or.inl (hw _ (List.mem_of_getElem? (i := 10) rfl))) Via.refl e119 F_parent (g := (mkF m 13 #[.val (.ref a1), .val (.int (3 : Int32)), .val (.int (3 : Int32)), .unset, .unset] [(.ref a1)])) rfl rfl (hb hby d7_13)
        refine oGo.step (f' := (mkF m 16 #[.val (.ref a1), .val (.int (3 : Int32)), .val (.int (3 : Int32)), .unset, .unset] [(.ref pa)])) st120 ?_
        refine o_iloadN (pc' := 17) X120 hx (hb hby d7_16) rfl rfl ?_
        refine o_iaload (pc' := 18) (v := (2 : Int32)) X120 hx hZ e120 A_pa (hb hby d7_17) (by decide) rfl rfl ?_
        refine o_istoreN (pc' := 19) (l' := #[.val (.ref a1), .val (.int (3 : Int32)), .val (.int (2 : Int32)), .unset, .unset]) X120 hx (hb hby d7_18) rfl rfl ?_
        refine o_goto (pc' := 2) X120 hx (hb hby d7_19) (by decide) (by decide) ?_
        refine o_aloadN (pc' := 3) X120 hx (hb hby d7_2) rfl rfl rfl ?_
        obtain ⟨T121, X121, e121, st121⟩ := getF X120 hx hZ hown (host := "") (Or.inl (hw _ (List.mem_of_getElem? (i := 10) rfl))) Via.refl e120 F_parent (g := (mkF m 3 #[.val (.ref a1), .val (.int (3 : Int32)), .val (.int (2 : Int32)), .unset, .unset] [(.ref a1)])) rfl rfl (hb hby d7_3)
        refine oGo.step (f' := (mkF m 6 #[.val (.ref a1), .val (.int (3 : Int32)), .val (.int (2 : Int32)), .unset, .unset] [(.ref pa)])) st121 ?_
        refine o_iloadN (pc' := 7) X121 hx (hb hby d7_6) rfl rfl ?_
        refine o_iaload (pc' := 8) (v := (2 : Int32)) X121 hx hZ e121 A_pa (hb hby d7_7) (by decide) rfl rfl ?_
        refine o_iloadN (pc' := 9) X121 hx (hb hby d7_8) rfl rfl ?_
        refine o_icmpT (pc' := 22) X121 hx (hb hby d7_9) (XT.ii_eq_t (by decide)) (by decide) (by decide) ?_
        refine o_iloadN (pc' := 23) X121 hx (hb hby d7_22) rfl rfl ?_
        refine o_istoreN (pc' := 24) (l' := #[.val (.ref a1), .val (.int (3 : Int32)), .val (.int (2 : Int32)), .val (.int (3 : Int32)), .unset]) X121 hx (hb hby d7_23) rfl rfl ?_
        refine o_aloadN (pc' := 25) X121 hx (hb hby d7_24) rfl rfl rfl ?_
        obtain ⟨T122, X122, e122, st122⟩ := getF X121 hx hZ hown (host := "") (Or.inl (hw _ (List.mem_of_getElem? (i := 10) rfl))) Via.refl e121 F_parent (g := (mkF m 25 #[.val (.ref a1), .val (.int (3 : Int32)), .val (.int (2 : Int32)), .val (.int (3 : Int32)), .unset] [(.ref a1)])) rfl rfl (hb hby d7_25)
        refine oGo.step (f' := (mkF m 28 #[.val (.ref a1), .val (.int (3 : Int32)), .val (.int (2 : Int32)), .val (.int (3 : Int32)), .unset] [(.ref pa)])) st122 ?_
        refine o_iloadN (pc' := 29) X122 hx (hb hby d7_28) rfl rfl ?_
        refine o_iaload (pc' := 30) (v := (2 : Int32)) X122 hx hZ e122 A_pa (hb hby d7_29) (by decide) rfl rfl ?_
        refine o_iloadN (pc' := 31) X122 hx (hb hby d7_30) rfl rfl ?_
        refine o_icmpT (pc' := 55) X122 hx (hb hby d7_31) (XT.ii_eq_t (by decide)) (by decide) (by decide) ?_
        refine o_iloadN (pc' := 56) X122 hx (hb hby d7_55) rfl rfl ?_
        refine o_retI X122 hx hret hlk (hb hby d7_56) (by decide) (by decide) ?_
        rw [e122]
        exact ⟨rfl, N0, K0, A_pa⟩
    · refine o_iloadN (pc' := 1) X0 hx (hb hby d7_0) rfl rfl ?_
      refine o_istoreN (pc' := 2) (l' := #[.val (.ref a1), .val (.int (3 : Int32)), .val (.int (3 : Int32)), .unset, .unset]) X0 hx (hb hby d7_1) rfl rfl ?_
      refine o_aloadN (pc' := 3) X0 hx (hb hby d7_2) rfl rfl rfl ?_
      obtain ⟨T123, X123, e123, st123⟩ := getF X0 hx hZ hown (host := "") (Or.inl (hw _ (List.mem_of_getElem? (i := 10) rfl))) Via.refl e0 F_parent (g := (mkF m 3 #[.val (.ref a1), .val (.int (3 : Int32)), .val (.int (3 : Int32)), .unset, .unset] [(.ref a1)])) rfl rfl (hb hby d7_3)
      refine oGo.step (f' := (mkF m 6 #[.val (.ref a1), .val (.int (3 : Int32)), .val (.int (3 : Int32)), .unset, .unset] [(.ref pa)])) st123 ?_
      refine o_iloadN (pc' := 7) X123 hx (hb hby d7_6) rfl rfl ?_
      refine o_iaload (pc' := 8) (v := (3 : Int32)) X123 hx hZ e123 A_pa (hb hby d7_7) (by decide) rfl rfl ?_
      refine o_iloadN (pc' := 9) X123 hx (hb hby d7_8) rfl rfl ?_
      refine o_icmpT (pc' := 22) X123 hx (hb hby d7_9) (XT.ii_eq_t (by decide)) (by decide) (by decide) ?_
      refine o_iloadN (pc' := 23) X123 hx (hb hby d7_22) rfl rfl ?_
      refine o_istoreN (pc' := 24) (l' := #[.val (.ref a1), .val (.int (3 : Int32)), .val (.int (3 : Int32)), .val (.int (3 : Int32)), .unset]) X123 hx (hb hby d7_23) rfl rfl ?_
      refine o_aloadN (pc' := 25) X123 hx (hb hby d7_24) rfl rfl rfl ?_
      obtain ⟨T124, X124, e124, st124⟩ := getF X123 hx hZ hown (host := "") (Or.inl (hw _ (List.mem_of_getElem? (i := 10) rfl))) Via.refl e123 F_parent (g := (mkF m 25 #[.val (.ref a1), .val (.int (3 : Int32)), .val (.int (3 : Int32)), .val (.int (3 : Int32)), .unset] [(.ref a1)])) rfl rfl (hb hby d7_25)
      refine oGo.step (f' := (mkF m 28 #[.val (.ref a1), .val (.int (3 : Int32)), .val (.int (3 : Int32)), .val (.int (3 : Int32)), .unset] [(.ref pa)])) st124 ?_
      refine o_iloadN (pc' := 29) X124 hx (hb hby d7_28) rfl rfl ?_
      refine o_iaload (pc' := 30) (v := (3 : Int32)) X124 hx hZ e124 A_pa (hb hby d7_29) (by decide) rfl rfl ?_
      refine o_iloadN (pc' := 31) X124 hx (hb hby d7_30) rfl rfl ?_
      refine o_icmpT (pc' := 55) X124 hx (hb hby d7_31) (XT.ii_eq_t (by decide)) (by decide) (by decide) ?_
      refine o_iloadN (pc' := 56) X124 hx (hb hby d7_55) rfl rfl ?_
      refine o_retI X124 hx hret hlk (hb hby d7_56) (by decide) (by decide) ?_
      rw [e124]
      exact ⟨rfl, N0, K0, A_pa⟩
theorem d6_0 : decode prog_16_method_3_code 0 = .ok (.aload_n 0, 1) := by decide +kernel
theorem d6_1 : decode prog_16_method_3_code 1 = .ok (.iload_n 1, 1) := by decide +kernel
theorem d6_2 : decode prog_16_method_3_code 2 = .ok (.invokevirtual 13, 3) := by decide +kernel
theorem d6_5 : decode prog_16_method_3_code 5 = .ok (.istore_n 3, 1) := by decide +kernel
theorem d6_6 : decode prog_16_method_3_code 6 = .ok (.aload_n 0, 1) := by decide +kernel
theorem d6_7 : decode prog_16_method_3_code 7 = .ok (.iload_n 2, 1) := by decide +kernel
theorem d6_8 : decode prog_16_method_3_code 8 = .ok (.invokevirtual 13, 3) := by decide +kernel
theorem d6_11 : decode prog_16_method_3_code 11 = .ok (.istore 4, 2) := by decide +kernel
theorem d6_13 : decode prog_16_method_3_code 13 = .ok (.iload_n 3, 1) := by decide +kernel
theorem d6_14 : decode prog_16_method_3_code 14 = .ok (.iload 4, 2) := by decide +kernel
theorem d6_16 : decode prog_16_method_3_code 16 = .ok (.if_icmp .ne 5, 3) := by decide +kernel
theorem d6_19 : decode prog_16_method_3_code 19 = .ok (.iconst 0, 1) := by decide +kernel
theorem d6_20 : decode prog_16_method_3_code 20 = .ok (.ireturn, 1) := by decide +kernel
theorem d6_21 : decode prog_16_method_3_code 21 = .ok (.aload_n 0, 1) := by decide +kernel
theorem d6_22 : decode prog_16_method_3_code 22 = .ok (.getfield 7, 3) := by decide +kernel
theorem d6_25 : decode prog_16_method_3_code 25 = .ok (.iload_n 3, 1) := by decide +kernel
theorem d6_26 : decode prog_16_method_3_code 26 = .ok (.iload 4, 2) := by decide +kernel
theorem d6_28 : decode prog_16_method_3_code 28 = .ok (.invokestatic 17, 3) := by decide +kernel
theorem d6_31 : decode prog_16_method_3_code 31 = .ok (.iload_n 3, 1) := by decide +kernel
theorem d6_32 : decode prog_16_method_3_code 32 = .ok (.iload 4, 2) := by decide +kernel
theorem d6_34 : decode prog_16_method_3_code 34 = .ok (.invokestatic 23, 3) := by decide +kernel
theorem d6_37 : decode prog_16_method_3_code 37 = .ok (.iastore, 1) := by decide +kernel
theorem d6_38 : decode prog_16_method_3_code 38 = .ok (.iconst 1, 1) := by decide +kernel
theorem d6_39 : decode prog_16_method_3_code 39 = .ok (.ireturn, 1) := by decide +kernel
theorem ef6 (m : MethodId) (a1 : Addr) (x1 : Int32) (x2 : Int32) : entryFrame m #[(.ref a1), (.int x1), (.int x2)] 5 = mkF m 0 #[.val (.ref a1), .val (.int x1), .val (.int x2), .unset, .unset] [] := by first | (simp [entryFrame, mkF, argsToLocals, Value.category]; done) | rfl
theorem pd0 : parseMethodDescriptor "(I)I" = some ⟨[.int], (some .int)⟩ := by decide +kernel
theorem pd1 : parseMethodDescriptor "(II)I" = some ⟨[.int, .int], (some .int)⟩ := by decide +kernel
def spec6 (x1 : Int32) (x2 : Int32) (p1 : Int32) (p2 : Int32) (p3 : Int32) : Int32 := (if (oRoot p1 p2 p3 x1) = (oRoot p1 (oP2 p1 p2 p3 x1) (oP3 p1 p2 p3 x1) x2) then (0 : Int32) else (1 : Int32))
def arr6_pa_1 (x1 : Int32) (x2 : Int32) (p1 : Int32) (p2 : Int32) (p3 : Int32) : Int32 := (if (oRoot p1 p2 p3 x1) = (oRoot p1 (oP2 p1 p2 p3 x1) (oP3 p1 p2 p3 x1) x2) then p1 else (if (spec5 (oRoot p1 p2 p3 x1) (oRoot p1 (oP2 p1 p2 p3 x1) (oP3 p1 p2 p3 x1) x2)) = 1 then (spec4 (oRoot p1 p2 p3 x1) (oRoot p1 (oP2 p1 p2 p3 x1) (oP3 p1 p2 p3 x1) x2)) else p1))
def arr6_pa_2 (x1 : Int32) (x2 : Int32) (p1 : Int32) (p2 : Int32) (p3 : Int32) : Int32 := (if (oRoot p1 p2 p3 x1) = (oRoot p1 (oP2 p1 p2 p3 x1) (oP3 p1 p2 p3 x1) x2) then (oP2 p1 (oP2 p1 p2 p3 x1) (oP3 p1 p2 p3 x1) x2) else (if (spec5 (oRoot p1 p2 p3 x1) (oRoot p1 (oP2 p1 p2 p3 x1) (oP3 p1 p2 p3 x1) x2)) = 2 then (spec4 (oRoot p1 p2 p3 x1) (oRoot p1 (oP2 p1 p2 p3 x1) (oP3 p1 p2 p3 x1) x2)) else (oP2 p1 (oP2 p1 p2 p3 x1) (oP3 p1 p2 p3 x1) x2)))
def arr6_pa_3 (x1 : Int32) (x2 : Int32) (p1 : Int32) (p2 : Int32) (p3 : Int32) : Int32 := (if (oRoot p1 p2 p3 x1) = (oRoot p1 (oP2 p1 p2 p3 x1) (oP3 p1 p2 p3 x1) x2) then (oP3 p1 (oP2 p1 p2 p3 x1) (oP3 p1 p2 p3 x1) x2) else (if (spec5 (oRoot p1 p2 p3 x1) (oRoot p1 (oP2 p1 p2 p3 x1) (oP3 p1 p2 p3 x1) x2)) = 3 then (spec4 (oRoot p1 p2 p3 x1) (oRoot p1 (oP2 p1 p2 p3 x1) (oP3 p1 p2 p3 x1) x2)) else (oP3 p1 (oP2 p1 p2 p3 x1) (oP3 p1 p2 p3 x1) x2)))
def room6 : Room := { frames := 1, cells := 0, slots := 0, locals := 16 }
set_option maxRecDepth 65536 in
set_option maxHeartbeats 40000000 in
theorem rm6 (l : Launch) (Z : State) (a0 : Array Value) (hw : ∀ d ∈ tables_1, d.before a0 Z = true) (a1 : Addr) (x1 : Int32) (x2 : Int32) (pa : Addr) (pa : Addr) (p1 : Int32) (p2 : Int32) (p3 : Int32) (h0 : Heap) (n0 : Nat) (Z0 : n0 ≤ h0.size) (E0 : Exa Z h0 a1 "com/example/glyphweave/glyphweave/DisjointSets") (F_parent : Fld Z h0 a1 "com/example/glyphweave/glyphweave/DisjointSets" "parent" "[I" (.ref pa)) (A_pa : oInts Z h0 pa [(0 : Int32), p1, p2, p3]) (ge_pa : n0 ≤ pa) (ne_pa : a1 ≠ pa) (hI : oFor p1 p2 p3) (hx1 : oD x1) (hx2 : oD x2) :
    oCon l Z (⟨"com/example/glyphweave/glyphweave/DisjointSets", "join", "(II)Z"⟩ : MethodName) prog_16_method_3_code 5 (some .boolean) room6 #[(.ref a1), (.int x1), (.int x2)] h0 (fun v h L => v = some (.int (spec6 x1 x2 p1 p2 p3)) ∧ Fr n0 L ∧ Keep h0 h [pa] ∧ oInts Z h pa [(0 : Int32), (arr6_pa_1 x1 x2 p1 p2 p3), (arr6_pa_2 x1 x2 p1 p2 p3), (arr6_pa_3 x1 x2 p1 p2 p3)]) := by
  refine oCon.of (plainFor_of_name pn_1) ?_
  intro p e s m below meth c s₁ hx hby hml hown hnm hret hlk hZ X0 e0
  rw [ef6 m a1 x1 x2]
  have N0 := Fr.nil n0
  have K0 := Keep.refl h0 [pa]
  refine o_aloadN (pc' := 1) X0 hx (hb hby d6_0) rfl rfl rfl ?_
  refine o_iloadN (pc' := 2) X0 hx (hb hby d6_1) rfl rfl ?_
  obtain ⟨r1, T1, L1, X1, hq1, st1⟩ := o_callV X0 hx hZ hown (hw _ (List.mem_of_getElem? (i := 28) rfl)) (hw _ (List.mem_of_getElem? (i := 29) rfl)) (hw _ (List.mem_of_getElem? (i := 31) rfl)) (hw _ (List.mem_of_getElem? (i := 30) rfl)) (hw _ (List.mem_of_getElem? (i := 2) rfl)) (hw _ (List.mem_of_getElem? (i := 32) rfl)) (by decide) E0 (rm7 l Z a0 hw a1 x1 pa pa p1 p2 p3 h0 n0 Z0 E0 F_parent A_pa ge_pa ne_pa hI hx1) e0 (pc' := 5) (Ls := #[.val (.ref a1), .val (.int x1), .val (.int x2), .unset, .unset]) (by rw [hml]; rfl) [(.int x1)] [] rfl pd0 rfl rfl 0 (Nat.le_of_eq rfl) (hb hby d6_2) rfl (by decide) (by decide) (by decide) (by decide)
  obtain ⟨rfl, N1, Kc1, A1_pa⟩ := hq1
  refine oGo.step (f' := (mkF m 5 #[.val (.ref a1), .val (.int x1), .val (.int x2), .unset, .unset] [(.int (oRoot p1 p2 p3 x1))])) st1 ?_
  have N1_ := Fr.app N0 N1
  have K2 := Kc1
  have F4 := E0.keep K2
  have F5 := F_parent.keep K2 (ninS ne_pa nin0)
  have Z7 := Nat.le_trans Z0 K2.1
  have K8 := K0.trans K2 (allS (Or.inl (List.mem_of_getElem? (i := 0) rfl)) all0)
  have hI1 : oFor p1 (oP2 p1 p2 p3 x1) (oP3 p1 p2 p3 x1) := own_for_root hI hx1
  have hD1 : oD (oRoot p1 p2 p3 x1) := own_root_D hI hx1
  have X1 := o_flat X1 rfl rfl
  refine o_istoreN (pc' := 6) (l' := #[.val (.ref a1), .val (.int x1), .val (.int x2), .val (.int (oRoot p1 p2 p3 x1)), .unset]) X1 hx (hb hby d6_5) rfl rfl ?_
  refine o_aloadN (pc' := 7) X1 hx (hb hby d6_6) rfl rfl rfl ?_
  refine o_iloadN (pc' := 8) X1 hx (hb hby d6_7) rfl rfl ?_
  obtain ⟨r9, T9, L9, X9, hq9, st9⟩ := o_callV X1 hx hZ hown (hw _ (List.mem_of_getElem? (i := 28) rfl)) (hw _ (List.mem_of_getElem? (i := 29) rfl)) (hw _ (List.mem_of_getElem? (i := 31) rfl)) (hw _ (List.mem_of_getElem? (i := 30) rfl)) (hw _ (List.mem_of_getElem? (i := 2) rfl)) (hw _ (List.mem_of_getElem? (i := 32) rfl)) (by decide) F4 (rm7 l Z a0 hw a1 x2 pa pa p1 (oP2 p1 p2 p3 x1) (oP3 p1 p2 p3 x1) T1.heap n0 Z7 F4 F5 A1_pa ge_pa ne_pa hI1 hx2) (rfl : T1.heap = _) (pc' := 11) (Ls := #[.val (.ref a1), .val (.int x1), .val (.int x2), .val (.int (oRoot p1 p2 p3 x1)), .unset]) (by rw [hml]; rfl) [(.int x2)] [] rfl pd0 rfl rfl 0 (Nat.le_of_eq rfl) (hb hby d6_8) rfl (by decide) (by decide) (by decide) (by decide)
  obtain ⟨rfl, N9, Kc9, A9_pa⟩ := hq9
  refine oGo.step (f' := (mkF m 11 #[.val (.ref a1), .val (.int x1), .val (.int x2), .val (.int (oRoot p1 p2 p3 x1)), .unset] [(.int (oRoot p1 (oP2 p1 p2 p3 x1) (oP3 p1 p2 p3 x1) x2))])) st9 ?_
  have N9_ := Fr.app N1_ N9
  have K10 := Kc9
  have F12 := F4.keep K10
  have F13 := F5.keep K10 (ninS ne_pa nin0)
  have Z15 := Nat.le_trans Z7 K10.1
  have K16 := K8.trans K10 (allS (Or.inl (List.mem_of_getElem? (i := 0) rfl)) all0)
  have hI9 : oFor p1 (oP2 p1 (oP2 p1 p2 p3 x1) (oP3 p1 p2 p3 x1) x2) (oP3 p1 (oP2 p1 p2 p3 x1) (oP3 p1 p2 p3 x1) x2) := own_for_root hI1 hx2
  have hD9 : oD (oRoot p1 (oP2 p1 p2 p3 x1) (oP3 p1 p2 p3 x1) x2) := own_root_D hI1 hx2
  have X9 := o_flat X9 rfl rfl
  refine o_istore (pc' := 13) (l' := #[.val (.ref a1), .val (.int x1), .val (.int x2), .val (.int (oRoot p1 p2 p3 x1)), .val (.int (oRoot p1 (oP2 p1 p2 p3 x1) (oP3 p1 p2 p3 x1) x2))]) X9 hx (hb hby d6_11) rfl rfl ?_
  refine o_iloadN (pc' := 14) X9 hx (hb hby d6_13) rfl rfl ?_
  refine o_iload (pc' := 16) X9 hx (hb hby d6_14) rfl rfl ?_
  by_cases c17 : (oRoot p1 p2 p3 x1) = (oRoot p1 (oP2 p1 p2 p3 x1) (oP3 p1 p2 p3 x1) x2)
  · refine o_icmpF (pc' := 19) X9 hx (hb hby d6_16) (XT.ii_ne_f c17) rfl ?_
    refine o_iconst (pc' := 20) (v := (0 : Int32)) X9 hx (hb hby d6_19) rfl rfl ?_
    refine o_retZ X9 hx hret hlk (hb hby d6_20) (by decide) (by decide) (by decide) ?_
    skip
    exact ⟨congrArg (fun z => some (Value.int z)) (show _ = (spec6 x1 x2 p1 p2 p3) from (if_pos c17).symm), N9_, K16, (by rw [show (arr6_pa_1 x1 x2 p1 p2 p3) = p1 from (if_pos c17), show (arr6_pa_2 x1 x2 p1 p2 p3) = (oP2 p1 (oP2 p1 p2 p3 x1) (oP3 p1 p2 p3 x1) x2) from (if_pos c17), show (arr6_pa_3 x1 x2 p1 p2 p3) = (oP3 p1 (oP2 p1 p2 p3 x1) (oP3 p1 p2 p3 x1) x2) from (if_pos c17)]; exact A9_pa)⟩
  · refine o_icmpT (pc' := 21) X9 hx (hb hby d6_16) (XT.ii_ne_t c17) (by decide) (by decide) ?_
    refine o_aloadN (pc' := 22) X9 hx (hb hby d6_21) rfl rfl rfl ?_
    obtain ⟨T18, X18, e18, st18⟩ := getF X9 hx hZ hown (host := "") (Or.inl (hw _ (List.mem_of_getElem? (i := 10) rfl))) Via.refl (rfl : T9.heap = _) F13 (g := (mkF m 22 #[.val (.ref a1), .val (.int x1), .val (.int x2), .val (.int (oRoot p1 p2 p3 x1)), .val (.int (oRoot p1 (oP2 p1 p2 p3 x1) (oP3 p1 p2 p3 x1) x2))] [(.ref a1)])) rfl rfl (hb hby d6_22)
    refine oGo.step (f' := (mkF m 25 #[.val (.ref a1), .val (.int x1), .val (.int x2), .val (.int (oRoot p1 p2 p3 x1)), .val (.int (oRoot p1 (oP2 p1 p2 p3 x1) (oP3 p1 p2 p3 x1) x2))] [(.ref pa)])) st18 ?_
    refine o_iloadN (pc' := 26) X18 hx (hb hby d6_25) rfl rfl ?_
    refine o_iload (pc' := 28) X18 hx (hb hby d6_26) rfl rfl ?_
    obtain ⟨r19, T19, L19, X19, hq19, st19⟩ := o_callS X18 hx hZ hown (hw _ (List.mem_of_getElem? (i := 33) rfl)) (hw _ (List.mem_of_getElem? (i := 21) rfl)) (hw _ (List.mem_of_getElem? (i := 18) rfl)) (hw _ (List.mem_of_getElem? (i := 22) rfl)) (by decide) (rm5 l Z a0 hw (oRoot p1 p2 p3 x1) (oRoot p1 (oP2 p1 p2 p3 x1) (oP3 p1 p2 p3 x1) x2)  T9.heap n0 Z15 ) e18 (pc' := 31) (Ls := #[.val (.ref a1), .val (.int x1), .val (.int x2), .val (.int (oRoot p1 p2 p3 x1)), .val (.int (oRoot p1 (oP2 p1 p2 p3 x1) (oP3 p1 p2 p3 x1) x2))]) (by rw [hml]; rfl) [(.int (oRoot p1 p2 p3 x1)), (.int (oRoot p1 (oP2 p1 p2 p3 x1) (oP3 p1 p2 p3 x1) x2))] [(.ref pa)] rfl pd1 rfl rfl 1 (Nat.le_of_eq rfl) (hb hby d6_28) rfl (by decide) (by decide) (by decide) (by decide)
    obtain ⟨rfl, rfl, Kc19⟩ := hq19
    refine oGo.step (f' := (mkF m 31 #[.val (.ref a1), .val (.int x1), .val (.int x2), .val (.int (oRoot p1 p2 p3 x1)), .val (.int (oRoot p1 (oP2 p1 p2 p3 x1) (oP3 p1 p2 p3 x1) x2))] [(.int (spec5 (oRoot p1 p2 p3 x1) (oRoot p1 (oP2 p1 p2 p3 x1) (oP3 p1 p2 p3 x1) x2))), (.ref pa)])) st19 ?_
    have e19 : T19.heap = T9.heap := Kc19
    have X19 := o_same X19 rfl rfl
    refine o_iloadN (pc' := 32) X19 hx (hb hby d6_31) rfl rfl ?_
    refine o_iload (pc' := 34) X19 hx (hb hby d6_32) rfl rfl ?_
    obtain ⟨r20, T20, L20, X20, hq20, st20⟩ := o_callS X19 hx hZ hown (hw _ (List.mem_of_getElem? (i := 34) rfl)) (hw _ (List.mem_of_getElem? (i := 17) rfl)) (hw _ (List.mem_of_getElem? (i := 18) rfl)) (hw _ (List.mem_of_getElem? (i := 19) rfl)) (by decide) (rm4 l Z a0 hw (oRoot p1 p2 p3 x1) (oRoot p1 (oP2 p1 p2 p3 x1) (oP3 p1 p2 p3 x1) x2)  T9.heap n0 Z15 ) e19 (pc' := 37) (Ls := #[.val (.ref a1), .val (.int x1), .val (.int x2), .val (.int (oRoot p1 p2 p3 x1)), .val (.int (oRoot p1 (oP2 p1 p2 p3 x1) (oP3 p1 p2 p3 x1) x2))]) (by rw [hml]; rfl) [(.int (oRoot p1 p2 p3 x1)), (.int (oRoot p1 (oP2 p1 p2 p3 x1) (oP3 p1 p2 p3 x1) x2))] [(.int (spec5 (oRoot p1 p2 p3 x1) (oRoot p1 (oP2 p1 p2 p3 x1) (oP3 p1 p2 p3 x1) x2))), (.ref pa)] rfl pd1 rfl rfl 2 (Nat.le_of_eq rfl) (hb hby d6_34) rfl (by decide) (by decide) (by decide) (by decide)
    obtain ⟨rfl, rfl, Kc20⟩ := hq20
    refine oGo.step (f' := (mkF m 37 #[.val (.ref a1), .val (.int x1), .val (.int x2), .val (.int (oRoot p1 p2 p3 x1)), .val (.int (oRoot p1 (oP2 p1 p2 p3 x1) (oP3 p1 p2 p3 x1) x2))] [(.int (spec4 (oRoot p1 p2 p3 x1) (oRoot p1 (oP2 p1 p2 p3 x1) (oP3 p1 p2 p3 x1) x2))), (.int (spec5 (oRoot p1 p2 p3 x1) (oRoot p1 (oP2 p1 p2 p3 x1) (oP3 p1 p2 p3 x1) x2))), (.ref pa)])) st20 ?_
    have e20 : T20.heap = T9.heap := Kc20
    have X20 := o_same X20 rfl rfl
    obtain ⟨T21, h21_, X21, e21, W21, st21⟩ := o_iastore (x := (spec4 (oRoot p1 p2 p3 x1) (oRoot p1 (oP2 p1 p2 p3 x1) (oP3 p1 p2 p3 x1) x2))) (j := (spec5 (oRoot p1 p2 p3 x1) (oRoot p1 (oP2 p1 p2 p3 x1) (oP3 p1 p2 p3 x1) x2))) (Ls := #[.val (.ref a1), .val (.int x1), .val (.int x2), .val (.int (oRoot p1 p2 p3 x1)), .val (.int (oRoot p1 (oP2 p1 p2 p3 x1) (oP3 p1 p2 p3 x1) x2))]) (st := []) X20 hx hZ e20 A9_pa (hb hby d6_37) (own_nneg (own_mxD (own_max hD1 hD9 c17))) (own_lt4 (own_mxD (own_max hD1 hD9 c17))) rfl
    refine oGo.step (f' := (mkF m 38 #[.val (.ref a1), .val (.int x1), .val (.int x2), .val (.int (oRoot p1 p2 p3 x1)), .val (.int (oRoot p1 (oP2 p1 p2 p3 x1) (oP3 p1 p2 p3 x1) x2))] [])) st21 ?_
    have N21 := Fr.snoc X21 N9_ ge_pa
    have F22 := A9_pa.set W21
    replace F22 : oInts Z h21_ pa [(0 : Int32), (if (spec5 (oRoot p1 p2 p3 x1) (oRoot p1 (oP2 p1 p2 p3 x1) (oP3 p1 p2 p3 x1) x2)) = 1 then (spec4 (oRoot p1 p2 p3 x1) (oRoot p1 (oP2 p1 p2 p3 x1) (oP3 p1 p2 p3 x1) x2)) else p1), (if (spec5 (oRoot p1 p2 p3 x1) (oRoot p1 (oP2 p1 p2 p3 x1) (oP3 p1 p2 p3 x1) x2)) = 2 then (spec4 (oRoot p1 p2 p3 x1) (oRoot p1 (oP2 p1 p2 p3 x1) (oP3 p1 p2 p3 x1) x2)) else (oP2 p1 (oP2 p1 p2 p3 x1) (oP3 p1 p2 p3 x1) x2)), (if (spec5 (oRoot p1 p2 p3 x1) (oRoot p1 (oP2 p1 p2 p3 x1) (oP3 p1 p2 p3 x1) x2)) = 3 then (spec4 (oRoot p1 p2 p3 x1) (oRoot p1 (oP2 p1 p2 p3 x1) (oP3 p1 p2 p3 x1) x2)) else (oP3 p1 (oP2 p1 p2 p3 x1) (oP3 p1 p2 p3 x1) x2))] := (own_set4 (own_max hD1 hD9 c17)) ▸ F22
    have K23 := Keep.of_wr W21
    have F25 := F12.keep K23
    have F26 := F13.keep K23 (ninS ne_pa nin0)
    have Z27 := Nat.le_trans Z15 K23.1
    have K28 := K16.trans K23 (allS (Or.inl (List.mem_of_getElem? (i := 0) rfl)) all0)
    refine o_iconst (pc' := 39) (v := (1 : Int32)) X21 hx (hb hby d6_38) rfl rfl ?_
    refine o_retZ X21 hx hret hlk (hb hby d6_39) (by decide) (by decide) (by decide) ?_
    rw [e21]
    exact ⟨congrArg (fun z => some (Value.int z)) (show _ = (spec6 x1 x2 p1 p2 p3) from (if_neg c17).symm), N21, K28, (by rw [show (arr6_pa_1 x1 x2 p1 p2 p3) = (if (spec5 (oRoot p1 p2 p3 x1) (oRoot p1 (oP2 p1 p2 p3 x1) (oP3 p1 p2 p3 x1) x2)) = 1 then (spec4 (oRoot p1 p2 p3 x1) (oRoot p1 (oP2 p1 p2 p3 x1) (oP3 p1 p2 p3 x1) x2)) else p1) from (if_neg c17), show (arr6_pa_2 x1 x2 p1 p2 p3) = (if (spec5 (oRoot p1 p2 p3 x1) (oRoot p1 (oP2 p1 p2 p3 x1) (oP3 p1 p2 p3 x1) x2)) = 2 then (spec4 (oRoot p1 p2 p3 x1) (oRoot p1 (oP2 p1 p2 p3 x1) (oP3 p1 p2 p3 x1) x2)) else (oP2 p1 (oP2 p1 p2 p3 x1) (oP3 p1 p2 p3 x1) x2)) from (if_neg c17), show (arr6_pa_3 x1 x2 p1 p2 p3) = (if (spec5 (oRoot p1 p2 p3 x1) (oRoot p1 (oP2 p1 p2 p3 x1) (oP3 p1 p2 p3 x1) x2)) = 3 then (spec4 (oRoot p1 p2 p3 x1) (oRoot p1 (oP2 p1 p2 p3 x1) (oP3 p1 p2 p3 x1) x2)) else (oP3 p1 (oP2 p1 p2 p3 x1) (oP3 p1 p2 p3 x1) x2)) from (if_neg c17)]; exact F22)⟩
theorem own_tab2 : ∀ a, a < 2 → ∀ b, b < 3 → ∀ c, c < 4 → ∀ x, x < 4 → ∀ y, y < 4 → bFor (arr6_pa_1 (Int32.ofNat x) (Int32.ofNat y) (Int32.ofNat a) (Int32.ofNat b) (Int32.ofNat c)) (arr6_pa_2 (Int32.ofNat x) (Int32.ofNat y) (Int32.ofNat a) (Int32.ofNat b) (Int32.ofNat c)) (arr6_pa_3 (Int32.ofNat x) (Int32.ofNat y) (Int32.ofNat a) (Int32.ofNat b) (Int32.ofNat c)) = true := by decide +kernel
theorem own_for_join {p1 p2 p3 x1 x2 : Int32} (I : oFor p1 p2 p3) (q : oD x1) (r : oD x2) : oFor (arr6_pa_1 x1 x2 p1 p2 p3) (arr6_pa_2 x1 x2 p1 p2 p3) (arr6_pa_3 x1 x2 p1 p2 p3) := by
  obtain ⟨a, b, c, ha, hb, hc, rfl, rfl, rfl⟩ := own_fn I
  obtain ⟨x, hx, rfl⟩ := own_dn q
  obtain ⟨y, hy, rfl⟩ := own_dn r
  exact own_bf (own_tab2 a ha b hb c hc x hx y hy)
theorem d3_0 : decode method_3_code 0 = .ok (.iload_n 2, 1) := by decide +kernel
theorem d3_1 : decode method_3_code 1 = .ok (.iconst 3, 1) := by decide +kernel
theorem d3_2 : decode method_3_code 2 = .ok (.iand, 1) := by decide +kernel
theorem d3_3 : decode method_3_code 3 = .ok (.istore_n 3, 1) := by decide +kernel
theorem d3_4 : decode method_3_code 4 = .ok (.iload_n 2, 1) := by decide +kernel
theorem d3_5 : decode method_3_code 5 = .ok (.iconst 2, 1) := by decide +kernel
theorem d3_6 : decode method_3_code 6 = .ok (.iushr, 1) := by decide +kernel
theorem d3_7 : decode method_3_code 7 = .ok (.iconst 3, 1) := by decide +kernel
theorem d3_8 : decode method_3_code 8 = .ok (.iand, 1) := by decide +kernel
theorem d3_9 : decode method_3_code 9 = .ok (.istore 4, 2) := by decide +kernel
theorem d3_11 : decode method_3_code 11 = .ok (.aload_n 1, 1) := by decide +kernel
theorem d3_12 : decode method_3_code 12 = .ok (.iload_n 3, 1) := by decide +kernel
theorem d3_13 : decode method_3_code 13 = .ok (.iaload, 1) := by decide +kernel
theorem d3_14 : decode method_3_code 14 = .ok (.istore 5, 2) := by decide +kernel
theorem d3_16 : decode method_3_code 16 = .ok (.aload_n 1, 1) := by decide +kernel
theorem d3_17 : decode method_3_code 17 = .ok (.iload 4, 2) := by decide +kernel
theorem d3_19 : decode method_3_code 19 = .ok (.iaload, 1) := by decide +kernel
theorem d3_20 : decode method_3_code 20 = .ok (.istore 6, 2) := by decide +kernel
theorem d3_22 : decode method_3_code 22 = .ok (.iload 5, 2) := by decide +kernel
theorem d3_24 : decode method_3_code 24 = .ok (.iload 6, 2) := by decide +kernel
theorem d3_26 : decode method_3_code 26 = .ok (.if_icmp .eq 7, 3) := by decide +kernel
theorem d3_29 : decode method_3_code 29 = .ok (.iconst 1, 1) := by decide +kernel
theorem d3_30 : decode method_3_code 30 = .ok (.goto 4, 3) := by decide +kernel
theorem d3_33 : decode method_3_code 33 = .ok (.iconst 0, 1) := by decide +kernel
theorem d3_34 : decode method_3_code 34 = .ok (.istore 7, 2) := by decide +kernel
theorem d3_36 : decode method_3_code 36 = .ok (.iload 5, 2) := by decide +kernel
theorem d3_38 : decode method_3_code 38 = .ok (.iload 6, 2) := by decide +kernel
theorem d3_40 : decode method_3_code 40 = .ok (.invokestatic 22, 3) := by decide +kernel
theorem d3_43 : decode method_3_code 43 = .ok (.istore 8, 2) := by decide +kernel
theorem d3_45 : decode method_3_code 45 = .ok (.iload 5, 2) := by decide +kernel
theorem d3_47 : decode method_3_code 47 = .ok (.iload 6, 2) := by decide +kernel
theorem d3_49 : decode method_3_code 49 = .ok (.invokestatic 28, 3) := by decide +kernel
theorem d3_52 : decode method_3_code 52 = .ok (.istore 9, 2) := by decide +kernel
theorem d3_54 : decode method_3_code 54 = .ok (.aload_n 1, 1) := by decide +kernel
theorem d3_55 : decode method_3_code 55 = .ok (.iconst 0, 1) := by decide +kernel
theorem d3_56 : decode method_3_code 56 = .ok (.iaload, 1) := by decide +kernel
theorem d3_57 : decode method_3_code 57 = .ok (.iload 9, 2) := by decide +kernel
theorem d3_59 : decode method_3_code 59 = .ok (.if_icmp .ne 8, 3) := by decide +kernel
theorem d3_62 : decode method_3_code 62 = .ok (.aload_n 1, 1) := by decide +kernel
theorem d3_63 : decode method_3_code 63 = .ok (.iconst 0, 1) := by decide +kernel
theorem d3_64 : decode method_3_code 64 = .ok (.iload 8, 2) := by decide +kernel
theorem d3_66 : decode method_3_code 66 = .ok (.iastore, 1) := by decide +kernel
theorem d3_67 : decode method_3_code 67 = .ok (.aload_n 1, 1) := by decide +kernel
theorem d3_68 : decode method_3_code 68 = .ok (.iconst 1, 1) := by decide +kernel
theorem d3_69 : decode method_3_code 69 = .ok (.iaload, 1) := by decide +kernel
theorem d3_70 : decode method_3_code 70 = .ok (.iload 9, 2) := by decide +kernel
theorem d3_72 : decode method_3_code 72 = .ok (.if_icmp .ne 8, 3) := by decide +kernel
theorem d3_75 : decode method_3_code 75 = .ok (.aload_n 1, 1) := by decide +kernel
theorem d3_76 : decode method_3_code 76 = .ok (.iconst 1, 1) := by decide +kernel
theorem d3_77 : decode method_3_code 77 = .ok (.iload 8, 2) := by decide +kernel
theorem d3_79 : decode method_3_code 79 = .ok (.iastore, 1) := by decide +kernel
theorem d3_80 : decode method_3_code 80 = .ok (.aload_n 1, 1) := by decide +kernel
theorem d3_81 : decode method_3_code 81 = .ok (.iconst 2, 1) := by decide +kernel
theorem d3_82 : decode method_3_code 82 = .ok (.iaload, 1) := by decide +kernel
theorem d3_83 : decode method_3_code 83 = .ok (.iload 9, 2) := by decide +kernel
theorem d3_85 : decode method_3_code 85 = .ok (.if_icmp .ne 8, 3) := by decide +kernel
theorem d3_88 : decode method_3_code 88 = .ok (.aload_n 1, 1) := by decide +kernel
theorem d3_89 : decode method_3_code 89 = .ok (.iconst 2, 1) := by decide +kernel
theorem d3_90 : decode method_3_code 90 = .ok (.iload 8, 2) := by decide +kernel
theorem d3_92 : decode method_3_code 92 = .ok (.iastore, 1) := by decide +kernel
theorem d3_93 : decode method_3_code 93 = .ok (.aload_n 1, 1) := by decide +kernel
theorem d3_94 : decode method_3_code 94 = .ok (.iconst 3, 1) := by decide +kernel
theorem d3_95 : decode method_3_code 95 = .ok (.iaload, 1) := by decide +kernel
theorem d3_96 : decode method_3_code 96 = .ok (.iload 9, 2) := by decide +kernel
theorem d3_98 : decode method_3_code 98 = .ok (.if_icmp .ne 8, 3) := by decide +kernel
theorem d3_101 : decode method_3_code 101 = .ok (.aload_n 1, 1) := by decide +kernel
theorem d3_102 : decode method_3_code 102 = .ok (.iconst 3, 1) := by decide +kernel
theorem d3_103 : decode method_3_code 103 = .ok (.iload 8, 2) := by decide +kernel
theorem d3_105 : decode method_3_code 105 = .ok (.iastore, 1) := by decide +kernel
theorem d3_106 : decode method_3_code 106 = .ok (.aload_n 0, 1) := by decide +kernel
theorem d3_107 : decode method_3_code 107 = .ok (.iload_n 3, 1) := by decide +kernel
theorem d3_108 : decode method_3_code 108 = .ok (.iload 4, 2) := by decide +kernel
theorem d3_110 : decode method_3_code 110 = .ok (.invokevirtual 31, 3) := by decide +kernel
theorem d3_113 : decode method_3_code 113 = .ok (.iload 7, 2) := by decide +kernel
theorem d3_115 : decode method_3_code 115 = .ok (.if_icmp .ne 7, 3) := by decide +kernel
theorem d3_118 : decode method_3_code 118 = .ok (.iconst 1, 1) := by decide +kernel
theorem d3_119 : decode method_3_code 119 = .ok (.goto 4, 3) := by decide +kernel
theorem d3_122 : decode method_3_code 122 = .ok (.iconst 0, 1) := by decide +kernel
theorem d3_123 : decode method_3_code 123 = .ok (.ireturn, 1) := by decide +kernel
theorem pn_3 : plainName "com/example/glyphweave/glyphweave/DisjointSetsRootOfPinLaw" = true := by first | (simp [plainName, overriddenIn]; done) | decide +kernel
theorem ef3 (m : MethodId) (a1 : Addr) (la : Addr) (x2 : Int32) : entryFrame m #[(.ref a1), (.ref la), (.int x2)] 10 = mkF m 0 #[.val (.ref a1), .val (.ref la), .val (.int x2), .unset, .unset, .unset, .unset, .unset, .unset, .unset] [] := by first | (simp [entryFrame, mkF, argsToLocals, Value.category]; done) | rfl
theorem pd2 : parseMethodDescriptor "(II)Z" = some ⟨[.int, .int], (some .boolean)⟩ := by decide +kernel
def spec3 (x2 : Int32) (p1 : Int32) (p2 : Int32) (p3 : Int32) (l0 : Int32) (l1 : Int32) (l2 : Int32) (l3 : Int32) : Int32 := (if (spec6 (x2 &&& (3 : Int32)) ((XT.ushr x2 (2 : Int32)) &&& (3 : Int32)) p1 p2 p3) = (if (oGet4 l0 l1 l2 l3 (x2 &&& (3 : Int32))) = (oGet4 l0 l1 l2 l3 ((XT.ushr x2 (2 : Int32)) &&& (3 : Int32))) then (0 : Int32) else (1 : Int32)) then (1 : Int32) else (0 : Int32))
def arr3_la_0 (x2 : Int32) (l0 : Int32) (l1 : Int32) (l2 : Int32) (l3 : Int32) : Int32 := (if l0 = (spec5 (oGet4 l0 l1 l2 l3 (x2 &&& (3 : Int32))) (oGet4 l0 l1 l2 l3 ((XT.ushr x2 (2 : Int32)) &&& (3 : Int32)))) then (spec4 (oGet4 l0 l1 l2 l3 (x2 &&& (3 : Int32))) (oGet4 l0 l1 l2 l3 ((XT.ushr x2 (2 : Int32)) &&& (3 : Int32)))) else l0)
def arr3_la_1 (x2 : Int32) (l0 : Int32) (l1 : Int32) (l2 : Int32) (l3 : Int32) : Int32 := (if l1 = (spec5 (oGet4 l0 l1 l2 l3 (x2 &&& (3 : Int32))) (oGet4 l0 l1 l2 l3 ((XT.ushr x2 (2 : Int32)) &&& (3 : Int32)))) then (spec4 (oGet4 l0 l1 l2 l3 (x2 &&& (3 : Int32))) (oGet4 l0 l1 l2 l3 ((XT.ushr x2 (2 : Int32)) &&& (3 : Int32)))) else l1)
def arr3_la_2 (x2 : Int32) (l0 : Int32) (l1 : Int32) (l2 : Int32) (l3 : Int32) : Int32 := (if l2 = (spec5 (oGet4 l0 l1 l2 l3 (x2 &&& (3 : Int32))) (oGet4 l0 l1 l2 l3 ((XT.ushr x2 (2 : Int32)) &&& (3 : Int32)))) then (spec4 (oGet4 l0 l1 l2 l3 (x2 &&& (3 : Int32))) (oGet4 l0 l1 l2 l3 ((XT.ushr x2 (2 : Int32)) &&& (3 : Int32)))) else l2)
def arr3_la_3 (x2 : Int32) (l0 : Int32) (l1 : Int32) (l2 : Int32) (l3 : Int32) : Int32 := (if l3 = (spec5 (oGet4 l0 l1 l2 l3 (x2 &&& (3 : Int32))) (oGet4 l0 l1 l2 l3 ((XT.ushr x2 (2 : Int32)) &&& (3 : Int32)))) then (spec4 (oGet4 l0 l1 l2 l3 (x2 &&& (3 : Int32))) (oGet4 l0 l1 l2 l3 ((XT.ushr x2 (2 : Int32)) &&& (3 : Int32)))) else l3)
def room3 : Room := { frames := 2, cells := 0, slots := 0, locals := 32 }
set_option maxRecDepth 65536 in
set_option maxHeartbeats 40000000 in
theorem rm3 (l : Launch) (Z : State) (a0 : Array Value) (hw : ∀ d ∈ tables_1, d.before a0 Z = true) (a1 : Addr) (la : Addr) (x2 : Int32) (pa : Addr) (pa : Addr) (p1 : Int32) (p2 : Int32) (p3 : Int32) (l0 : Int32) (l1 : Int32) (l2 : Int32) (l3 : Int32) (h0 : Heap) (n0 : Nat) (Z0 : n0 ≤ h0.size) (E0 : Exa Z h0 a1 "com/example/glyphweave/glyphweave/DisjointSets") (F_parent : Fld Z h0 a1 "com/example/glyphweave/glyphweave/DisjointSets" "parent" "[I" (.ref pa)) (A_pa : oInts Z h0 pa [(0 : Int32), p1, p2, p3]) (ge_pa : n0 ≤ pa) (ne_pa : a1 ≠ pa) (A_la : oInts Z h0 la [l0, l1, l2, l3]) (ge_la : n0 ≤ la) (ne_la : a1 ≠ la) (hI : oFor p1 p2 p3) (ne_pl : pa ≠ la) :
    oCon l Z (⟨"com/example/glyphweave/glyphweave/DisjointSetsRootOfPinLaw", "step", "(Lcom/example/glyphweave/glyphweave/DisjointSets;[II)Z"⟩ : MethodName) method_3_code 10 (some .boolean) room3 #[(.ref a1), (.ref la), (.int x2)] h0 (fun v h L => v = some (.int (spec3 x2 p1 p2 p3 l0 l1 l2 l3)) ∧ Fr n0 L ∧ Keep h0 h [pa, la] ∧ oInts Z h pa [(0 : Int32), (arr6_pa_1 (x2 &&& (3 : Int32)) ((XT.ushr x2 (2 : Int32)) &&& (3 : Int32)) p1 p2 p3), (arr6_pa_2 (x2 &&& (3 : Int32)) ((XT.ushr x2 (2 : Int32)) &&& (3 : Int32)) p1 p2 p3), (arr6_pa_3 (x2 &&& (3 : Int32)) ((XT.ushr x2 (2 : Int32)) &&& (3 : Int32)) p1 p2 p3)] ∧ oInts Z h la [(arr3_la_0 x2 l0 l1 l2 l3), (arr3_la_1 x2 l0 l1 l2 l3), (arr3_la_2 x2 l0 l1 l2 l3), (arr3_la_3 x2 l0 l1 l2 l3)]) := by
  refine oCon.of (plainFor_of_name pn_3) ?_
  intro p e s m below meth c s₁ hx hby hml hown hnm hret hlk hZ X0 e0
  rw [ef3 m a1 la x2]
  have N0 := Fr.nil n0
  have K0 := Keep.refl h0 [pa, la]
  refine o_iloadN (pc' := 1) X0 hx (hb hby d3_0) rfl rfl ?_
  refine o_iconst (pc' := 2) (v := (3 : Int32)) X0 hx (hb hby d3_1) rfl rfl ?_
  refine o_iand (pc' := 3) X0 hx (hb hby d3_2)  rfl ?_
  refine o_istoreN (pc' := 4) (l' := #[.val (.ref a1), .val (.ref la), .val (.int x2), .val (.int (x2 &&& (3 : Int32))), .unset, .unset, .unset, .unset, .unset, .unset]) X0 hx (hb hby d3_3) rfl rfl ?_
  refine o_iloadN (pc' := 5) X0 hx (hb hby d3_4) rfl rfl ?_
  refine o_iconst (pc' := 6) (v := (2 : Int32)) X0 hx (hb hby d3_5) rfl rfl ?_
  refine o_iushr (pc' := 7) X0 hx (hb hby d3_6)  rfl ?_
  refine o_iconst (pc' := 8) (v := (3 : Int32)) X0 hx (hb hby d3_7) rfl rfl ?_
  refine o_iand (pc' := 9) X0 hx (hb hby d3_8)  rfl ?_
  refine o_istore (pc' := 11) (l' := #[.val (.ref a1), .val (.ref la), .val (.int x2), .val (.int (x2 &&& (3 : Int32))), .val (.int ((XT.ushr x2 (2 : Int32)) &&& (3 : Int32))), .unset, .unset, .unset, .unset, .unset]) X0 hx (hb hby d3_9) rfl rfl ?_
  refine o_aloadN (pc' := 12) X0 hx (hb hby d3_11) rfl rfl rfl ?_
  refine o_iloadN (pc' := 13) X0 hx (hb hby d3_12) rfl rfl ?_
  refine o_iaload (pc' := 14) (v := (oGet4 l0 l1 l2 l3 (x2 &&& (3 : Int32)))) X0 hx hZ e0 A_la (hb hby d3_13) (own_nneg (own_and3 x2)) (own_get4 (own_and3 x2)) rfl ?_
  refine o_istore (pc' := 16) (l' := #[.val (.ref a1), .val (.ref la), .val (.int x2), .val (.int (x2 &&& (3 : Int32))), .val (.int ((XT.ushr x2 (2 : Int32)) &&& (3 : Int32))), .val (.int (oGet4 l0 l1 l2 l3 (x2 &&& (3 : Int32)))), .unset, .unset, .unset, .unset]) X0 hx (hb hby d3_14) rfl rfl ?_
  refine o_aloadN (pc' := 17) X0 hx (hb hby d3_16) rfl rfl rfl ?_
  refine o_iload (pc' := 19) X0 hx (hb hby d3_17) rfl rfl ?_
  refine o_iaload (pc' := 20) (v := (oGet4 l0 l1 l2 l3 ((XT.ushr x2 (2 : Int32)) &&& (3 : Int32)))) X0 hx hZ e0 A_la (hb hby d3_19) (own_nneg (own_and3 (XT.ushr x2 (2 : Int32)))) (own_get4 (own_and3 (XT.ushr x2 (2 : Int32)))) rfl ?_
  refine o_istore (pc' := 22) (l' := #[.val (.ref a1), .val (.ref la), .val (.int x2), .val (.int (x2 &&& (3 : Int32))), .val (.int ((XT.ushr x2 (2 : Int32)) &&& (3 : Int32))), .val (.int (oGet4 l0 l1 l2 l3 (x2 &&& (3 : Int32)))), .val (.int (oGet4 l0 l1 l2 l3 ((XT.ushr x2 (2 : Int32)) &&& (3 : Int32)))), .unset, .unset, .unset]) X0 hx (hb hby d3_20) rfl rfl ?_
  refine o_iload (pc' := 24) X0 hx (hb hby d3_22) rfl rfl ?_
  refine o_iload (pc' := 26) X0 hx (hb hby d3_24) rfl rfl ?_
  have J2 : ∀ (v3 : Int32), v3 = (if (oGet4 l0 l1 l2 l3 (x2 &&& (3 : Int32))) = (oGet4 l0 l1 l2 l3 ((XT.ushr x2 (2 : Int32)) &&& (3 : Int32))) then (0 : Int32) else (1 : Int32)) → oGo p e below (oG s (fun v h L => v = some (.int (spec3 x2 p1 p2 p3 l0 l1 l2 l3)) ∧ Fr n0 L ∧ Keep h0 h [pa, la] ∧ oInts Z h pa [(0 : Int32), (arr6_pa_1 (x2 &&& (3 : Int32)) ((XT.ushr x2 (2 : Int32)) &&& (3 : Int32)) p1 p2 p3), (arr6_pa_2 (x2 &&& (3 : Int32)) ((XT.ushr x2 (2 : Int32)) &&& (3 : Int32)) p1 p2 p3), (arr6_pa_3 (x2 &&& (3 : Int32)) ((XT.ushr x2 (2 : Int32)) &&& (3 : Int32)) p1 p2 p3)] ∧ oInts Z h la [(arr3_la_0 x2 l0 l1 l2 l3), (arr3_la_1 x2 l0 l1 l2 l3), (arr3_la_2 x2 l0 l1 l2 l3), (arr3_la_3 x2 l0 l1 l2 l3)]) room3.cells room3.slots) s₁ (mkF m 34 #[.val (.ref a1), .val (.ref la), .val (.int x2), .val (.int (x2 &&& (3 : Int32))), .val (.int ((XT.ushr x2 (2 : Int32)) &&& (3 : Int32))), .val (.int (oGet4 l0 l1 l2 l3 (x2 &&& (3 : Int32)))), .val (.int (oGet4 l0 l1 l2 l3 ((XT.ushr x2 (2 : Int32)) &&& (3 : Int32)))), .unset, .unset, .unset] [(.int v3)]) := by
    intro v3 hv3
    refine o_istore (pc' := 36) (l' := #[.val (.ref a1), .val (.ref la), .val (.int x2), .val (.int (x2 &&& (3 : Int32))), .val (.int ((XT.ushr x2 (2 : Int32)) &&& (3 : Int32))), .val (.int (oGet4 l0 l1 l2 l3 (x2 &&& (3 : Int32)))), .val (.int (oGet4 l0 l1 l2 l3 ((XT.ushr x2 (2 : Int32)) &&& (3 : Int32)))), .val (.int v3), .unset, .unset]) X0 hx (hb hby d3_34) rfl rfl ?_
    refine o_iload (pc' := 38) X0 hx (hb hby d3_36) rfl rfl ?_
    refine o_iload (pc' := 40) X0 hx (hb hby d3_38) rfl rfl ?_
    obtain ⟨r4, T4, L4, X4, hq4, st4⟩ := o_callS X0 hx hZ hown (hw _ (List.mem_of_getElem? (i := 16) rfl)) (hw _ (List.mem_of_getElem? (i := 17) rfl)) (hw _ (List.mem_of_getElem? (i := 18) rfl)) (hw _ (List.mem_of_getElem? (i := 19) rfl)) (by decide) (rm4 l Z a0 hw (oGet4 l0 l1 l2 l3 (x2 &&& (3 : Int32))) (oGet4 l0 l1 l2 l3 ((XT.ushr x2 (2 : Int32)) &&& (3 : Int32)))  h0 n0 Z0 ) e0 (pc' := 43) (Ls := #[.val (.ref a1), .val (.ref la), .val (.int x2), .val (.int (x2 &&& (3 : Int32))), .val (.int ((XT.ushr x2 (2 : Int32)) &&& (3 : Int32))), .val (.int (oGet4 l0 l1 l2 l3 (x2 &&& (3 : Int32)))), .val (.int (oGet4 l0 l1 l2 l3 ((XT.ushr x2 (2 : Int32)) &&& (3 : Int32)))), .val (.int v3), .unset, .unset]) (by rw [hml]; rfl) [(.int (oGet4 l0 l1 l2 l3 (x2 &&& (3 : Int32)))), (.int (oGet4 l0 l1 l2 l3 ((XT.ushr x2 (2 : Int32)) &&& (3 : Int32))))] [] rfl pd1 rfl rfl 0 (Nat.le_of_eq rfl) (hb hby d3_40) rfl (by decide) (by decide) (by decide) (by decide)
    obtain ⟨rfl, rfl, Kc4⟩ := hq4
    refine oGo.step (f' := (mkF m 43 #[.val (.ref a1), .val (.ref la), .val (.int x2), .val (.int (x2 &&& (3 : Int32))), .val (.int ((XT.ushr x2 (2 : Int32)) &&& (3 : Int32))), .val (.int (oGet4 l0 l1 l2 l3 (x2 &&& (3 : Int32)))), .val (.int (oGet4 l0 l1 l2 l3 ((XT.ushr x2 (2 : Int32)) &&& (3 : Int32)))), .val (.int v3), .unset, .unset] [(.int (spec4 (oGet4 l0 l1 l2 l3 (x2 &&& (3 : Int32))) (oGet4 l0 l1 l2 l3 ((XT.ushr x2 (2 : Int32)) &&& (3 : Int32)))))])) st4 ?_
    have e4 : T4.heap = h0 := Kc4
    have X4 := o_same X4 rfl rfl
    refine o_istore (pc' := 45) (l' := #[.val (.ref a1), .val (.ref la), .val (.int x2), .val (.int (x2 &&& (3 : Int32))), .val (.int ((XT.ushr x2 (2 : Int32)) &&& (3 : Int32))), .val (.int (oGet4 l0 l1 l2 l3 (x2 &&& (3 : Int32)))), .val (.int (oGet4 l0 l1 l2 l3 ((XT.ushr x2 (2 : Int32)) &&& (3 : Int32)))), .val (.int v3), .val (.int (spec4 (oGet4 l0 l1 l2 l3 (x2 &&& (3 : Int32))) (oGet4 l0 l1 l2 l3 ((XT.ushr x2 (2 : Int32)) &&& (3 : Int32))))), .unset]) X4 hx (hb hby d3_43) rfl rfl ?_
    refine o_iload (pc' := 47) X4 hx (hb hby d3_45) rfl rfl ?_
    refine o_iload (pc' := 49) X4 hx (hb hby d3_47) rfl rfl ?_
    obtain ⟨r5, T5, L5, X5, hq5, st5⟩ := o_callS X4 hx hZ hown (hw _ (List.mem_of_getElem? (i := 20) rfl)) (hw _ (List.mem_of_getElem? (i := 21) rfl)) (hw _ (List.mem_of_getElem? (i := 18) rfl)) (hw _ (List.mem_of_getElem? (i := 22) rfl)) (by decide) (rm5 l Z a0 hw (oGet4 l0 l1 l2 l3 (x2 &&& (3 : Int32))) (oGet4 l0 l1 l2 l3 ((XT.ushr x2 (2 : Int32)) &&& (3 : Int32)))  h0 n0 Z0 ) e4 (pc' := 52) (Ls := #[.val (.ref a1), .val (.ref la), .val (.int x2), .val (.int (x2 &&& (3 : Int32))), .val (.int ((XT.ushr x2 (2 : Int32)) &&& (3 : Int32))), .val (.int (oGet4 l0 l1 l2 l3 (x2 &&& (3 : Int32)))), .val (.int (oGet4 l0 l1 l2 l3 ((XT.ushr x2 (2 : Int32)) &&& (3 : Int32)))), .val (.int v3), .val (.int (spec4 (oGet4 l0 l1 l2 l3 (x2 &&& (3 : Int32))) (oGet4 l0 l1 l2 l3 ((XT.ushr x2 (2 : Int32)) &&& (3 : Int32))))), .unset]) (by rw [hml]; rfl) [(.int (oGet4 l0 l1 l2 l3 (x2 &&& (3 : Int32)))), (.int (oGet4 l0 l1 l2 l3 ((XT.ushr x2 (2 : Int32)) &&& (3 : Int32))))] [] rfl pd1 rfl rfl 0 (Nat.le_of_eq rfl) (hb hby d3_49) rfl (by decide) (by decide) (by decide) (by decide)
    obtain ⟨rfl, rfl, Kc5⟩ := hq5
    refine oGo.step (f' := (mkF m 52 #[.val (.ref a1), .val (.ref la), .val (.int x2), .val (.int (x2 &&& (3 : Int32))), .val (.int ((XT.ushr x2 (2 : Int32)) &&& (3 : Int32))), .val (.int (oGet4 l0 l1 l2 l3 (x2 &&& (3 : Int32)))), .val (.int (oGet4 l0 l1 l2 l3 ((XT.ushr x2 (2 : Int32)) &&& (3 : Int32)))), .val (.int v3), .val (.int (spec4 (oGet4 l0 l1 l2 l3 (x2 &&& (3 : Int32))) (oGet4 l0 l1 l2 l3 ((XT.ushr x2 (2 : Int32)) &&& (3 : Int32))))), .unset] [(.int (spec5 (oGet4 l0 l1 l2 l3 (x2 &&& (3 : Int32))) (oGet4 l0 l1 l2 l3 ((XT.ushr x2 (2 : Int32)) &&& (3 : Int32)))))])) st5 ?_
    have e5 : T5.heap = h0 := Kc5
    have X5 := o_same X5 rfl rfl
    refine o_istore (pc' := 54) (l' := #[.val (.ref a1), .val (.ref la), .val (.int x2), .val (.int (x2 &&& (3 : Int32))), .val (.int ((XT.ushr x2 (2 : Int32)) &&& (3 : Int32))), .val (.int (oGet4 l0 l1 l2 l3 (x2 &&& (3 : Int32)))), .val (.int (oGet4 l0 l1 l2 l3 ((XT.ushr x2 (2 : Int32)) &&& (3 : Int32)))), .val (.int v3), .val (.int (spec4 (oGet4 l0 l1 l2 l3 (x2 &&& (3 : Int32))) (oGet4 l0 l1 l2 l3 ((XT.ushr x2 (2 : Int32)) &&& (3 : Int32))))), .val (.int (spec5 (oGet4 l0 l1 l2 l3 (x2 &&& (3 : Int32))) (oGet4 l0 l1 l2 l3 ((XT.ushr x2 (2 : Int32)) &&& (3 : Int32)))))]) X5 hx (hb hby d3_52) rfl rfl ?_
    refine o_aloadN (pc' := 55) X5 hx (hb hby d3_54) rfl rfl rfl ?_
    refine o_iconst (pc' := 56) (v := (0 : Int32)) X5 hx (hb hby d3_55) rfl rfl ?_
    refine o_iaload (pc' := 57) (v := l0) X5 hx hZ e5 A_la (hb hby d3_56) (by decide) rfl rfl ?_
    refine o_iload (pc' := 59) X5 hx (hb hby d3_57) rfl rfl ?_
    have J7 : ∀ (T23 : State) (h23_ : Heap) (L23 : List Loc) (X23 : Stand p l e room3 s m #[(.ref a1), (.ref la), (.int x2)] below meth c T23 L23 (0) (0)) (e23 : T23.heap = h23_) (N23 : Fr n0 L23) (Z23 : n0 ≤ h23_.size) (K23_ : Keep h0 h23_ [pa, la]) (v22 : Int32), v22 = (if l0 = (spec5 (oGet4 l0 l1 l2 l3 (x2 &&& (3 : Int32))) (oGet4 l0 l1 l2 l3 ((XT.ushr x2 (2 : Int32)) &&& (3 : Int32)))) then (spec4 (oGet4 l0 l1 l2 l3 (x2 &&& (3 : Int32))) (oGet4 l0 l1 l2 l3 ((XT.ushr x2 (2 : Int32)) &&& (3 : Int32)))) else l0) → oFor p1 p2 p3 → Exa Z h23_ a1 "com/example/glyphweave/glyphweave/DisjointSets" → Fld Z h23_ a1 "com/example/glyphweave/glyphweave/DisjointSets" "parent" "[I" (.ref pa) → oInts Z h23_ pa [(0 : Int32), p1, p2, p3] → oInts Z h23_ la [v22, l1, l2, l3] → oGo p e below (oG s (fun v h L => v = some (.int (spec3 x2 p1 p2 p3 l0 l1 l2 l3)) ∧ Fr n0 L ∧ Keep h0 h [pa, la] ∧ oInts Z h pa [(0 : Int32), (arr6_pa_1 (x2 &&& (3 : Int32)) ((XT.ushr x2 (2 : Int32)) &&& (3 : Int32)) p1 p2 p3), (arr6_pa_2 (x2 &&& (3 : Int32)) ((XT.ushr x2 (2 : Int32)) &&& (3 : Int32)) p1 p2 p3), (arr6_pa_3 (x2 &&& (3 : Int32)) ((XT.ushr x2 (2 : Int32)) &&& (3 : Int32)) p1 p2 p3)] ∧ oInts Z h la [(arr3_la_0 x2 l0 l1 l2 l3), (arr3_la_1 x2 l0 l1 l2 l3), (arr3_la_2 x2 l0 l1 l2 l3), (arr3_la_3 x2 l0 l1 l2 l3)]) room3.cells room3.slots) T23 (mkF m 67 #[.val (.ref a1), .val (.ref la), .val (.int x2), .val (.int (x2 &&& (3 : Int32))), .val (.int ((XT.ushr x2 (2 : Int32)) &&& (3 : Int32))), .val (.int (oGet4 l0 l1 l2 l3 (x2 &&& (3 : Int32)))), .val (.int (oGet4 l0 l1 l2 l3 ((XT.ushr x2 (2 : Int32)) &&& (3 : Int32)))), .val (.int v3), .val (.int (spec4 (oGet4 l0 l1 l2 l3 (x2 &&& (3 : Int32))) (oGet4 l0 l1 l2 l3 ((XT.ushr x2 (2 : Int32)) &&& (3 : Int32))))), .val (.int (spec5 (oGet4 l0 l1 l2 l3 (x2 &&& (3 : Int32))) (oGet4 l0 l1 l2 l3 ((XT.ushr x2 (2 : Int32)) &&& (3 : Int32)))))] []) := by
      intro T23 h23_ L23 X23 e23 N23 Z23 K23_ v22 hv22 F17 F18 F19 F20 F21
      refine o_aloadN (pc' := 68) X23 hx (hb hby d3_67) rfl rfl rfl ?_
      refine o_iconst (pc' := 69) (v := (1 : Int32)) X23 hx (hb hby d3_68) rfl rfl ?_
      refine o_iaload (pc' := 70) (v := l1) X23 hx hZ e23 F21 (hb hby d3_69) (by decide) rfl rfl ?_
      refine o_iload (pc' := 72) X23 hx (hb hby d3_70) rfl rfl ?_
      have J25 : ∀ (T41 : State) (h41_ : Heap) (L41 : List Loc) (X41 : Stand p l e room3 s m #[(.ref a1), (.ref la), (.int x2)] below meth c T41 L41 (0) (0)) (e41 : T41.heap = h41_) (N41 : Fr n0 L41) (Z41 : n0 ≤ h41_.size) (K41_ : Keep h0 h41_ [pa, la]) (v40 : Int32), v40 = (if l1 = (spec5 (oGet4 l0 l1 l2 l3 (x2 &&& (3 : Int32))) (oGet4 l0 l1 l2 l3 ((XT.ushr x2 (2 : Int32)) &&& (3 : Int32)))) then (spec4 (oGet4 l0 l1 l2 l3 (x2 &&& (3 : Int32))) (oGet4 l0 l1 l2 l3 ((XT.ushr x2 (2 : Int32)) &&& (3 : Int32)))) else l1) → oFor p1 p2 p3 → Exa Z h41_ a1 "com/example/glyphweave/glyphweave/DisjointSets" → Fld Z h41_ a1 "com/example/glyphweave/glyphweave/DisjointSets" "parent" "[I" (.ref pa) → oInts Z h41_ pa [(0 : Int32), p1, p2, p3] → oInts Z h41_ la [v22, v40, l2, l3] → oGo p e below (oG s (fun v h L => v = some (.int (spec3 x2 p1 p2 p3 l0 l1 l2 l3)) ∧ Fr n0 L ∧ Keep h0 h [pa, la] ∧ oInts Z h pa [(0 : Int32), (arr6_pa_1 (x2 &&& (3 : Int32)) ((XT.ushr x2 (2 : Int32)) &&& (3 : Int32)) p1 p2 p3), (arr6_pa_2 (x2 &&& (3 : Int32)) ((XT.ushr x2 (2 : Int32)) &&& (3 : Int32)) p1 p2 p3), (arr6_pa_3 (x2 &&& (3 : Int32)) ((XT.ushr x2 (2 : Int32)) &&& (3 : Int32)) p1 p2 p3)] ∧ oInts Z h la [(arr3_la_0 x2 l0 l1 l2 l3), (arr3_la_1 x2 l0 l1 l2 l3), (arr3_la_2 x2 l0 l1 l2 l3), (arr3_la_3 x2 l0 l1 l2 l3)]) room3.cells room3.slots) T41 (mkF m 80 #[.val (.ref a1), .val (.ref la), .val (.int x2), .val (.int (x2 &&& (3 : Int32))), .val (.int ((XT.ushr x2 (2 : Int32)) &&& (3 : Int32))), .val (.int (oGet4 l0 l1 l2 l3 (x2 &&& (3 : Int32)))), .val (.int (oGet4 l0 l1 l2 l3 ((XT.ushr x2 (2 : Int32)) &&& (3 : Int32)))), .val (.int v3), .val (.int (spec4 (oGet4 l0 l1 l2 l3 (x2 &&& (3 : Int32))) (oGet4 l0 l1 l2 l3 ((XT.ushr x2 (2 : Int32)) &&& (3 : Int32))))), .val (.int (spec5 (oGet4 l0 l1 l2 l3 (x2 &&& (3 : Int32))) (oGet4 l0 l1 l2 l3 ((XT.ushr x2 (2 : Int32)) &&& (3 : Int32)))))] []) := by
        intro T41 h41_ L41 X41 e41 N41 Z41 K41_ v40 hv40 F35 F36 F37 F38 F39
        refine o_aloadN (pc' := 81) X41 hx (hb hby d3_80) rfl rfl rfl ?_
        refine o_iconst (pc' := 82) (v := (2 : Int32)) X41 hx (hb hby d3_81) rfl rfl ?_
        refine o_iaload (pc' := 83) (v := l2) X41 hx hZ e41 F39 (hb hby d3_82) (by decide) rfl rfl ?_
        refine o_iload (pc' := 85) X41 hx (hb hby d3_83) rfl rfl ?_
        have J43 : ∀ (T59 : State) (h59_ : Heap) (L59 : List Loc) (X59 : Stand p l e room3 s m #[(.ref a1), (.ref la), (.int x2)] below meth c T59 L59 (0) (0)) (e59 : T59.heap = h59_) (N59 : Fr n0 L59) (Z59 : n0 ≤ h59_.size) (K59_ : Keep h0 h59_ [pa, la]) (v58 : Int32), v58 = (if l2 = (spec5 (oGet4 l0 l1 l2 l3 (x2 &&& (3 : Int32))) (oGet4 l0 l1 l2 l3 ((XT.ushr x2 (2 : Int32)) &&& (3 : Int32)))) then (spec4 (oGet4 l0 l1 l2 l3 (x2 &&& (3 : Int32))) (oGet4 l0 l1 l2 l3 ((XT.ushr x2 (2 : Int32)) &&& (3 : Int32)))) else l2) → oFor p1 p2 p3 → Exa Z h59_ a1 "com/example/glyphweave/glyphweave/DisjointSets" → Fld Z h59_ a1 "com/example/glyphweave/glyphweave/DisjointSets" "parent" "[I" (.ref pa) → oInts Z h59_ pa [(0 : Int32), p1, p2, p3] → oInts Z h59_ la [v22, v40, v58, l3] → oGo p e below (oG s (fun v h L => v = some (.int (spec3 x2 p1 p2 p3 l0 l1 l2 l3)) ∧ Fr n0 L ∧ Keep h0 h [pa, la] ∧ oInts Z h pa [(0 : Int32), (arr6_pa_1 (x2 &&& (3 : Int32)) ((XT.ushr x2 (2 : Int32)) &&& (3 : Int32)) p1 p2 p3), (arr6_pa_2 (x2 &&& (3 : Int32)) ((XT.ushr x2 (2 : Int32)) &&& (3 : Int32)) p1 p2 p3), (arr6_pa_3 (x2 &&& (3 : Int32)) ((XT.ushr x2 (2 : Int32)) &&& (3 : Int32)) p1 p2 p3)] ∧ oInts Z h la [(arr3_la_0 x2 l0 l1 l2 l3), (arr3_la_1 x2 l0 l1 l2 l3), (arr3_la_2 x2 l0 l1 l2 l3), (arr3_la_3 x2 l0 l1 l2 l3)]) room3.cells room3.slots) T59 (mkF m 93 #[.val (.ref a1), .val (.ref la), .val (.int x2), .val (.int (x2 &&& (3 : Int32))), .val (.int ((XT.ushr x2 (2 : Int32)) &&& (3 : Int32))), .val (.int (oGet4 l0 l1 l2 l3 (x2 &&& (3 : Int32)))), .val (.int (oGet4 l0 l1 l2 l3 ((XT.ushr x2 (2 : Int32)) &&& (3 : Int32)))), .val (.int v3), .val (.int (spec4 (oGet4 l0 l1 l2 l3 (x2 &&& (3 : Int32))) (oGet4 l0 l1 l2 l3 ((XT.ushr x2 (2 : Int32)) &&& (3 : Int32))))), .val (.int (spec5 (oGet4 l0 l1 l2 l3 (x2 &&& (3 : Int32))) (oGet4 l0 l1 l2 l3 ((XT.ushr x2 (2 : Int32)) &&& (3 : Int32)))))] []) := by
          intro T59 h59_ L59 X59 e59 N59 Z59 K59_ v58 hv58 F53 F54 F55 F56 F57
          refine o_aloadN (pc' := 94) X59 hx (hb hby d3_93) rfl rfl rfl ?_
          refine o_iconst (pc' := 95) (v := (3 : Int32)) X59 hx (hb hby d3_94) rfl rfl ?_
          refine o_iaload (pc' := 96) (v := l3) X59 hx hZ e59 F57 (hb hby d3_95) (by decide) rfl rfl ?_
          refine o_iload (pc' := 98) X59 hx (hb hby d3_96) rfl rfl ?_
          have J61 : ∀ (T77 : State) (h77_ : Heap) (L77 : List Loc) (X77 : Stand p l e room3 s m #[(.ref a1), (.ref la), (.int x2)] below meth c T77 L77 (0) (0)) (e77 : T77.heap = h77_) (N77 : Fr n0 L77) (Z77 : n0 ≤ h77_.size) (K77_ : Keep h0 h77_ [pa, la]) (v76 : Int32), v76 = (if l3 = (spec5 (oGet4 l0 l1 l2 l3 (x2 &&& (3 : Int32))) (oGet4 l0 l1 l2 l3 ((XT.ushr x2 (2 : Int32)) &&& (3 : Int32)))) then (spec4 (oGet4 l0 l1 l2 l3 (x2 &&& (3 : Int32))) (oGet4 l0 l1 l2 l3 ((XT.ushr x2 (2 : Int32)) &&& (3 : Int32)))) else l3) → oFor p1 p2 p3 → Exa Z h77_ a1 "com/example/glyphweave/glyphweave/DisjointSets" → Fld Z h77_ a1 "com/example/glyphweave/glyphweave/DisjointSets" "parent" "[I" (.ref pa) → oInts Z h77_ pa [(0 : Int32), p1, p2, p3] → oInts Z h77_ la [v22, v40, v58, v76] → oGo p e below (oG s (fun v h L => v = some (.int (spec3 x2 p1 p2 p3 l0 l1 l2 l3)) ∧ Fr n0 L ∧ Keep h0 h [pa, la] ∧ oInts Z h pa [(0 : Int32), (arr6_pa_1 (x2 &&& (3 : Int32)) ((XT.ushr x2 (2 : Int32)) &&& (3 : Int32)) p1 p2 p3), (arr6_pa_2 (x2 &&& (3 : Int32)) ((XT.ushr x2 (2 : Int32)) &&& (3 : Int32)) p1 p2 p3), (arr6_pa_3 (x2 &&& (3 : Int32)) ((XT.ushr x2 (2 : Int32)) &&& (3 : Int32)) p1 p2 p3)] ∧ oInts Z h la [(arr3_la_0 x2 l0 l1 l2 l3), (arr3_la_1 x2 l0 l1 l2 l3), (arr3_la_2 x2 l0 l1 l2 l3), (arr3_la_3 x2 l0 l1 l2 l3)]) room3.cells room3.slots) T77 (mkF m 106 #[.val (.ref a1), .val (.ref la), .val (.int x2), .val (.int (x2 &&& (3 : Int32))), .val (.int ((XT.ushr x2 (2 : Int32)) &&& (3 : Int32))), .val (.int (oGet4 l0 l1 l2 l3 (x2 &&& (3 : Int32)))), .val (.int (oGet4 l0 l1 l2 l3 ((XT.ushr x2 (2 : Int32)) &&& (3 : Int32)))), .val (.int v3), .val (.int (spec4 (oGet4 l0 l1 l2 l3 (x2 &&& (3 : Int32))) (oGet4 l0 l1 l2 l3 ((XT.ushr x2 (2 : Int32)) &&& (3 : Int32))))), .val (.int (spec5 (oGet4 l0 l1 l2 l3 (x2 &&& (3 : Int32))) (oGet4 l0 l1 l2 l3 ((XT.ushr x2 (2 : Int32)) &&& (3 : Int32)))))] []) := by
            intro T77 h77_ L77 X77 e77 N77 Z77 K77_ v76 hv76 F71 F72 F73 F74 F75
            refine o_aloadN (pc' := 107) X77 hx (hb hby d3_106) rfl rfl rfl ?_
            refine o_iloadN (pc' := 108) X77 hx (hb hby d3_107) rfl rfl ?_
            refine o_iload (pc' := 110) X77 hx (hb hby d3_108) rfl rfl ?_
            obtain ⟨r78, T78, L78, X78, hq78, st78⟩ := o_callV X77 hx hZ hown (hw _ (List.mem_of_getElem? (i := 23) rfl)) (hw _ (List.mem_of_getElem? (i := 24) rfl)) (hw _ (List.mem_of_getElem? (i := 26) rfl)) (hw _ (List.mem_of_getElem? (i := 25) rfl)) (hw _ (List.mem_of_getElem? (i := 2) rfl)) (hw _ (List.mem_of_getElem? (i := 27) rfl)) (by decide) F72 (rm6 l Z a0 hw a1 (x2 &&& (3 : Int32)) ((XT.ushr x2 (2 : Int32)) &&& (3 : Int32)) pa pa p1 p2 p3 h77_ n0 Z77 F72 F73 F74 ge_pa ne_pa F71 (own_and3 x2) (own_and3 (XT.ushr x2 (2 : Int32)))) e77 (pc' := 113) (Ls := #[.val (.ref a1), .val (.ref la), .val (.int x2), .val (.int (x2 &&& (3 : Int32))), .val (.int ((XT.ushr x2 (2 : Int32)) &&& (3 : Int32))), .val (.int (oGet4 l0 l1 l2 l3 (x2 &&& (3 : Int32)))), .val (.int (oGet4 l0 l1 l2 l3 ((XT.ushr x2 (2 : Int32)) &&& (3 : Int32)))), .val (.int v3), .val (.int (spec4 (oGet4 l0 l1 l2 l3 (x2 &&& (3 : Int32))) (oGet4 l0 l1 l2 l3 ((XT.ushr x2 (2 : Int32)) &&& (3 : Int32))))), .val (.int (spec5 (oGet4 l0 l1 l2 l3 (x2 &&& (3 : Int32))) (oGet4 l0 l1 l2 l3 ((XT.ushr x2 (2 : Int32)) &&& (3 : Int32)))))]) (by rw [hml]; rfl) [(.int (x2 &&& (3 : Int32))), (.int ((XT.ushr x2 (2 : Int32)) &&& (3 : Int32)))] [] rfl pd2 rfl rfl 0 (Nat.le_of_eq rfl) (hb hby d3_110) rfl (by decide) (by decide) (by decide) (by decide)
            obtain ⟨rfl, N78, Kc78, A78_pa⟩ := hq78
            refine oGo.step (f' := (mkF m 113 #[.val (.ref a1), .val (.ref la), .val (.int x2), .val (.int (x2 &&& (3 : Int32))), .val (.int ((XT.ushr x2 (2 : Int32)) &&& (3 : Int32))), .val (.int (oGet4 l0 l1 l2 l3 (x2 &&& (3 : Int32)))), .val (.int (oGet4 l0 l1 l2 l3 ((XT.ushr x2 (2 : Int32)) &&& (3 : Int32)))), .val (.int v3), .val (.int (spec4 (oGet4 l0 l1 l2 l3 (x2 &&& (3 : Int32))) (oGet4 l0 l1 l2 l3 ((XT.ushr x2 (2 : Int32)) &&& (3 : Int32))))), .val (.int (spec5 (oGet4 l0 l1 l2 l3 (x2 &&& (3 : Int32))) (oGet4 l0 l1 l2 l3 ((XT.ushr x2 (2 : Int32)) &&& (3 : Int32)))))] [(.int (spec6 (x2 &&& (3 : Int32)) ((XT.ushr x2 (2 : Int32)) &&& (3 : Int32)) p1 p2 p3))])) st78 ?_
            have N78_ := Fr.app N77 N78
            have K79 := Kc78
            have F81 := F72.keep K79
            have F82 := F73.keep K79 (ninS ne_pa nin0)
            have F84 := F75.keep K79 (ninS (Ne.symm ne_pl) nin0)
            have Z85 := Nat.le_trans Z77 K79.1
            have K86 := K77_.trans K79 (allS (Or.inl (List.mem_of_getElem? (i := 0) rfl)) all0)
            have hI78 : oFor (arr6_pa_1 (x2 &&& (3 : Int32)) ((XT.ushr x2 (2 : Int32)) &&& (3 : Int32)) p1 p2 p3) (arr6_pa_2 (x2 &&& (3 : Int32)) ((XT.ushr x2 (2 : Int32)) &&& (3 : Int32)) p1 p2 p3) (arr6_pa_3 (x2 &&& (3 : Int32)) ((XT.ushr x2 (2 : Int32)) &&& (3 : Int32)) p1 p2 p3) := own_for_join F71 (own_and3 x2) (own_and3 (XT.ushr x2 (2 : Int32)))
            have X78 := o_flat X78 rfl rfl
            refine o_iload (pc' := 115) X78 hx (hb hby d3_113) rfl rfl ?_
            have J88 : ∀ (v89 : Int32), v89 = (if (spec6 (x2 &&& (3 : Int32)) ((XT.ushr x2 (2 : Int32)) &&& (3 : Int32)) p1 p2 p3) = v3 then (1 : Int32) else (0 : Int32)) → oGo p e below (oG s (fun v h L => v = some (.int (spec3 x2 p1 p2 p3 l0 l1 l2 l3)) ∧ Fr n0 L ∧ Keep h0 h [pa, la] ∧ oInts Z h pa [(0 : Int32), (arr6_pa_1 (x2 &&& (3 : Int32)) ((XT.ushr x2 (2 : Int32)) &&& (3 : Int32)) p1 p2 p3), (arr6_pa_2 (x2 &&& (3 : Int32)) ((XT.ushr x2 (2 : Int32)) &&& (3 : Int32)) p1 p2 p3), (arr6_pa_3 (x2 &&& (3 : Int32)) ((XT.ushr x2 (2 : Int32)) &&& (3 : Int32)) p1 p2 p3)] ∧ oInts Z h la [(arr3_la_0 x2 l0 l1 l2 l3), (arr3_la_1 x2 l0 l1 l2 l3), (arr3_la_2 x2 l0 l1 l2 l3), (arr3_la_3 x2 l0 l1 l2 l3)]) room3.cells room3.slots) T78 (mkF m 123 #[.val (.ref a1), .val (.ref la), .val (.int x2), .val (.int (x2 &&& (3 : Int32))), .val (.int ((XT.ushr x2 (2 : Int32)) &&& (3 : Int32))), .val (.int (oGet4 l0 l1 l2 l3 (x2 &&& (3 : Int32)))), .val (.int (oGet4 l0 l1 l2 l3 ((XT.ushr x2 (2 : Int32)) &&& (3 : Int32)))), .val (.int v3), .val (.int (spec4 (oGet4 l0 l1 l2 l3 (x2 &&& (3 : Int32))) (oGet4 l0 l1 l2 l3 ((XT.ushr x2 (2 : Int32)) &&& (3 : Int32))))), .val (.int (spec5 (oGet4 l0 l1 l2 l3 (x2 &&& (3 : Int32))) (oGet4 l0 l1 l2 l3 ((XT.ushr x2 (2 : Int32)) &&& (3 : Int32)))))] [(.int v89)]) := by
              intro v89 hv89
              refine o_retZ X78 hx hret hlk (hb hby d3_123) (by rw [hv89]; (repeat' split) <;> (first | rfl | assumption)) (by decide) (by decide) ?_
              subst hv89 hv76 hv58 hv40 hv22 hv3
              skip
              exact ⟨rfl, N78_, K86, A78_pa, F84⟩
            by_cases c87 : (spec6 (x2 &&& (3 : Int32)) ((XT.ushr x2 (2 : Int32)) &&& (3 : Int32)) p1 p2 p3) = v3
            · refine o_icmpF (pc' := 118) X78 hx (hb hby d3_115) (XT.ii_ne_f c87) rfl ?_
              refine o_iconst (pc' := 119) (v := (1 : Int32)) X78 hx (hb hby d3_118) rfl rfl ?_
              refine o_goto (pc' := 123) X78 hx (hb hby d3_119) (by decide) (by decide) ?_
              exact J88 _ (if_pos c87).symm
            · refine o_icmpT (pc' := 122) X78 hx (hb hby d3_115) (XT.ii_ne_t c87) (by decide) (by decide) ?_
              refine o_iconst (pc' := 123) (v := (0 : Int32)) X78 hx (hb hby d3_122) rfl rfl ?_
              exact J88 _ (if_neg c87).symm
          by_cases c60 : l3 = (spec5 (oGet4 l0 l1 l2 l3 (x2 &&& (3 : Int32))) (oGet4 l0 l1 l2 l3 ((XT.ushr x2 (2 : Int32)) &&& (3 : Int32))))
          · refine o_icmpF (pc' := 101) X59 hx (hb hby d3_98) (XT.ii_ne_f c60) rfl ?_
            refine o_aloadN (pc' := 102) X59 hx (hb hby d3_101) rfl rfl rfl ?_
            refine o_iconst (pc' := 103) (v := (3 : Int32)) X59 hx (hb hby d3_102) rfl rfl ?_
            refine o_iload (pc' := 105) X59 hx (hb hby d3_103) rfl rfl ?_
            obtain ⟨T62, h62_, X62, e62, W62, st62⟩ := o_iastore (x := (spec4 (oGet4 l0 l1 l2 l3 (x2 &&& (3 : Int32))) (oGet4 l0 l1 l2 l3 ((XT.ushr x2 (2 : Int32)) &&& (3 : Int32))))) (j := (3 : Int32)) (Ls := #[.val (.ref a1), .val (.ref la), .val (.int x2), .val (.int (x2 &&& (3 : Int32))), .val (.int ((XT.ushr x2 (2 : Int32)) &&& (3 : Int32))), .val (.int (oGet4 l0 l1 l2 l3 (x2 &&& (3 : Int32)))), .val (.int (oGet4 l0 l1 l2 l3 ((XT.ushr x2 (2 : Int32)) &&& (3 : Int32)))), .val (.int v3), .val (.int (spec4 (oGet4 l0 l1 l2 l3 (x2 &&& (3 : Int32))) (oGet4 l0 l1 l2 l3 ((XT.ushr x2 (2 : Int32)) &&& (3 : Int32))))), .val (.int (spec5 (oGet4 l0 l1 l2 l3 (x2 &&& (3 : Int32))) (oGet4 l0 l1 l2 l3 ((XT.ushr x2 (2 : Int32)) &&& (3 : Int32)))))]) (st := []) X59 hx hZ e59 F57 (hb hby d3_105) (by decide) (show _ < 4 by decide) rfl
            refine oGo.step (f' := (mkF m 106 #[.val (.ref a1), .val (.ref la), .val (.int x2), .val (.int (x2 &&& (3 : Int32))), .val (.int ((XT.ushr x2 (2 : Int32)) &&& (3 : Int32))), .val (.int (oGet4 l0 l1 l2 l3 (x2 &&& (3 : Int32)))), .val (.int (oGet4 l0 l1 l2 l3 ((XT.ushr x2 (2 : Int32)) &&& (3 : Int32)))), .val (.int v3), .val (.int (spec4 (oGet4 l0 l1 l2 l3 (x2 &&& (3 : Int32))) (oGet4 l0 l1 l2 l3 ((XT.ushr x2 (2 : Int32)) &&& (3 : Int32))))), .val (.int (spec5 (oGet4 l0 l1 l2 l3 (x2 &&& (3 : Int32))) (oGet4 l0 l1 l2 l3 ((XT.ushr x2 (2 : Int32)) &&& (3 : Int32)))))] [])) st62 ?_
            have N62 := Fr.snoc X62 N59 ge_la
            have F63 := F57.set W62
            replace F63 : oInts Z h62_ la [v22, v40, v58, (spec4 (oGet4 l0 l1 l2 l3 (x2 &&& (3 : Int32))) (oGet4 l0 l1 l2 l3 ((XT.ushr x2 (2 : Int32)) &&& (3 : Int32))))] := F63
            have K64 := Keep.of_wr W62
            have F66 := F54.keep K64
            have F67 := F55.keep K64 (ninS ne_la nin0)
            have F68 := F56.keep K64 (ninS ne_pl nin0)
            have Z69 := Nat.le_trans Z59 K64.1
            have K70 := K59_.trans K64 (allS (Or.inl (List.mem_of_getElem? (i := 1) rfl)) all0)
            exact J61 T62 h62_ _ X62 e62 N62 Z69 K70 _ (if_pos c60).symm F53 F66 F67 F68 F63
          · refine o_icmpT (pc' := 106) X59 hx (hb hby d3_98) (XT.ii_ne_t c60) (by decide) (by decide) ?_
            exact J61 T59 h59_ _ X59 e59 N59 Z59 K59_ _ (if_neg c60).symm F53 F54 F55 F56 F57
        by_cases c42 : l2 = (spec5 (oGet4 l0 l1 l2 l3 (x2 &&& (3 : Int32))) (oGet4 l0 l1 l2 l3 ((XT.ushr x2 (2 : Int32)) &&& (3 : Int32))))
        · refine o_icmpF (pc' := 88) X41 hx (hb hby d3_85) (XT.ii_ne_f c42) rfl ?_
          refine o_aloadN (pc' := 89) X41 hx (hb hby d3_88) rfl rfl rfl ?_
          refine o_iconst (pc' := 90) (v := (2 : Int32)) X41 hx (hb hby d3_89) rfl rfl ?_
          refine o_iload (pc' := 92) X41 hx (hb hby d3_90) rfl rfl ?_
          obtain ⟨T44, h44_, X44, e44, W44, st44⟩ := o_iastore (x := (spec4 (oGet4 l0 l1 l2 l3 (x2 &&& (3 : Int32))) (oGet4 l0 l1 l2 l3 ((XT.ushr x2 (2 : Int32)) &&& (3 : Int32))))) (j := (2 : Int32)) (Ls := #[.val (.ref a1), .val (.ref la), .val (.int x2), .val (.int (x2 &&& (3 : Int32))), .val (.int ((XT.ushr x2 (2 : Int32)) &&& (3 : Int32))), .val (.int (oGet4 l0 l1 l2 l3 (x2 &&& (3 : Int32)))), .val (.int (oGet4 l0 l1 l2 l3 ((XT.ushr x2 (2 : Int32)) &&& (3 : Int32)))), .val (.int v3), .val (.int (spec4 (oGet4 l0 l1 l2 l3 (x2 &&& (3 : Int32))) (oGet4 l0 l1 l2 l3 ((XT.ushr x2 (2 : Int32)) &&& (3 : Int32))))), .val (.int (spec5 (oGet4 l0 l1 l2 l3 (x2 &&& (3 : Int32))) (oGet4 l0 l1 l2 l3 ((XT.ushr x2 (2 : Int32)) &&& (3 : Int32)))))]) (st := []) X41 hx hZ e41 F39 (hb hby d3_92) (by decide) (show _ < 4 by decide) rfl
          refine oGo.step (f' := (mkF m 93 #[.val (.ref a1), .val (.ref la), .val (.int x2), .val (.int (x2 &&& (3 : Int32))), .val (.int ((XT.ushr x2 (2 : Int32)) &&& (3 : Int32))), .val (.int (oGet4 l0 l1 l2 l3 (x2 &&& (3 : Int32)))), .val (.int (oGet4 l0 l1 l2 l3 ((XT.ushr x2 (2 : Int32)) &&& (3 : Int32)))), .val (.int v3), .val (.int (spec4 (oGet4 l0 l1 l2 l3 (x2 &&& (3 : Int32))) (oGet4 l0 l1 l2 l3 ((XT.ushr x2 (2 : Int32)) &&& (3 : Int32))))), .val (.int (spec5 (oGet4 l0 l1 l2 l3 (x2 &&& (3 : Int32))) (oGet4 l0 l1 l2 l3 ((XT.ushr x2 (2 : Int32)) &&& (3 : Int32)))))] [])) st44 ?_
          have N44 := Fr.snoc X44 N41 ge_la
          have F45 := F39.set W44
          replace F45 : oInts Z h44_ la [v22, v40, (spec4 (oGet4 l0 l1 l2 l3 (x2 &&& (3 : Int32))) (oGet4 l0 l1 l2 l3 ((XT.ushr x2 (2 : Int32)) &&& (3 : Int32)))), l3] := F45
          have K46 := Keep.of_wr W44
          have F48 := F36.keep K46
          have F49 := F37.keep K46 (ninS ne_la nin0)
          have F50 := F38.keep K46 (ninS ne_pl nin0)
          have Z51 := Nat.le_trans Z41 K46.1
          have K52 := K41_.trans K46 (allS (Or.inl (List.mem_of_getElem? (i := 1) rfl)) all0)
          exact J43 T44 h44_ _ X44 e44 N44 Z51 K52 _ (if_pos c42).symm F35 F48 F49 F50 F45
        · refine o_icmpT (pc' := 93) X41 hx (hb hby d3_85) (XT.ii_ne_t c42) (by decide) (by decide) ?_
          exact J43 T41 h41_ _ X41 e41 N41 Z41 K41_ _ (if_neg c42).symm F35 F36 F37 F38 F39
      by_cases c24 : l1 = (spec5 (oGet4 l0 l1 l2 l3 (x2 &&& (3 : Int32))) (oGet4 l0 l1 l2 l3 ((XT.ushr x2 (2 : Int32)) &&& (3 : Int32))))
      · refine o_icmpF (pc' := 75) X23 hx (hb hby d3_72) (XT.ii_ne_f c24) rfl ?_
        refine o_aloadN (pc' := 76) X23 hx (hb hby d3_75) rfl rfl rfl ?_
        refine o_iconst (pc' := 77) (v := (1 : Int32)) X23 hx (hb hby d3_76) rfl rfl ?_
        refine o_iload (pc' := 79) X23 hx (hb hby d3_77) rfl rfl ?_
        obtain ⟨T26, h26_, X26, e26, W26, st26⟩ := o_iastore (x := (spec4 (oGet4 l0 l1 l2 l3 (x2 &&& (3 : Int32))) (oGet4 l0 l1 l2 l3 ((XT.ushr x2 (2 : Int32)) &&& (3 : Int32))))) (j := (1 : Int32)) (Ls := #[.val (.ref a1), .val (.ref la), .val (.int x2), .val (.int (x2 &&& (3 : Int32))), .val (.int ((XT.ushr x2 (2 : Int32)) &&& (3 : Int32))), .val (.int (oGet4 l0 l1 l2 l3 (x2 &&& (3 : Int32)))), .val (.int (oGet4 l0 l1 l2 l3 ((XT.ushr x2 (2 : Int32)) &&& (3 : Int32)))), .val (.int v3), .val (.int (spec4 (oGet4 l0 l1 l2 l3 (x2 &&& (3 : Int32))) (oGet4 l0 l1 l2 l3 ((XT.ushr x2 (2 : Int32)) &&& (3 : Int32))))), .val (.int (spec5 (oGet4 l0 l1 l2 l3 (x2 &&& (3 : Int32))) (oGet4 l0 l1 l2 l3 ((XT.ushr x2 (2 : Int32)) &&& (3 : Int32)))))]) (st := []) X23 hx hZ e23 F21 (hb hby d3_79) (by decide) (show _ < 4 by decide) rfl
        refine oGo.step (f' := (mkF m 80 #[.val (.ref a1), .val (.ref la), .val (.int x2), .val (.int (x2 &&& (3 : Int32))), .val (.int ((XT.ushr x2 (2 : Int32)) &&& (3 : Int32))), .val (.int (oGet4 l0 l1 l2 l3 (x2 &&& (3 : Int32)))), .val (.int (oGet4 l0 l1 l2 l3 ((XT.ushr x2 (2 : Int32)) &&& (3 : Int32)))), .val (.int v3), .val (.int (spec4 (oGet4 l0 l1 l2 l3 (x2 &&& (3 : Int32))) (oGet4 l0 l1 l2 l3 ((XT.ushr x2 (2 : Int32)) &&& (3 : Int32))))), .val (.int (spec5 (oGet4 l0 l1 l2 l3 (x2 &&& (3 : Int32))) (oGet4 l0 l1 l2 l3 ((XT.ushr x2 (2 : Int32)) &&& (3 : Int32)))))] [])) st26 ?_
        have N26 := Fr.snoc X26 N23 ge_la
        have F27 := F21.set W26
        replace F27 : oInts Z h26_ la [v22, (spec4 (oGet4 l0 l1 l2 l3 (x2 &&& (3 : Int32))) (oGet4 l0 l1 l2 l3 ((XT.ushr x2 (2 : Int32)) &&& (3 : Int32)))), l2, l3] := F27
        have K28 := Keep.of_wr W26
        have F30 := F18.keep K28
        have F31 := F19.keep K28 (ninS ne_la nin0)
        have F32 := F20.keep K28 (ninS ne_pl nin0)
        have Z33 := Nat.le_trans Z23 K28.1
        have K34 := K23_.trans K28 (allS (Or.inl (List.mem_of_getElem? (i := 1) rfl)) all0)
        exact J25 T26 h26_ _ X26 e26 N26 Z33 K34 _ (if_pos c24).symm F17 F30 F31 F32 F27
      · refine o_icmpT (pc' := 80) X23 hx (hb hby d3_72) (XT.ii_ne_t c24) (by decide) (by decide) ?_
        exact J25 T23 h23_ _ X23 e23 N23 Z23 K23_ _ (if_neg c24).symm F17 F18 F19 F20 F21
    by_cases c6 : l0 = (spec5 (oGet4 l0 l1 l2 l3 (x2 &&& (3 : Int32))) (oGet4 l0 l1 l2 l3 ((XT.ushr x2 (2 : Int32)) &&& (3 : Int32))))
    · refine o_icmpF (pc' := 62) X5 hx (hb hby d3_59) (XT.ii_ne_f c6) rfl ?_
      refine o_aloadN (pc' := 63) X5 hx (hb hby d3_62) rfl rfl rfl ?_
      refine o_iconst (pc' := 64) (v := (0 : Int32)) X5 hx (hb hby d3_63) rfl rfl ?_
      refine o_iload (pc' := 66) X5 hx (hb hby d3_64) rfl rfl ?_
      obtain ⟨T8, h8_, X8, e8, W8, st8⟩ := o_iastore (x := (spec4 (oGet4 l0 l1 l2 l3 (x2 &&& (3 : Int32))) (oGet4 l0 l1 l2 l3 ((XT.ushr x2 (2 : Int32)) &&& (3 : Int32))))) (j := (0 : Int32)) (Ls := #[.val (.ref a1), .val (.ref la), .val (.int x2), .val (.int (x2 &&& (3 : Int32))), .val (.int ((XT.ushr x2 (2 : Int32)) &&& (3 : Int32))), .val (.int (oGet4 l0 l1 l2 l3 (x2 &&& (3 : Int32)))), .val (.int (oGet4 l0 l1 l2 l3 ((XT.ushr x2 (2 : Int32)) &&& (3 : Int32)))), .val (.int v3), .val (.int (spec4 (oGet4 l0 l1 l2 l3 (x2 &&& (3 : Int32))) (oGet4 l0 l1 l2 l3 ((XT.ushr x2 (2 : Int32)) &&& (3 : Int32))))), .val (.int (spec5 (oGet4 l0 l1 l2 l3 (x2 &&& (3 : Int32))) (oGet4 l0 l1 l2 l3 ((XT.ushr x2 (2 : Int32)) &&& (3 : Int32)))))]) (st := []) X5 hx hZ e5 A_la (hb hby d3_66) (by decide) (show _ < 4 by decide) rfl
      refine oGo.step (f' := (mkF m 67 #[.val (.ref a1), .val (.ref la), .val (.int x2), .val (.int (x2 &&& (3 : Int32))), .val (.int ((XT.ushr x2 (2 : Int32)) &&& (3 : Int32))), .val (.int (oGet4 l0 l1 l2 l3 (x2 &&& (3 : Int32)))), .val (.int (oGet4 l0 l1 l2 l3 ((XT.ushr x2 (2 : Int32)) &&& (3 : Int32)))), .val (.int v3), .val (.int (spec4 (oGet4 l0 l1 l2 l3 (x2 &&& (3 : Int32))) (oGet4 l0 l1 l2 l3 ((XT.ushr x2 (2 : Int32)) &&& (3 : Int32))))), .val (.int (spec5 (oGet4 l0 l1 l2 l3 (x2 &&& (3 : Int32))) (oGet4 l0 l1 l2 l3 ((XT.ushr x2 (2 : Int32)) &&& (3 : Int32)))))] [])) st8 ?_
      have N8 := Fr.snoc X8 N0 ge_la
      have F9 := A_la.set W8
      replace F9 : oInts Z h8_ la [(spec4 (oGet4 l0 l1 l2 l3 (x2 &&& (3 : Int32))) (oGet4 l0 l1 l2 l3 ((XT.ushr x2 (2 : Int32)) &&& (3 : Int32)))), l1, l2, l3] := F9
      have K10 := Keep.of_wr W8
      have F12 := E0.keep K10
      have F13 := F_parent.keep K10 (ninS ne_la nin0)
      have F14 := A_pa.keep K10 (ninS ne_pl nin0)
      have Z15 := Nat.le_trans Z0 K10.1
      have K16 := K0.trans K10 (allS (Or.inl (List.mem_of_getElem? (i := 1) rfl)) all0)
      exact J7 T8 h8_ _ X8 e8 N8 Z15 K16 _ (if_pos c6).symm hI F12 F13 F14 F9
    · refine o_icmpT (pc' := 67) X5 hx (hb hby d3_59) (XT.ii_ne_t c6) (by decide) (by decide) ?_
      exact J7 T5 h0 _ X5 e5 N0 Z0 K0 _ (if_neg c6).symm hI E0 F_parent A_pa A_la
  by_cases c1 : (oGet4 l0 l1 l2 l3 (x2 &&& (3 : Int32))) = (oGet4 l0 l1 l2 l3 ((XT.ushr x2 (2 : Int32)) &&& (3 : Int32)))
  · refine o_icmpT (pc' := 33) X0 hx (hb hby d3_26) (XT.ii_eq_t c1) (by decide) (by decide) ?_
    refine o_iconst (pc' := 34) (v := (0 : Int32)) X0 hx (hb hby d3_33) rfl rfl ?_
    exact J2 _ (if_pos c1).symm
  · refine o_icmpF (pc' := 29) X0 hx (hb hby d3_26) (XT.ii_eq_f c1) rfl ?_
    refine o_iconst (pc' := 30) (v := (1 : Int32)) X0 hx (hb hby d3_29) rfl rfl ?_
    refine o_goto (pc' := 34) X0 hx (hb hby d3_30) (by decide) (by decide) ?_
    exact J2 _ (if_neg c1).symm
def oLab (p1 p2 p3 l0 l1 l2 l3 : Int32) : Prop := l0 = 0 ∧ l1 = p1 ∧ l2 = oR2 p1 p2 ∧ l3 = oR3 p1 p2 p3
def bStep (p1 p2 p3 x y : Int32) : Bool :=
  decide (spec6 x y p1 p2 p3 = (if (oGet4 0 p1 (oR2 p1 p2) (oR3 p1 p2 p3) x) = (oGet4 0 p1 (oR2 p1 p2) (oR3 p1 p2 p3) y) then (0 : Int32) else (1 : Int32))) &&
  decide ((if 0 = (spec5 (oGet4 0 p1 (oR2 p1 p2) (oR3 p1 p2 p3) x) (oGet4 0 p1 (oR2 p1 p2) (oR3 p1 p2 p3) y)) then (spec4 (oGet4 0 p1 (oR2 p1 p2) (oR3 p1 p2 p3) x) (oGet4 0 p1 (oR2 p1 p2) (oR3 p1 p2 p3) y)) else 0) = 0) &&
  decide ((if p1 = (spec5 (oGet4 0 p1 (oR2 p1 p2) (oR3 p1 p2 p3) x) (oGet4 0 p1 (oR2 p1 p2) (oR3 p1 p2 p3) y)) then (spec4 (oGet4 0 p1 (oR2 p1 p2) (oR3 p1 p2 p3) x) (oGet4 0 p1 (oR2 p1 p2) (oR3 p1 p2 p3) y)) else p1) = arr6_pa_1 x y p1 p2 p3) &&
  decide ((if oR2 p1 p2 = (spec5 (oGet4 0 p1 (oR2 p1 p2) (oR3 p1 p2 p3) x) (oGet4 0 p1 (oR2 p1 p2) (oR3 p1 p2 p3) y)) then (spec4 (oGet4 0 p1 (oR2 p1 p2) (oR3 p1 p2 p3) x) (oGet4 0 p1 (oR2 p1 p2) (oR3 p1 p2 p3) y)) else oR2 p1 p2) = oR2 (arr6_pa_1 x y p1 p2 p3) (arr6_pa_2 x y p1 p2 p3)) &&
  decide ((if oR3 p1 p2 p3 = (spec5 (oGet4 0 p1 (oR2 p1 p2) (oR3 p1 p2 p3) x) (oGet4 0 p1 (oR2 p1 p2) (oR3 p1 p2 p3) y)) then (spec4 (oGet4 0 p1 (oR2 p1 p2) (oR3 p1 p2 p3) x) (oGet4 0 p1 (oR2 p1 p2) (oR3 p1 p2 p3) y)) else oR3 p1 p2 p3) = oR3 (arr6_pa_1 x y p1 p2 p3) (arr6_pa_2 x y p1 p2 p3) (arr6_pa_3 x y p1 p2 p3))
theorem own_tab3 : ∀ a, a < 2 → ∀ b, b < 3 → ∀ c, c < 4 → ∀ x, x < 4 → ∀ y, y < 4 → bStep (Int32.ofNat a) (Int32.ofNat b) (Int32.ofNat c) (Int32.ofNat x) (Int32.ofNat y) = true := by decide +kernel
theorem own_step {p1 p2 p3 l0 l1 l2 l3 : Int32} (j : Int32) (I : oFor p1 p2 p3) (L : oLab p1 p2 p3 l0 l1 l2 l3) : spec3 j p1 p2 p3 l0 l1 l2 l3 = 1 ∧ oLab (arr6_pa_1 (j &&& (3 : Int32)) ((XT.ushr j (2 : Int32)) &&& (3 : Int32)) p1 p2 p3) (arr6_pa_2 (j &&& (3 : Int32)) ((XT.ushr j (2 : Int32)) &&& (3 : Int32)) p1 p2 p3) (arr6_pa_3 (j &&& (3 : Int32)) ((XT.ushr j (2 : Int32)) &&& (3 : Int32)) p1 p2 p3) (arr3_la_0 j l0 l1 l2 l3) (arr3_la_1 j l0 l1 l2 l3) (arr3_la_2 j l0 l1 l2 l3) (arr3_la_3 j l0 l1 l2 l3) := by
  obtain ⟨rfl, rfl, rfl, rfl⟩ := L
  have h1 := own_and3 j
  have h2 := own_and3 (XT.ushr j (2 : Int32))
  unfold spec3 arr3_la_0 arr3_la_1 arr3_la_2 arr3_la_3
  generalize (j &&& (3 : Int32)) = x at *
  generalize ((XT.ushr j (2 : Int32)) &&& (3 : Int32)) = y at *
  obtain ⟨a, b, c, ha, hb, hc, rfl, rfl, rfl⟩ := own_fn I
  obtain ⟨x, hx, rfl⟩ := own_dn h1
  obtain ⟨y, hy, rfl⟩ := own_dn h2
  have T := own_tab3 a ha b hb c hc x hx y hy
  simp only [bStep, Bool.and_eq_true, decide_eq_true_eq] at T
  obtain ⟨⟨⟨⟨t1, t2⟩, t3⟩, t4⟩, t5⟩ := T
  exact ⟨if_pos t1, t2, t3, t4, t5⟩
def bRoot (p1 p2 p3 x : Int32) : Bool := decide (oR2 p1 (oP2 p1 p2 p3 x) = oR2 p1 p2) && decide (oR3 p1 (oP2 p1 p2 p3 x) (oP3 p1 p2 p3 x) = oR3 p1 p2 p3) && decide (oRoot p1 p2 p3 x = oGet4 0 p1 (oR2 p1 p2) (oR3 p1 p2 p3) x)
theorem own_tab4 : ∀ a, a < 2 → ∀ b, b < 3 → ∀ c, c < 4 → ∀ x, x < 4 → bRoot (Int32.ofNat a) (Int32.ofNat b) (Int32.ofNat c) (Int32.ofNat x) = true := by decide +kernel
theorem own_ask {p1 p2 p3 l0 l1 l2 l3 x : Int32} (I : oFor p1 p2 p3) (q : oD x) (L : oLab p1 p2 p3 l0 l1 l2 l3) : oRoot p1 p2 p3 x = oGet4 l0 l1 l2 l3 x ∧ oLab p1 (oP2 p1 p2 p3 x) (oP3 p1 p2 p3 x) l0 l1 l2 l3 := by
  obtain ⟨rfl, rfl, rfl, rfl⟩ := L
  obtain ⟨a, b, c, ha, hb, hc, rfl, rfl, rfl⟩ := own_fn I
  obtain ⟨y, hy, rfl⟩ := own_dn q
  have T := own_tab4 a ha b hb c hc y hy
  simp only [bRoot, Bool.and_eq_true, decide_eq_true_eq] at T
  exact ⟨T.2, rfl, rfl, T.1.1.symm, T.1.2.symm⟩
theorem own_lab0 : oLab 1 2 3 0 1 2 3 := ⟨rfl, rfl, rfl, rfl⟩
theorem ef_0 (m : MethodId) (x0 : Int32) (x1 : Int32) (x2 : Int32) (x3 : Int32) : entryFrame m #[(.int x0), (.int x1), (.int x2), (.int x3)] maxLocals = mkF m 0 #[.val (.int x0), .val (.int x1), .val (.int x2), .val (.int x3), .unset, .unset, .unset, .unset] [] := by first | (simp [entryFrame, mkF, argsToLocals, Value.category, maxLocals]; done) | rfl
theorem pd3 : parseMethodDescriptor "(I)V" = some ⟨[.int], none⟩ := by decide +kernel
theorem pd4 : parseMethodDescriptor "(Lcom/example/glyphweave/glyphweave/DisjointSets;[II)Z" = some ⟨[(.object "com/example/glyphweave/glyphweave/DisjointSets"), (.array .int), .int], (some .boolean)⟩ := by decide +kernel

set_option maxRecDepth 65536 in
set_option maxHeartbeats 40000000 in
theorem rm0 (l : Launch) (Z : State) (a0 : Array Value) (hw : ∀ d ∈ tables_1, d.before a0 Z = true) (x0 : Int32) (x1 : Int32) (x2 : Int32) (x3 : Int32) (h0 : Heap) (n0 : Nat) (Z0 : n0 ≤ h0.size)  :
    oCon l Z x code maxLocals ret room_1 #[(.int x0), (.int x1), (.int x2), (.int x3)] h0 (fun v h L => v = some (.int 1) ∧ Fr n0 L) := by
  refine oCon.of (plainFor_of_name pn_3) ?_
  intro p e s m below meth c s₁ hx hby hml hown hnm hret hlk hZ X0 e0
  replace hml : c.maxLocals = 8 := hml
  rw [ef_0 m x0 x1 x2 x3]
  have N0 := Fr.nil n0
  obtain ⟨T1, h1_, X1, e1, E1, A1, D1, -, st1⟩ := newO X0 hx hZ hown (hw _ (List.mem_of_getElem? (i := 0) rfl)) (hw _ (List.mem_of_getElem? (i := 1) rfl)) (hw _ (List.mem_of_getElem? (i := 2) rfl)) e0 (g := (mkF m 0 #[.val (.int x0), .val (.int x1), .val (.int x2), .val (.int x3), .unset, .unset, .unset, .unset] [])) rfl (hb hby at_0) (by decide) (by decide)
  obtain ⟨b1, g1⟩ : ∃ z, z = h0.size := ⟨_, rfl⟩
  rw [← g1] at A1 D1 st1
  have ge2 : n0 ≤ b1 := by rw [g1]; exact Z0
  have K3 := (Keep.refl h0 []).ext E1
  have Z4 := Nat.le_trans Z0 K3.1
  have F5 : Fld Z h1_ b1 "com/example/glyphweave/glyphweave/DisjointSets" "parent" "[I" .null := D1 (Or.inr (hw _ (List.mem_of_getElem? (i := 11) rfl))) (ty := (.array .int)) (by decide)
  refine oGo.step (f' := (mkF m 3 #[.val (.int x0), .val (.int x1), .val (.int x2), .val (.int x3), .unset, .unset, .unset, .unset] [(.ref b1)])) st1 ?_
  refine o_dup (pc' := 4) X1 hx (hb hby at_3) rfl rfl ?_
  refine o_iconst (pc' := 5) (v := (4 : Int32)) X1 hx (hb hby at_4) rfl rfl ?_
  obtain ⟨r6, T6, L6, X6, hq6, st6⟩ := o_callN X1 hx hZ hown rfl (hw _ (List.mem_of_getElem? (i := 3) rfl)) (hw _ (List.mem_of_getElem? (i := 4) rfl)) (hw _ (List.mem_of_getElem? (i := 2) rfl)) (hw _ (List.mem_of_getElem? (i := 5) rfl)) (by decide) (rm1 l Z a0 hw b1 h1_ n0 Z4 A1 F5 ge2) e1 (pc' := 8) (Ls := #[.val (.int x0), .val (.int x1), .val (.int x2), .val (.int x3), .unset, .unset, .unset, .unset]) (by rw [hml]; rfl) [(.int (4 : Int32))] [(.ref b1)] rfl pd3 rfl rfl 1 (Nat.le_of_eq rfl) (hb hby at_5) rfl (by decide) (by decide) (by decide) (by decide)
  obtain ⟨rfl, N6, Kc6, E6_, F6_, A6_⟩ := hq6
  refine oGo.step (f' := (mkF m 8 #[.val (.int x0), .val (.int x1), .val (.int x2), .val (.int x3), .unset, .unset, .unset, .unset] [(.ref b1)])) st6 ?_
  have N6_ := Fr.app N0 N6
  have K7 := Kc6
  have F8 := A1.keep K7
  have Z10 := Nat.le_trans Z4 K7.1
  have ne_pa : b1 ≠ h1_.size := Nat.ne_of_lt A1.lt
  have ge_pa : n0 ≤ h1_.size := Z4
  obtain ⟨pa, g_pa⟩ : ∃ z, z = h1_.size := ⟨_, rfl⟩
  rw [← g_pa] at ne_pa ge_pa F6_ A6_
  refine o_astore (pc' := 10) (l' := #[.val (.int x0), .val (.int x1), .val (.int x2), .val (.int x3), .val (.ref b1), .unset, .unset, .unset]) X6 hx (hb hby at_8) rfl rfl rfl ?_
  refine o_iconst (pc' := 11) (v := (4 : Int32)) X6 hx (hb hby at_10) rfl rfl ?_
  obtain ⟨T11, h11_, X11, e11, E11, A11, st11⟩ := o_newI (Ls := #[.val (.int x0), .val (.int x1), .val (.int x2), .val (.int x3), .val (.ref b1), .unset, .unset, .unset]) (st := []) (n := (4 : Int32)) X6 hx hZ (hw _ (List.mem_of_getElem? (i := 9) rfl)) (rfl : T6.heap = _) (hb hby at_11) (by decide) 4 (by decide) (by decide) (by decide) (by decide) rfl
  obtain ⟨b11, g11⟩ : ∃ z, z = T6.heap.size := ⟨_, rfl⟩
  rw [← g11] at A11 st11
  replace A11 : oInts Z h11_ b11 [(0 : Int32), (0 : Int32), (0 : Int32), (0 : Int32)] := A11
  have ne12 : b1 ≠ b11 := by rw [g11]; exact Nat.ne_of_lt E6_.lt
  have ne13 : pa ≠ b11 := by rw [g11]; exact Nat.ne_of_lt A6_.lt
  have ge14 : n0 ≤ b11 := by rw [g11]; exact Z10
  have K15 := (Keep.refl T6.heap []).ext E11
  have F16 := E6_.keep K15
  have F17 := F6_.keep K15 nin0
  have F18 := A6_.keep K15 nin0
  have Z20 := Nat.le_trans Z10 K15.1
  refine oGo.step (f' := (mkF m 13 #[.val (.int x0), .val (.int x1), .val (.int x2), .val (.int x3), .val (.ref b1), .unset, .unset, .unset] [(.ref b11)])) st11 ?_
  refine o_dup (pc' := 14) X11 hx (hb hby at_13) rfl rfl ?_
  refine o_iconst (pc' := 15) (v := (0 : Int32)) X11 hx (hb hby at_14) rfl rfl ?_
  refine o_iconst (pc' := 16) (v := (0 : Int32)) X11 hx (hb hby at_15) rfl rfl ?_
  obtain ⟨T21, h21_, X21, e21, W21, st21⟩ := o_iastore (x := (0 : Int32)) (j := (0 : Int32)) (Ls := #[.val (.int x0), .val (.int x1), .val (.int x2), .val (.int x3), .val (.ref b1), .unset, .unset, .unset]) (st := [(.ref b11)]) X11 hx hZ e11 A11 (hb hby at_16) (by decide) (show _ < 4 by decide) rfl
  refine oGo.step (f' := (mkF m 17 #[.val (.int x0), .val (.int x1), .val (.int x2), .val (.int x3), .val (.ref b1), .unset, .unset, .unset] [(.ref b11)])) st21 ?_
  have N21 := Fr.snoc X21 N6_ ge14
  have F22 := A11.set W21
  replace F22 : oInts Z h21_ b11 [(0 : Int32), (0 : Int32), (0 : Int32), (0 : Int32)] := F22
  have K23 := Keep.of_wr W21
  have F24 := F16.keep K23
  have F25 := F17.keep K23 (ninS ne12 nin0)
  have F26 := F18.keep K23 (ninS ne13 nin0)
  have Z28 := Nat.le_trans Z20 K23.1
  refine o_dup (pc' := 18) X21 hx (hb hby at_17) rfl rfl ?_
  refine o_iconst (pc' := 19) (v := (1 : Int32)) X21 hx (hb hby at_18) rfl rfl ?_
  refine o_iconst (pc' := 20) (v := (1 : Int32)) X21 hx (hb hby at_19) rfl rfl ?_
  obtain ⟨T29, h29_, X29, e29, W29, st29⟩ := o_iastore (x := (1 : Int32)) (j := (1 : Int32)) (Ls := #[.val (.int x0), .val (.int x1), .val (.int x2), .val (.int x3), .val (.ref b1), .unset, .unset, .unset]) (st := [(.ref b11)]) X21 hx hZ e21 F22 (hb hby at_20) (by decide) (show _ < 4 by decide) rfl
  refine oGo.step (f' := (mkF m 21 #[.val (.int x0), .val (.int x1), .val (.int x2), .val (.int x3), .val (.ref b1), .unset, .unset, .unset] [(.ref b11)])) st29 ?_
  have N29 := Fr.snoc X29 N21 ge14
  have F30 := F22.set W29
  replace F30 : oInts Z h29_ b11 [(0 : Int32), (1 : Int32), (0 : Int32), (0 : Int32)] := F30
  have K31 := Keep.of_wr W29
  have F32 := F24.keep K31
  have F33 := F25.keep K31 (ninS ne12 nin0)
  have F34 := F26.keep K31 (ninS ne13 nin0)
  have Z36 := Nat.le_trans Z28 K31.1
  refine o_dup (pc' := 22) X29 hx (hb hby at_21) rfl rfl ?_
  refine o_iconst (pc' := 23) (v := (2 : Int32)) X29 hx (hb hby at_22) rfl rfl ?_
  refine o_iconst (pc' := 24) (v := (2 : Int32)) X29 hx (hb hby at_23) rfl rfl ?_
  obtain ⟨T37, h37_, X37, e37, W37, st37⟩ := o_iastore (x := (2 : Int32)) (j := (2 : Int32)) (Ls := #[.val (.int x0), .val (.int x1), .val (.int x2), .val (.int x3), .val (.ref b1), .unset, .unset, .unset]) (st := [(.ref b11)]) X29 hx hZ e29 F30 (hb hby at_24) (by decide) (show _ < 4 by decide) rfl
  refine oGo.step (f' := (mkF m 25 #[.val (.int x0), .val (.int x1), .val (.int x2), .val (.int x3), .val (.ref b1), .unset, .unset, .unset] [(.ref b11)])) st37 ?_
  have N37 := Fr.snoc X37 N29 ge14
  have F38 := F30.set W37
  replace F38 : oInts Z h37_ b11 [(0 : Int32), (1 : Int32), (2 : Int32), (0 : Int32)] := F38
  have K39 := Keep.of_wr W37
  have F40 := F32.keep K39
  have F41 := F33.keep K39 (ninS ne12 nin0)
  have F42 := F34.keep K39 (ninS ne13 nin0)
  have Z44 := Nat.le_trans Z36 K39.1
  refine o_dup (pc' := 26) X37 hx (hb hby at_25) rfl rfl ?_
  refine o_iconst (pc' := 27) (v := (3 : Int32)) X37 hx (hb hby at_26) rfl rfl ?_
  refine o_iconst (pc' := 28) (v := (3 : Int32)) X37 hx (hb hby at_27) rfl rfl ?_
  obtain ⟨T45, h45_, X45, e45, W45, st45⟩ := o_iastore (x := (3 : Int32)) (j := (3 : Int32)) (Ls := #[.val (.int x0), .val (.int x1), .val (.int x2), .val (.int x3), .val (.ref b1), .unset, .unset, .unset]) (st := [(.ref b11)]) X37 hx hZ e37 F38 (hb hby at_28) (by decide) (show _ < 4 by decide) rfl
  refine oGo.step (f' := (mkF m 29 #[.val (.int x0), .val (.int x1), .val (.int x2), .val (.int x3), .val (.ref b1), .unset, .unset, .unset] [(.ref b11)])) st45 ?_
  have N45 := Fr.snoc X45 N37 ge14
  have F46 := F38.set W45
  replace F46 : oInts Z h45_ b11 [(0 : Int32), (1 : Int32), (2 : Int32), (3 : Int32)] := F46
  have K47 := Keep.of_wr W45
  have F48 := F40.keep K47
  have F49 := F41.keep K47 (ninS ne12 nin0)
  have F50 := F42.keep K47 (ninS ne13 nin0)
  have Z52 := Nat.le_trans Z44 K47.1
  refine o_astore (pc' := 31) (l' := #[.val (.int x0), .val (.int x1), .val (.int x2), .val (.int x3), .val (.ref b1), .val (.ref b11), .unset, .unset]) X45 hx (hb hby at_29) rfl rfl rfl ?_
  refine o_iconst (pc' := 32) (v := (1 : Int32)) X45 hx (hb hby at_31) rfl rfl ?_
  refine o_istore (pc' := 34) (l' := #[.val (.int x0), .val (.int x1), .val (.int x2), .val (.int x3), .val (.ref b1), .val (.ref b11), .val (.int (1 : Int32)), .unset]) X45 hx (hb hby at_32) rfl rfl ?_
  refine o_aload (pc' := 36) X45 hx (hb hby at_34) rfl rfl rfl ?_
  refine o_aload (pc' := 38) X45 hx (hb hby at_36) rfl rfl rfl ?_
  refine o_iloadN (pc' := 39) X45 hx (hb hby at_38) rfl rfl ?_
  obtain ⟨r53, T53, L53, X53, hq53, st53⟩ := o_callS X45 hx hZ hown (hw _ (List.mem_of_getElem? (i := 12) rfl)) (hw _ (List.mem_of_getElem? (i := 13) rfl)) (hw _ (List.mem_of_getElem? (i := 14) rfl)) (hw _ (List.mem_of_getElem? (i := 15) rfl)) (by decide) (rm3 l Z a0 hw b1 b11 x0 pa pa (1 : Int32) (2 : Int32) (3 : Int32) (0 : Int32) (1 : Int32) (2 : Int32) (3 : Int32) h45_ n0 Z52 F48 F49 F50 ge_pa ne_pa F46 ge14 ne12 own_for0 ne13) e45 (pc' := 42) (Ls := #[.val (.int x0), .val (.int x1), .val (.int x2), .val (.int x3), .val (.ref b1), .val (.ref b11), .val (.int (1 : Int32)), .unset]) (by rw [hml]; rfl) [(.ref b1), (.ref b11), (.int x0)] [] rfl pd4 rfl rfl 0 (Nat.le_of_eq rfl) (hb hby at_39) rfl (by decide) (by decide) (by decide) (by decide)
  obtain ⟨rfl, N53, Kc53, A53_pa, A53_la⟩ := hq53
  obtain ⟨y54, hy54⟩ : ∃ z, z = (spec3 x0 (1 : Int32) (2 : Int32) (3 : Int32) (0 : Int32) (1 : Int32) (2 : Int32) (3 : Int32)) := ⟨_, rfl⟩
  rw [← hy54] at st53
  refine oGo.step (f' := (mkF m 42 #[.val (.int x0), .val (.int x1), .val (.int x2), .val (.int x3), .val (.ref b1), .val (.ref b11), .val (.int (1 : Int32)), .unset] [(.int y54)])) st53 ?_
  have N53_ := Fr.app N45 N53
  have K55 := Kc53
  have F56 := F48.keep K55
  have F57 := F49.keep K55 (ninS ne_pa (ninS ne12 nin0))
  have Z62 := Nat.le_trans Z52 K55.1
  obtain ⟨y63, hy63⟩ : ∃ z, z = (arr6_pa_1 (x0 &&& (3 : Int32)) ((XT.ushr x0 (2 : Int32)) &&& (3 : Int32)) (1 : Int32) (2 : Int32) (3 : Int32)) := ⟨_, rfl⟩
  rw [← hy63] at A53_pa
  obtain ⟨y64, hy64⟩ : ∃ z, z = (arr6_pa_2 (x0 &&& (3 : Int32)) ((XT.ushr x0 (2 : Int32)) &&& (3 : Int32)) (1 : Int32) (2 : Int32) (3 : Int32)) := ⟨_, rfl⟩
  rw [← hy64] at A53_pa
  obtain ⟨y65, hy65⟩ : ∃ z, z = (arr6_pa_3 (x0 &&& (3 : Int32)) ((XT.ushr x0 (2 : Int32)) &&& (3 : Int32)) (1 : Int32) (2 : Int32) (3 : Int32)) := ⟨_, rfl⟩
  rw [← hy65] at A53_pa
  obtain ⟨y66, hy66⟩ : ∃ z, z = (arr3_la_0 x0 (0 : Int32) (1 : Int32) (2 : Int32) (3 : Int32)) := ⟨_, rfl⟩
  rw [← hy66] at A53_la
  obtain ⟨y67, hy67⟩ : ∃ z, z = (arr3_la_1 x0 (0 : Int32) (1 : Int32) (2 : Int32) (3 : Int32)) := ⟨_, rfl⟩
  rw [← hy67] at A53_la
  obtain ⟨y68, hy68⟩ : ∃ z, z = (arr3_la_2 x0 (0 : Int32) (1 : Int32) (2 : Int32) (3 : Int32)) := ⟨_, rfl⟩
  rw [← hy68] at A53_la
  obtain ⟨y69, hy69⟩ : ∃ z, z = (arr3_la_3 x0 (0 : Int32) (1 : Int32) (2 : Int32) (3 : Int32)) := ⟨_, rfl⟩
  rw [← hy69] at A53_la
  have hI53 : oFor y63 y64 y65 := by rw [hy63, hy64, hy65]; exact own_for_join own_for0 (own_and3 x0) (own_and3 (XT.ushr x0 2))
  have hS53 := own_step x0 own_for0 own_lab0
  have hok53 : y54 = 1 := by rw [hy54]; exact hS53.1
  have hL53 : oLab y63 y64 y65 y66 y67 y68 y69 := by rw [hy63, hy64, hy65, hy66, hy67, hy68, hy69]; exact hS53.2
  have X53 := o_flat X53 rfl rfl
  refine o_ifF (pc' := 45) X53 hx (hb hby at_42) (XT.i0_eq_f (by rw [hok53]; decide)) rfl ?_
  refine o_iload (pc' := 47) X53 hx (hb hby at_45) rfl rfl ?_
  refine o_ifF (pc' := 50) X53 hx (hb hby at_47) (XT.i0_eq_f (by decide)) rfl ?_
  refine o_iconst (pc' := 51) (v := (1 : Int32)) X53 hx (hb hby at_50) rfl rfl ?_
  refine o_goto (pc' := 55) X53 hx (hb hby at_51) (by decide) (by decide) ?_
  refine o_istore (pc' := 57) (l' := #[.val (.int x0), .val (.int x1), .val (.int x2), .val (.int x3), .val (.ref b1), .val (.ref b11), .val (.int (1 : Int32)), .unset]) X53 hx (hb hby at_55) rfl rfl ?_
  refine o_aload (pc' := 59) X53 hx (hb hby at_57) rfl rfl rfl ?_
  refine o_aload (pc' := 61) X53 hx (hb hby at_59) rfl rfl rfl ?_
  refine o_iloadN (pc' := 62) X53 hx (hb hby at_61) rfl rfl ?_
  obtain ⟨r70, T70, L70, X70, hq70, st70⟩ := o_callS X53 hx hZ hown (hw _ (List.mem_of_getElem? (i := 12) rfl)) (hw _ (List.mem_of_getElem? (i := 13) rfl)) (hw _ (List.mem_of_getElem? (i := 14) rfl)) (hw _ (List.mem_of_getElem? (i := 15) rfl)) (by decide) (rm3 l Z a0 hw b1 b11 x1 pa pa y63 y64 y65 y66 y67 y68 y69 T53.heap n0 Z62 F56 F57 A53_pa ge_pa ne_pa A53_la ge14 ne12 hI53 ne13) (rfl : T53.heap = _) (pc' := 65) (Ls := #[.val (.int x0), .val (.int x1), .val (.int x2), .val (.int x3), .val (.ref b1), .val (.ref b11), .val (.int (1 : Int32)), .unset]) (by rw [hml]; rfl) [(.ref b1), (.ref b11), (.int x1)] [] rfl pd4 rfl rfl 0 (Nat.le_of_eq rfl) (hb hby at_62) rfl (by decide) (by decide) (by decide) (by decide)
  obtain ⟨rfl, N70, Kc70, A70_pa, A70_la⟩ := hq70
  obtain ⟨y71, hy71⟩ : ∃ z, z = (spec3 x1 y63 y64 y65 y66 y67 y68 y69) := ⟨_, rfl⟩
  rw [← hy71] at st70
  refine oGo.step (f' := (mkF m 65 #[.val (.int x0), .val (.int x1), .val (.int x2), .val (.int x3), .val (.ref b1), .val (.ref b11), .val (.int (1 : Int32)), .unset] [(.int y71)])) st70 ?_
  have N70_ := Fr.app N53_ N70
  have K72 := Kc70
  have F73 := F56.keep K72
  have F74 := F57.keep K72 (ninS ne_pa (ninS ne12 nin0))
  have Z79 := Nat.le_trans Z62 K72.1
  obtain ⟨y80, hy80⟩ : ∃ z, z = (arr6_pa_1 (x1 &&& (3 : Int32)) ((XT.ushr x1 (2 : Int32)) &&& (3 : Int32)) y63 y64 y65) := ⟨_, rfl⟩
  rw [← hy80] at A70_pa
  obtain ⟨y81, hy81⟩ : ∃ z, z = (arr6_pa_2 (x1 &&& (3 : Int32)) ((XT.ushr x1 (2 : Int32)) &&& (3 : Int32)) y63 y64 y65) := ⟨_, rfl⟩
  rw [← hy81] at A70_pa
  obtain ⟨y82, hy82⟩ : ∃ z, z = (arr6_pa_3 (x1 &&& (3 : Int32)) ((XT.ushr x1 (2 : Int32)) &&& (3 : Int32)) y63 y64 y65) := ⟨_, rfl⟩
  rw [← hy82] at A70_pa
  obtain ⟨y83, hy83⟩ : ∃ z, z = (arr3_la_0 x1 y66 y67 y68 y69) := ⟨_, rfl⟩
  rw [← hy83] at A70_la
  obtain ⟨y84, hy84⟩ : ∃ z, z = (arr3_la_1 x1 y66 y67 y68 y69) := ⟨_, rfl⟩
  rw [← hy84] at A70_la
  obtain ⟨y85, hy85⟩ : ∃ z, z = (arr3_la_2 x1 y66 y67 y68 y69) := ⟨_, rfl⟩
  rw [← hy85] at A70_la
  obtain ⟨y86, hy86⟩ : ∃ z, z = (arr3_la_3 x1 y66 y67 y68 y69) := ⟨_, rfl⟩
  rw [← hy86] at A70_la
  have hI70 : oFor y80 y81 y82 := by rw [hy80, hy81, hy82]; exact own_for_join hI53 (own_and3 x1) (own_and3 (XT.ushr x1 2))
  have hS70 := own_step x1 hI53 hL53
  have hok70 : y71 = 1 := by rw [hy71]; exact hS70.1
  have hL70 : oLab y80 y81 y82 y83 y84 y85 y86 := by rw [hy80, hy81, hy82, hy83, hy84, hy85, hy86]; exact hS70.2
  have X70 := o_flat X70 rfl rfl
  refine o_ifF (pc' := 68) X70 hx (hb hby at_65) (XT.i0_eq_f (by rw [hok70]; decide)) rfl ?_
  refine o_iload (pc' := 70) X70 hx (hb hby at_68) rfl rfl ?_
  refine o_ifF (pc' := 73) X70 hx (hb hby at_70) (XT.i0_eq_f (by decide)) rfl ?_
  refine o_iconst (pc' := 74) (v := (1 : Int32)) X70 hx (hb hby at_73) rfl rfl ?_
  refine o_goto (pc' := 78) X70 hx (hb hby at_74) (by decide) (by decide) ?_
  refine o_istore (pc' := 80) (l' := #[.val (.int x0), .val (.int x1), .val (.int x2), .val (.int x3), .val (.ref b1), .val (.ref b11), .val (.int (1 : Int32)), .unset]) X70 hx (hb hby at_78) rfl rfl ?_
  refine o_aload (pc' := 82) X70 hx (hb hby at_80) rfl rfl rfl ?_
  refine o_aload (pc' := 84) X70 hx (hb hby at_82) rfl rfl rfl ?_
  refine o_iloadN (pc' := 85) X70 hx (hb hby at_84) rfl rfl ?_
  obtain ⟨r87, T87, L87, X87, hq87, st87⟩ := o_callS X70 hx hZ hown (hw _ (List.mem_of_getElem? (i := 12) rfl)) (hw _ (List.mem_of_getElem? (i := 13) rfl)) (hw _ (List.mem_of_getElem? (i := 14) rfl)) (hw _ (List.mem_of_getElem? (i := 15) rfl)) (by decide) (rm3 l Z a0 hw b1 b11 x2 pa pa y80 y81 y82 y83 y84 y85 y86 T70.heap n0 Z79 F73 F74 A70_pa ge_pa ne_pa A70_la ge14 ne12 hI70 ne13) (rfl : T70.heap = _) (pc' := 88) (Ls := #[.val (.int x0), .val (.int x1), .val (.int x2), .val (.int x3), .val (.ref b1), .val (.ref b11), .val (.int (1 : Int32)), .unset]) (by rw [hml]; rfl) [(.ref b1), (.ref b11), (.int x2)] [] rfl pd4 rfl rfl 0 (Nat.le_of_eq rfl) (hb hby at_85) rfl (by decide) (by decide) (by decide) (by decide)
  obtain ⟨rfl, N87, Kc87, A87_pa, A87_la⟩ := hq87
  obtain ⟨y88, hy88⟩ : ∃ z, z = (spec3 x2 y80 y81 y82 y83 y84 y85 y86) := ⟨_, rfl⟩
  rw [← hy88] at st87
  refine oGo.step (f' := (mkF m 88 #[.val (.int x0), .val (.int x1), .val (.int x2), .val (.int x3), .val (.ref b1), .val (.ref b11), .val (.int (1 : Int32)), .unset] [(.int y88)])) st87 ?_
  have N87_ := Fr.app N70_ N87
  have K89 := Kc87
  have F90 := F73.keep K89
  have F91 := F74.keep K89 (ninS ne_pa (ninS ne12 nin0))
  have Z96 := Nat.le_trans Z79 K89.1
  obtain ⟨y97, hy97⟩ : ∃ z, z = (arr6_pa_1 (x2 &&& (3 : Int32)) ((XT.ushr x2 (2 : Int32)) &&& (3 : Int32)) y80 y81 y82) := ⟨_, rfl⟩
  rw [← hy97] at A87_pa
  obtain ⟨y98, hy98⟩ : ∃ z, z = (arr6_pa_2 (x2 &&& (3 : Int32)) ((XT.ushr x2 (2 : Int32)) &&& (3 : Int32)) y80 y81 y82) := ⟨_, rfl⟩
  rw [← hy98] at A87_pa
  obtain ⟨y99, hy99⟩ : ∃ z, z = (arr6_pa_3 (x2 &&& (3 : Int32)) ((XT.ushr x2 (2 : Int32)) &&& (3 : Int32)) y80 y81 y82) := ⟨_, rfl⟩
  rw [← hy99] at A87_pa
  obtain ⟨y100, hy100⟩ : ∃ z, z = (arr3_la_0 x2 y83 y84 y85 y86) := ⟨_, rfl⟩
  rw [← hy100] at A87_la
  obtain ⟨y101, hy101⟩ : ∃ z, z = (arr3_la_1 x2 y83 y84 y85 y86) := ⟨_, rfl⟩
  rw [← hy101] at A87_la
  obtain ⟨y102, hy102⟩ : ∃ z, z = (arr3_la_2 x2 y83 y84 y85 y86) := ⟨_, rfl⟩
  rw [← hy102] at A87_la
  obtain ⟨y103, hy103⟩ : ∃ z, z = (arr3_la_3 x2 y83 y84 y85 y86) := ⟨_, rfl⟩
  rw [← hy103] at A87_la
  have hI87 : oFor y97 y98 y99 := by rw [hy97, hy98, hy99]; exact own_for_join hI70 (own_and3 x2) (own_and3 (XT.ushr x2 2))
  have hS87 := own_step x2 hI70 hL70
  have hok87 : y88 = 1 := by rw [hy88]; exact hS87.1
  have hL87 : oLab y97 y98 y99 y100 y101 y102 y103 := by rw [hy97, hy98, hy99, hy100, hy101, hy102, hy103]; exact hS87.2
  have X87 := o_flat X87 rfl rfl
  refine o_ifF (pc' := 91) X87 hx (hb hby at_88) (XT.i0_eq_f (by rw [hok87]; decide)) rfl ?_
  refine o_iload (pc' := 93) X87 hx (hb hby at_91) rfl rfl ?_
  refine o_ifF (pc' := 96) X87 hx (hb hby at_93) (XT.i0_eq_f (by decide)) rfl ?_
  refine o_iconst (pc' := 97) (v := (1 : Int32)) X87 hx (hb hby at_96) rfl rfl ?_
  refine o_goto (pc' := 101) X87 hx (hb hby at_97) (by decide) (by decide) ?_
  refine o_istore (pc' := 103) (l' := #[.val (.int x0), .val (.int x1), .val (.int x2), .val (.int x3), .val (.ref b1), .val (.ref b11), .val (.int (1 : Int32)), .unset]) X87 hx (hb hby at_101) rfl rfl ?_
  refine o_iloadN (pc' := 104) X87 hx (hb hby at_103) rfl rfl ?_
  refine o_iconst (pc' := 105) (v := (3 : Int32)) X87 hx (hb hby at_104) rfl rfl ?_
  refine o_iand (pc' := 106) X87 hx (hb hby at_105)  rfl ?_
  refine o_istore (pc' := 108) (l' := #[.val (.int x0), .val (.int x1), .val (.int x2), .val (.int x3), .val (.ref b1), .val (.ref b11), .val (.int (1 : Int32)), .val (.int (x3 &&& (3 : Int32)))]) X87 hx (hb hby at_106) rfl rfl ?_
  refine o_aload (pc' := 110) X87 hx (hb hby at_108) rfl rfl rfl ?_
  refine o_iload (pc' := 112) X87 hx (hb hby at_110) rfl rfl ?_
  obtain ⟨r104, T104, L104, X104, hq104, st104⟩ := o_callV X87 hx hZ hown (hw _ (List.mem_of_getElem? (i := 35) rfl)) (hw _ (List.mem_of_getElem? (i := 29) rfl)) (hw _ (List.mem_of_getElem? (i := 31) rfl)) (hw _ (List.mem_of_getElem? (i := 30) rfl)) (hw _ (List.mem_of_getElem? (i := 2) rfl)) (hw _ (List.mem_of_getElem? (i := 32) rfl)) (by decide) F90 (rm7 l Z a0 hw b1 (x3 &&& (3 : Int32)) pa pa y97 y98 y99 T87.heap n0 Z96 F90 F91 A87_pa ge_pa ne_pa hI87 (own_and3 x3)) (rfl : T87.heap = _) (pc' := 115) (Ls := #[.val (.int x0), .val (.int x1), .val (.int x2), .val (.int x3), .val (.ref b1), .val (.ref b11), .val (.int (1 : Int32)), .val (.int (x3 &&& (3 : Int32)))]) (by rw [hml]; rfl) [(.int (x3 &&& (3 : Int32)))] [] rfl pd0 rfl rfl 0 (Nat.le_of_eq rfl) (hb hby at_112) rfl (by decide) (by decide) (by decide) (by decide)
  obtain ⟨rfl, N104, Kc104, A104_pa⟩ := hq104
  obtain ⟨y105, hy105⟩ : ∃ z, z = (oRoot y97 y98 y99 (x3 &&& (3 : Int32))) := ⟨_, rfl⟩
  rw [← hy105] at st104
  refine oGo.step (f' := (mkF m 115 #[.val (.int x0), .val (.int x1), .val (.int x2), .val (.int x3), .val (.ref b1), .val (.ref b11), .val (.int (1 : Int32)), .val (.int (x3 &&& (3 : Int32)))] [(.int y105)])) st104 ?_
  have N104_ := Fr.app N87_ N104
  have K106 := Kc104
  have F107 := F90.keep K106
  have F108 := F91.keep K106 (ninS ne_pa nin0)
  have F112 := A87_la.keep K106 (ninS (Ne.symm ne13) nin0)
  have Z113 := Nat.le_trans Z96 K106.1
  obtain ⟨y114, hy114⟩ : ∃ z, z = (oP2 y97 y98 y99 (x3 &&& (3 : Int32))) := ⟨_, rfl⟩
  rw [← hy114] at A104_pa
  obtain ⟨y115, hy115⟩ : ∃ z, z = (oP3 y97 y98 y99 (x3 &&& (3 : Int32))) := ⟨_, rfl⟩
  rw [← hy115] at A104_pa
  have hI104 : oFor y97 y114 y115 := by rw [hy114, hy115]; exact own_for_root hI87 (own_and3 x3)
  have hD104 : oD y105 := by rw [hy105]; exact own_root_D hI87 (own_and3 x3)
  have hS104 := own_ask hI87 (own_and3 x3) hL87
  have hr104 : y105 = (oGet4 y100 y101 y102 y103 (x3 &&& (3 : Int32))) := by rw [hy105]; exact hS104.1
  have hL104 : oLab y97 y114 y115 y100 y101 y102 y103 := by rw [hy114, hy115]; exact hS104.2
  have X104 := o_flat X104 rfl rfl
  refine o_aload (pc' := 117) X104 hx (hb hby at_115) rfl rfl rfl ?_
  refine o_iload (pc' := 119) X104 hx (hb hby at_117) rfl rfl ?_
  refine o_iaload (pc' := 120) (v := (oGet4 y100 y101 y102 y103 (x3 &&& (3 : Int32)))) X104 hx hZ (rfl : T104.heap = _) F112 (hb hby at_119) (own_nneg (own_and3 x3)) (own_get4 (own_and3 x3)) rfl ?_
  refine o_icmpF (pc' := 123) X104 hx (hb hby at_120) (XT.ii_ne_f hr104) rfl ?_
  refine o_iload (pc' := 125) X104 hx (hb hby at_123) rfl rfl ?_
  refine o_ifF (pc' := 128) X104 hx (hb hby at_125) (XT.i0_eq_f (by decide)) rfl ?_
  refine o_iconst (pc' := 129) (v := (1 : Int32)) X104 hx (hb hby at_128) rfl rfl ?_
  refine o_goto (pc' := 133) X104 hx (hb hby at_129) (by decide) (by decide) ?_
  refine o_istore (pc' := 135) (l' := #[.val (.int x0), .val (.int x1), .val (.int x2), .val (.int x3), .val (.ref b1), .val (.ref b11), .val (.int (1 : Int32)), .val (.int (x3 &&& (3 : Int32)))]) X104 hx (hb hby at_133) rfl rfl ?_
  refine o_aload (pc' := 137) X104 hx (hb hby at_135) rfl rfl rfl ?_
  refine o_iconst (pc' := 138) (v := (0 : Int32)) X104 hx (hb hby at_137) rfl rfl ?_
  obtain ⟨r116, T116, L116, X116, hq116, st116⟩ := o_callV X104 hx hZ hown (hw _ (List.mem_of_getElem? (i := 35) rfl)) (hw _ (List.mem_of_getElem? (i := 29) rfl)) (hw _ (List.mem_of_getElem? (i := 31) rfl)) (hw _ (List.mem_of_getElem? (i := 30) rfl)) (hw _ (List.mem_of_getElem? (i := 2) rfl)) (hw _ (List.mem_of_getElem? (i := 32) rfl)) (by decide) F107 (rm7 l Z a0 hw b1 (0 : Int32) pa pa y97 y114 y115 T104.heap n0 Z113 F107 F108 A104_pa ge_pa ne_pa hI104 (show oD (0 : Int32) by unfold oD; decide)) (rfl : T104.heap = _) (pc' := 141) (Ls := #[.val (.int x0), .val (.int x1), .val (.int x2), .val (.int x3), .val (.ref b1), .val (.ref b11), .val (.int (1 : Int32)), .val (.int (x3 &&& (3 : Int32)))]) (by rw [hml]; rfl) [(.int (0 : Int32))] [] rfl pd0 rfl rfl 0 (Nat.le_of_eq rfl) (hb hby at_138) rfl (by decide) (by decide) (by decide) (by decide)
  obtain ⟨rfl, N116, Kc116, A116_pa⟩ := hq116
  obtain ⟨y117, hy117⟩ : ∃ z, z = (oRoot y97 y114 y115 (0 : Int32)) := ⟨_, rfl⟩
  rw [← hy117] at st116
  refine oGo.step (f' := (mkF m 141 #[.val (.int x0), .val (.int x1), .val (.int x2), .val (.int x3), .val (.ref b1), .val (.ref b11), .val (.int (1 : Int32)), .val (.int (x3 &&& (3 : Int32)))] [(.int y117)])) st116 ?_
  have N116_ := Fr.app N104_ N116
  have K118 := Kc116
  have F119 := F107.keep K118
  have F120 := F108.keep K118 (ninS ne_pa nin0)
  have F123 := F112.keep K118 (ninS (Ne.symm ne13) nin0)
  have Z125 := Nat.le_trans Z113 K118.1
  obtain ⟨y126, hy126⟩ : ∃ z, z = (oP2 y97 y114 y115 (0 : Int32)) := ⟨_, rfl⟩
  rw [← hy126] at A116_pa
  obtain ⟨y127, hy127⟩ : ∃ z, z = (oP3 y97 y114 y115 (0 : Int32)) := ⟨_, rfl⟩
  rw [← hy127] at A116_pa
  have hI116 : oFor y97 y126 y127 := by rw [hy126, hy127]; exact own_for_root hI104 (show oD (0 : Int32) by unfold oD; decide)
  have hD116 : oD y117 := by rw [hy117]; exact own_root_D hI104 (show oD (0 : Int32) by unfold oD; decide)
  have hS116 := own_ask hI104 (show oD (0 : Int32) by unfold oD; decide) hL104
  have hr116 : y117 = y100 := by rw [hy117]; exact hS116.1
  have hL116 : oLab y97 y126 y127 y100 y101 y102 y103 := by rw [hy126, hy127]; exact hS116.2
  have X116 := o_flat X116 rfl rfl
  refine o_aload (pc' := 143) X116 hx (hb hby at_141) rfl rfl rfl ?_
  refine o_iconst (pc' := 144) (v := (0 : Int32)) X116 hx (hb hby at_143) rfl rfl ?_
  refine o_iaload (pc' := 145) (v := y100) X116 hx hZ (rfl : T116.heap = _) F123 (hb hby at_144) (by decide) rfl rfl ?_
  refine o_icmpF (pc' := 148) X116 hx (hb hby at_145) (XT.ii_ne_f hr116) rfl ?_
  refine o_iload (pc' := 150) X116 hx (hb hby at_148) rfl rfl ?_
  refine o_ifF (pc' := 153) X116 hx (hb hby at_150) (XT.i0_eq_f (by decide)) rfl ?_
  refine o_iconst (pc' := 154) (v := (1 : Int32)) X116 hx (hb hby at_153) rfl rfl ?_
  refine o_goto (pc' := 158) X116 hx (hb hby at_154) (by decide) (by decide) ?_
  refine o_istore (pc' := 160) (l' := #[.val (.int x0), .val (.int x1), .val (.int x2), .val (.int x3), .val (.ref b1), .val (.ref b11), .val (.int (1 : Int32)), .val (.int (x3 &&& (3 : Int32)))]) X116 hx (hb hby at_158) rfl rfl ?_
  refine o_aload (pc' := 162) X116 hx (hb hby at_160) rfl rfl rfl ?_
  refine o_iconst (pc' := 163) (v := (1 : Int32)) X116 hx (hb hby at_162) rfl rfl ?_
  obtain ⟨r128, T128, L128, X128, hq128, st128⟩ := o_callV X116 hx hZ hown (hw _ (List.mem_of_getElem? (i := 35) rfl)) (hw _ (List.mem_of_getElem? (i := 29) rfl)) (hw _ (List.mem_of_getElem? (i := 31) rfl)) (hw _ (List.mem_of_getElem? (i := 30) rfl)) (hw _ (List.mem_of_getElem? (i := 2) rfl)) (hw _ (List.mem_of_getElem? (i := 32) rfl)) (by decide) F119 (rm7 l Z a0 hw b1 (1 : Int32) pa pa y97 y126 y127 T116.heap n0 Z125 F119 F120 A116_pa ge_pa ne_pa hI116 (show oD (1 : Int32) by unfold oD; decide)) (rfl : T116.heap = _) (pc' := 166) (Ls := #[.val (.int x0), .val (.int x1), .val (.int x2), .val (.int x3), .val (.ref b1), .val (.ref b11), .val (.int (1 : Int32)), .val (.int (x3 &&& (3 : Int32)))]) (by rw [hml]; rfl) [(.int (1 : Int32))] [] rfl pd0 rfl rfl 0 (Nat.le_of_eq rfl) (hb hby at_163) rfl (by decide) (by decide) (by decide) (by decide)
  obtain ⟨rfl, N128, Kc128, A128_pa⟩ := hq128
  obtain ⟨y129, hy129⟩ : ∃ z, z = (oRoot y97 y126 y127 (1 : Int32)) := ⟨_, rfl⟩
  rw [← hy129] at st128
  refine oGo.step (f' := (mkF m 166 #[.val (.int x0), .val (.int x1), .val (.int x2), .val (.int x3), .val (.ref b1), .val (.ref b11), .val (.int (1 : Int32)), .val (.int (x3 &&& (3 : Int32)))] [(.int y129)])) st128 ?_
  have N128_ := Fr.app N116_ N128
  have K130 := Kc128
  have F131 := F119.keep K130
  have F132 := F120.keep K130 (ninS ne_pa nin0)
  have F135 := F123.keep K130 (ninS (Ne.symm ne13) nin0)
  have Z137 := Nat.le_trans Z125 K130.1
  obtain ⟨y138, hy138⟩ : ∃ z, z = (oP2 y97 y126 y127 (1 : Int32)) := ⟨_, rfl⟩
  rw [← hy138] at A128_pa
  obtain ⟨y139, hy139⟩ : ∃ z, z = (oP3 y97 y126 y127 (1 : Int32)) := ⟨_, rfl⟩
  rw [← hy139] at A128_pa
  have hI128 : oFor y97 y138 y139 := by rw [hy138, hy139]; exact own_for_root hI116 (show oD (1 : Int32) by unfold oD; decide)
  have hD128 : oD y129 := by rw [hy129]; exact own_root_D hI116 (show oD (1 : Int32) by unfold oD; decide)
  have hS128 := own_ask hI116 (show oD (1 : Int32) by unfold oD; decide) hL116
  have hr128 : y129 = y101 := by rw [hy129]; exact hS128.1
  have hL128 : oLab y97 y138 y139 y100 y101 y102 y103 := by rw [hy138, hy139]; exact hS128.2
  have X128 := o_flat X128 rfl rfl
  refine o_aload (pc' := 168) X128 hx (hb hby at_166) rfl rfl rfl ?_
  refine o_iconst (pc' := 169) (v := (1 : Int32)) X128 hx (hb hby at_168) rfl rfl ?_
  refine o_iaload (pc' := 170) (v := y101) X128 hx hZ (rfl : T128.heap = _) F135 (hb hby at_169) (by decide) rfl rfl ?_
  refine o_icmpF (pc' := 173) X128 hx (hb hby at_170) (XT.ii_ne_f hr128) rfl ?_
  refine o_iload (pc' := 175) X128 hx (hb hby at_173) rfl rfl ?_
  refine o_ifF (pc' := 178) X128 hx (hb hby at_175) (XT.i0_eq_f (by decide)) rfl ?_
  refine o_iconst (pc' := 179) (v := (1 : Int32)) X128 hx (hb hby at_178) rfl rfl ?_
  refine o_goto (pc' := 183) X128 hx (hb hby at_179) (by decide) (by decide) ?_
  refine o_istore (pc' := 185) (l' := #[.val (.int x0), .val (.int x1), .val (.int x2), .val (.int x3), .val (.ref b1), .val (.ref b11), .val (.int (1 : Int32)), .val (.int (x3 &&& (3 : Int32)))]) X128 hx (hb hby at_183) rfl rfl ?_
  refine o_aload (pc' := 187) X128 hx (hb hby at_185) rfl rfl rfl ?_
  refine o_iconst (pc' := 188) (v := (2 : Int32)) X128 hx (hb hby at_187) rfl rfl ?_
  obtain ⟨r140, T140, L140, X140, hq140, st140⟩ := o_callV X128 hx hZ hown (hw _ (List.mem_of_getElem? (i := 35) rfl)) (hw _ (List.mem_of_getElem? (i := 29) rfl)) (hw _ (List.mem_of_getElem? (i := 31) rfl)) (hw _ (List.mem_of_getElem? (i := 30) rfl)) (hw _ (List.mem_of_getElem? (i := 2) rfl)) (hw _ (List.mem_of_getElem? (i := 32) rfl)) (by decide) F131 (rm7 l Z a0 hw b1 (2 : Int32) pa pa y97 y138 y139 T128.heap n0 Z137 F131 F132 A128_pa ge_pa ne_pa hI128 (show oD (2 : Int32) by unfold oD; decide)) (rfl : T128.heap = _) (pc' := 191) (Ls := #[.val (.int x0), .val (.int x1), .val (.int x2), .val (.int x3), .val (.ref b1), .val (.ref b11), .val (.int (1 : Int32)), .val (.int (x3 &&& (3 : Int32)))]) (by rw [hml]; rfl) [(.int (2 : Int32))] [] rfl pd0 rfl rfl 0 (Nat.le_of_eq rfl) (hb hby at_188) rfl (by decide) (by decide) (by decide) (by decide)
  obtain ⟨rfl, N140, Kc140, A140_pa⟩ := hq140
  obtain ⟨y141, hy141⟩ : ∃ z, z = (oRoot y97 y138 y139 (2 : Int32)) := ⟨_, rfl⟩
  rw [← hy141] at st140
  refine oGo.step (f' := (mkF m 191 #[.val (.int x0), .val (.int x1), .val (.int x2), .val (.int x3), .val (.ref b1), .val (.ref b11), .val (.int (1 : Int32)), .val (.int (x3 &&& (3 : Int32)))] [(.int y141)])) st140 ?_
  have N140_ := Fr.app N128_ N140
  have K142 := Kc140
  have F143 := F131.keep K142
  have F144 := F132.keep K142 (ninS ne_pa nin0)
  have F147 := F135.keep K142 (ninS (Ne.symm ne13) nin0)
  have Z149 := Nat.le_trans Z137 K142.1
  obtain ⟨y150, hy150⟩ : ∃ z, z = (oP2 y97 y138 y139 (2 : Int32)) := ⟨_, rfl⟩
  rw [← hy150] at A140_pa
  obtain ⟨y151, hy151⟩ : ∃ z, z = (oP3 y97 y138 y139 (2 : Int32)) := ⟨_, rfl⟩
  rw [← hy151] at A140_pa
  have hI140 : oFor y97 y150 y151 := by rw [hy150, hy151]; exact own_for_root hI128 (show oD (2 : Int32) by unfold oD; decide)
  have hD140 : oD y141 := by rw [hy141]; exact own_root_D hI128 (show oD (2 : Int32) by unfold oD; decide)
  have hS140 := own_ask hI128 (show oD (2 : Int32) by unfold oD; decide) hL128
  have hr140 : y141 = y102 := by rw [hy141]; exact hS140.1
  have hL140 : oLab y97 y150 y151 y100 y101 y102 y103 := by rw [hy150, hy151]; exact hS140.2
  have X140 := o_flat X140 rfl rfl
  refine o_aload (pc' := 193) X140 hx (hb hby at_191) rfl rfl rfl ?_
  refine o_iconst (pc' := 194) (v := (2 : Int32)) X140 hx (hb hby at_193) rfl rfl ?_
  refine o_iaload (pc' := 195) (v := y102) X140 hx hZ (rfl : T140.heap = _) F147 (hb hby at_194) (by decide) rfl rfl ?_
  refine o_icmpF (pc' := 198) X140 hx (hb hby at_195) (XT.ii_ne_f hr140) rfl ?_
  refine o_iload (pc' := 200) X140 hx (hb hby at_198) rfl rfl ?_
  refine o_ifF (pc' := 203) X140 hx (hb hby at_200) (XT.i0_eq_f (by decide)) rfl ?_
  refine o_iconst (pc' := 204) (v := (1 : Int32)) X140 hx (hb hby at_203) rfl rfl ?_
  refine o_goto (pc' := 208) X140 hx (hb hby at_204) (by decide) (by decide) ?_
  refine o_istore (pc' := 210) (l' := #[.val (.int x0), .val (.int x1), .val (.int x2), .val (.int x3), .val (.ref b1), .val (.ref b11), .val (.int (1 : Int32)), .val (.int (x3 &&& (3 : Int32)))]) X140 hx (hb hby at_208) rfl rfl ?_
  refine o_aload (pc' := 212) X140 hx (hb hby at_210) rfl rfl rfl ?_
  refine o_iconst (pc' := 213) (v := (3 : Int32)) X140 hx (hb hby at_212) rfl rfl ?_
  obtain ⟨r152, T152, L152, X152, hq152, st152⟩ := o_callV X140 hx hZ hown (hw _ (List.mem_of_getElem? (i := 35) rfl)) (hw _ (List.mem_of_getElem? (i := 29) rfl)) (hw _ (List.mem_of_getElem? (i := 31) rfl)) (hw _ (List.mem_of_getElem? (i := 30) rfl)) (hw _ (List.mem_of_getElem? (i := 2) rfl)) (hw _ (List.mem_of_getElem? (i := 32) rfl)) (by decide) F143 (rm7 l Z a0 hw b1 (3 : Int32) pa pa y97 y150 y151 T140.heap n0 Z149 F143 F144 A140_pa ge_pa ne_pa hI140 (show oD (3 : Int32) by unfold oD; decide)) (rfl : T140.heap = _) (pc' := 216) (Ls := #[.val (.int x0), .val (.int x1), .val (.int x2), .val (.int x3), .val (.ref b1), .val (.ref b11), .val (.int (1 : Int32)), .val (.int (x3 &&& (3 : Int32)))]) (by rw [hml]; rfl) [(.int (3 : Int32))] [] rfl pd0 rfl rfl 0 (Nat.le_of_eq rfl) (hb hby at_213) rfl (by decide) (by decide) (by decide) (by decide)
  obtain ⟨rfl, N152, Kc152, A152_pa⟩ := hq152
  obtain ⟨y153, hy153⟩ : ∃ z, z = (oRoot y97 y150 y151 (3 : Int32)) := ⟨_, rfl⟩
  rw [← hy153] at st152
  refine oGo.step (f' := (mkF m 216 #[.val (.int x0), .val (.int x1), .val (.int x2), .val (.int x3), .val (.ref b1), .val (.ref b11), .val (.int (1 : Int32)), .val (.int (x3 &&& (3 : Int32)))] [(.int y153)])) st152 ?_
  have N152_ := Fr.app N140_ N152
  have K154 := Kc152
  have F155 := F143.keep K154
  have F156 := F144.keep K154 (ninS ne_pa nin0)
  have F159 := F147.keep K154 (ninS (Ne.symm ne13) nin0)
  have Z161 := Nat.le_trans Z149 K154.1
  obtain ⟨y162, hy162⟩ : ∃ z, z = (oP2 y97 y150 y151 (3 : Int32)) := ⟨_, rfl⟩
  rw [← hy162] at A152_pa
  obtain ⟨y163, hy163⟩ : ∃ z, z = (oP3 y97 y150 y151 (3 : Int32)) := ⟨_, rfl⟩
  rw [← hy163] at A152_pa
  have hI152 : oFor y97 y162 y163 := by rw [hy162, hy163]; exact own_for_root hI140 (show oD (3 : Int32) by unfold oD; decide)
  have hD152 : oD y153 := by rw [hy153]; exact own_root_D hI140 (show oD (3 : Int32) by unfold oD; decide)
  have hS152 := own_ask hI140 (show oD (3 : Int32) by unfold oD; decide) hL140
  have hr152 : y153 = y103 := by rw [hy153]; exact hS152.1
  have hL152 : oLab y97 y162 y163 y100 y101 y102 y103 := by rw [hy162, hy163]; exact hS152.2
  have X152 := o_flat X152 rfl rfl
  refine o_aload (pc' := 218) X152 hx (hb hby at_216) rfl rfl rfl ?_
  refine o_iconst (pc' := 219) (v := (3 : Int32)) X152 hx (hb hby at_218) rfl rfl ?_
  refine o_iaload (pc' := 220) (v := y103) X152 hx hZ (rfl : T152.heap = _) F159 (hb hby at_219) (by decide) rfl rfl ?_
  refine o_icmpF (pc' := 223) X152 hx (hb hby at_220) (XT.ii_ne_f hr152) rfl ?_
  refine o_iload (pc' := 225) X152 hx (hb hby at_223) rfl rfl ?_
  refine o_ifF (pc' := 228) X152 hx (hb hby at_225) (XT.i0_eq_f (by decide)) rfl ?_
  refine o_iconst (pc' := 229) (v := (1 : Int32)) X152 hx (hb hby at_228) rfl rfl ?_
  refine o_goto (pc' := 233) X152 hx (hb hby at_229) (by decide) (by decide) ?_
  refine o_istore (pc' := 235) (l' := #[.val (.int x0), .val (.int x1), .val (.int x2), .val (.int x3), .val (.ref b1), .val (.ref b11), .val (.int (1 : Int32)), .val (.int (x3 &&& (3 : Int32)))]) X152 hx (hb hby at_233) rfl rfl ?_
  refine o_iload (pc' := 237) X152 hx (hb hby at_235) rfl rfl ?_
  refine o_retZ X152 hx hret hlk (hb hby at_237) (by decide) (by decide) (by decide) ?_
  exact ⟨rfl, N152_⟩
set_option maxRecDepth 65536 in
set_option maxHeartbeats 40000000 in
theorem comes_1 {Post : Tables → Env → Array Value → State → Outcome → State → Prop} (hpost : ∀ tb e args s v u, (limb_1_1.after args s (.returned v) u = true ∧ limb_1_2.after args s (.returned v) u = true ∧ True) → FrameEnd s (.returned v) u (Jvm.fieldLocs frame_1_writes args s ++ Jvm.arrayLocs frame_1_arrays args s ++ Jvm.staticLocs frame_1_statics s) 16 128 → Post tb e args s (.returned v) u) :
    ArmFor flags0 classFile x code maxLocals ret World_1 tables_1 room_1 Calls_1 rest_1 Pre_1 Post := by
  intro l hfl _ _ p e ha hc hk s m args below hf hA hF happ hP
  obtain ⟨hcalls, hrest, hpre⟩ := hP
  obtain ⟨-, -, -, hnamed, -, -, -, hat⟩ := (Spec.applies_iff hf).mp happ
  obtain ⟨hg, hn⟩ := and_e (Cond.before_iff.mp (show (Jvm.Cond.and given_1 narrow_1).before args s = true from hpre))
  obtain ⟨hcount, q0⟩ := and_e hg
  obtain ⟨a0, q1⟩ := and_e q0
  obtain ⟨a1, q2⟩ := and_e q1
  obtain ⟨a2, q3⟩ := and_e q2
  obtain ⟨w0, w1, w2, w3, rfl⟩ : ∃ w0 w1 w2 w3 : Value, args = #[w0, w1, w2, w3] := by
    have hs : args.size = 4 := by simpa [Cond.value, given_1] using hcount
    obtain ⟨L⟩ := args
    match L, hs with
    | [w0, w1, w2, w3], _ => exact ⟨w0, w1, w2, w3, rfl⟩
  have hw := fun d (hd : d ∈ tables_1) => atoms_spec (ws := Jvm.Cond.code x code maxLocals ret :: tables_1) hat d (List.mem_cons_of_mem _ hd)
  have hfit : Fit s := fun {y c} hc i hi => by
    obtain ⟨ha, rfl⟩ := Array.getElem?_eq_some_iff.mp hc
    have q := List.all_eq_true.mp ((Array.all_eq_true_iff_forall_mem.mp hF) _ (Array.getElem_mem ha)) i (List.mem_range.mpr hi)
    simpa [Array.getElem?_eq_getElem hi] using q
  obtain ⟨x0, e0⟩ := is_v a0
  obtain rfl : w0 = (.int x0) := Option.some.inj e0
  obtain ⟨x1, e1⟩ := is_v a1
  obtain rfl : w1 = (.int x1) := Option.some.inj e1
  obtain ⟨x2, e2⟩ := is_v a2
  obtain rfl : w2 = (.int x2) := Option.some.inj e2
  obtain ⟨x3, e3⟩ := is_v q3
  obtain rfl : w3 = (.int x3) := Option.some.inj e3
  obtain ⟨n, o, h1, h2, h3, _, L, rfl, ⟨rfl, N⟩, hq⟩ := rm0 l s _ hw x0 x1 x2 x3  s.heap s.heap.size (Nat.le_refl _)  tables_1 p e ha hc hk s m _ below hf ((Spec.applies_iff_loose hf).mp happ).1 ⟨rfl, State.Warmed39.refl s, rfl⟩ trivial
  refine ⟨n, _, h1, h2, h3, hpost _ _ _ _ _ _ ⟨Cond.after_iff.mpr rfl, Cond.after_iff.mpr (eq_i res_at (Term.int_eval (1)) rfl), trivial⟩ ⟨hq.1, hq.2.1, (hq.2.2.sift fun y hy => Or.inr (N y hy)).mono (by decide) (by decide)⟩⟩
theorem main_1_1 : Claimed_1_1 := comes_1 fun _ _ _ _ _ _ h hF => ⟨h.1, hF⟩
theorem main_1_2 : Claimed_1_2 := comes_1 fun _ _ _ _ _ _ h hF => ⟨h.2.1, hF⟩
end Jvm.Pilot.@@N@@
namespace Jvm.Pilot.@@N@@
open Jvm Jvm.ClassFile Sem Op Lib Jvm.Free Jvm.Stand Jvm.Pilot.@@N@@.Jvm.D
/-! MADE BY PROGRAM (witnessworld.py) out of the Statement's table words and the real class files: 10 classes; the members and pool entries that the words name. The judged class is class 1, her method 1. -/
namespace start1
open Jvm.ClassFile
def u (s : String) : CpInfo := .utf8 (stringToUtf16 s)
/-- a pool by its gaps: so many unusable entries, then the entry; so many at the end -/
def gap : Nat → List CpInfo → List CpInfo
  | 0, r => r
  | n + 1, r => .unusable :: gap n r
def poolList (es : List (Nat × CpInfo)) (last : Nat) : List CpInfo := es.foldr (fun e r => gap e.1 (e.2 :: r)) (gap last [])
def pool (es : List (Nat × CpInfo)) (last : Nat) : Array CpInfo := ⟨poolList es last⟩
def fileOf (pool : Array CpInfo) (this : Nat) (attrs : Array Attribute := #[]) (ms : Array MethodInfo := #[]) (fl : Nat := 33) (sup : Nat := 0) (ifs : Array Nat := #[]) (fds : Array FieldInfo := #[]) : ClassFile where
  minorVersion := 0
  majorVersion := 65
  constantPool := pool
  accessFlags := fl
  thisClass := this
  superClass := sup
  interfaces := ifs
  fields := fds
  methods := ms
  attributes := attrs
def plain (name : String) (sup : Option ClassId) : Class where
  name := name
  kind := .ordinary
  loader := none
  accessFlags := 33
  super := sup
  interfaces := #[]
  cf := none
  fields := #[]
  methods := #[]
  instanceTypes := #[]
  staticTypes := #[]
  resolved := #[]
  callSites := []
  init := .initialized
  statics := none
  mirror := none

def pool0 : Array CpInfo := pool [(5, u "<init>"), (0, u "()V"), (1, .class_ 10), (1, u "java/lang/Object")] 113

def k0c0 : Code := { maxStack := 0, maxLocals := 1, code := object_method_1_code, exceptionTable := #[], attributes := #[] }
def k0m0 : Method := { name := "<init>", desc := "()V", sig := { parameters := [], returnType := none }, accessFlags := 1, code := some k0c0 }
/-- java/lang/Object -/
def k0 : Class := { plain "java/lang/Object" none with
  accessFlags := 33
  interfaces := #[]
  cf := some (fileOf pool0 8 #[] #[{ accessFlags := 1, nameIndex := 5, descriptorIndex := 6, attributes := #[] }] 33 0 #[] #[])
  fields := #[]
  methods := #[k0m0]
  instanceTypes := #[]
  staticTypes := #[]
  resolved := Array.replicate 124 none
  statics := none }

def pool1 : Array CpInfo := pool [(2, .class_ 4), (1, u "java/lang/Object"), (0, u "<init>"), (0, u "()V"), (0, .class_ 8), (0, u "com/example/glyphweave/glyphweave/DisjointSets"), (0, .methodref 7 10), (0, .nameAndType 5 11), (0, u "(I)V"), (0, .methodref 13 14), (0, .class_ 15), (0, .nameAndType 16 17), (0, u "com/example/glyphweave/glyphweave/DisjointSetsRootOfPinLaw"), (0, u "step"), (0, u "(Lcom/example/glyphweave/glyphweave/DisjointSets;[II)Z"), (0, .methodref 7 19), (0, .nameAndType 20 21), (0, u "rootOf"), (0, u "(I)I"), (0, .methodref 23 24), (0, .class_ 25), (0, .nameAndType 26 27), (0, u "java/lang/Math"), (0, u "min"), (0, u "(II)I"), (0, .methodref 23 29), (0, .nameAndType 30 27), (0, u "max"), (0, .methodref 7 32), (0, .nameAndType 33 34), (0, u "join"), (0, u "(II)Z"), (2, u "law"), (0, u "(IIII)Z")] 5

def k1m0 : Method := { name := "<init>", desc := "()V", sig := { parameters := [], returnType := none }, accessFlags := 1, code := none }
def k1c1 : Code := { maxStack := 4, maxLocals := 8, code := code, exceptionTable := #[], attributes := #[] }
def k1m1 : Method := { name := "law", desc := "(IIII)Z", sig := { parameters := [.int, .int, .int, .int], returnType := some .boolean }, accessFlags := 9, code := some k1c1 }
def k1c2 : Code := { maxStack := 3, maxLocals := 10, code := method_3_code, exceptionTable := #[], attributes := #[] }
def k1m2 : Method := { name := "step", desc := "(Lcom/example/glyphweave/glyphweave/DisjointSets;[II)Z", sig := { parameters := [(.object "com/example/glyphweave/glyphweave/DisjointSets"), (.array .int), .int], returnType := some .boolean }, accessFlags := 10, code := some k1c2 }
/-- com/example/glyphweave/glyphweave/DisjointSetsRootOfPinLaw -/
def k1 : Class := { plain "com/example/glyphweave/glyphweave/DisjointSetsRootOfPinLaw" (some 0) with
  accessFlags := 49
  interfaces := #[]
  cf := some (fileOf pool1 13 #[] #[{ accessFlags := 1, nameIndex := 5, descriptorIndex := 6, attributes := #[] }, { accessFlags := 9, nameIndex := 37, descriptorIndex := 38, attributes := #[] }, { accessFlags := 10, nameIndex := 16, descriptorIndex := 17, attributes := #[] }] 49 2 #[] #[])
  fields := #[]
  methods := #[k1m0, k1m1, k1m2]
  instanceTypes := #[]
  staticTypes := #[]
  resolved := Array.replicate 44 none
  statics := none }

def pool2 : Array CpInfo := pool [(1, .methodref 2 3), (0, .class_ 4), (0, .nameAndType 5 6), (0, u "java/lang/Object"), (0, u "<init>"), (0, u "()V"), (0, .fieldref 8 9), (0, .class_ 10), (0, .nameAndType 11 12), (0, u "com/example/glyphweave/glyphweave/DisjointSets"), (0, u "parent"), (0, u "[I"), (0, .methodref 8 14), (0, .nameAndType 15 16), (0, u "rootOf"), (0, u "(I)I"), (0, .methodref 18 19), (0, .class_ 20), (0, .nameAndType 21 22), (0, u "java/lang/Math"), (0, u "max"), (0, u "(II)I"), (0, .methodref 18 24), (0, .nameAndType 25 22), (0, u "min"), (0, u "(I)V"), (3, u "join"), (0, u "(II)Z")] 2

def k2c0 : Code := { maxStack := 3, maxLocals := 3, code := prog_16_method_1_code, exceptionTable := #[], attributes := #[] }
def k2m0 : Method := { name := "<init>", desc := "(I)V", sig := { parameters := [.int], returnType := none }, accessFlags := 0, code := some k2c0 }
def k2c1 : Code := { maxStack := 3, maxLocals := 5, code := prog_16_method_2_code, exceptionTable := #[], attributes := #[] }
def k2m1 : Method := { name := "rootOf", desc := "(I)I", sig := { parameters := [.int], returnType := some .int }, accessFlags := 0, code := some k2c1 }
def k2c2 : Code := { maxStack := 4, maxLocals := 5, code := prog_16_method_3_code, exceptionTable := #[], attributes := #[] }
def k2m2 : Method := { name := "join", desc := "(II)Z", sig := { parameters := [.int, .int], returnType := some .boolean }, accessFlags := 0, code := some k2c2 }
/-- com/example/glyphweave/glyphweave/DisjointSets -/
def k2 : Class := { plain "com/example/glyphweave/glyphweave/DisjointSets" (some 0) with
  accessFlags := 48
  interfaces := #[]
  cf := some (fileOf pool2 8 #[] #[{ accessFlags := 0, nameIndex := 5, descriptorIndex := 26, attributes := #[] }, { accessFlags := 0, nameIndex := 15, descriptorIndex := 16, attributes := #[] }, { accessFlags := 0, nameIndex := 30, descriptorIndex := 31, attributes := #[] }] 48 2 #[] #[{ accessFlags := 18, nameIndex := 11, descriptorIndex := 12, attributes := #[] }])
  fields := #[{ name := "parent", type := (.array .int), accessFlags := 18, slot := 0, constantValue := 0 }]
  methods := #[k2m0, k2m1, k2m2]
  instanceTypes := #[(.array .int)]
  staticTypes := #[]
  resolved := Array.replicate 34 none
  statics := none }

def pool3 : Array CpInfo := pool [(1, .class_ 2), (0, u "java/lang/Math"), (1, .class_ 6), (1, u "java/lang/Object"), (0, u "<init>"), (0, u "()V"), (89, .class_ 100), (1, u "java/lang/Math$RandomNumberGeneratorHolder"), (71, u "negativeZeroFloatBits"), (0, u "J"), (2, u "negativeZeroDoubleBits"), (21, u "max"), (2, u "min"), (43, u "$assertionsDisabled"), (0, u "Z"), (88, u "(II)I"), (2, u "twoToTheDoubleScaleDown"), (0, u "D"), (4, u "twoToTheDoubleScaleUp"), (9, u "E"), (3, u "PI"), (2, u "TAU"), (2, u "DEGREES_TO_RADIANS"), (0, u "RADIANS_TO_DEGREES")] 94

def k3m0 : Method := { name := "<init>", desc := "()V", sig := { parameters := [], returnType := none }, accessFlags := 2, code := none }
def k3c1 : Code := { maxStack := 2, maxLocals := 2, code := jdk_29_method_65_code, exceptionTable := #[], attributes := #[] }
def k3m1 : Method := { name := "max", desc := "(II)I", sig := { parameters := [.int, .int], returnType := some .int }, accessFlags := 9, code := some k3c1 }
def k3c2 : Code := { maxStack := 2, maxLocals := 2, code := jdk_29_method_69_code, exceptionTable := #[], attributes := #[] }
def k3m2 : Method := { name := "min", desc := "(II)I", sig := { parameters := [.int, .int], returnType := some .int }, accessFlags := 9, code := some k3c2 }
/-- java/lang/Math -/
def k3 : Class := { plain "java/lang/Math" (some 0) with
  accessFlags := 49
  interfaces := #[]
  cf := some (fileOf pool3 1 #[.nestMembers #[98]] #[{ accessFlags := 2, nameIndex := 7, descriptorIndex := 8, attributes := #[] }, { accessFlags := 9, nameIndex := 198, descriptorIndex := 335, attributes := #[] }, { accessFlags := 9, nameIndex := 201, descriptorIndex := 335, attributes := #[] }] 49 4 #[] #[{ accessFlags := 25, nameIndex := 354, descriptorIndex := 339, attributes := #[] }, { accessFlags := 25, nameIndex := 358, descriptorIndex := 339, attributes := #[] }, { accessFlags := 25, nameIndex := 361, descriptorIndex := 339, attributes := #[] }, { accessFlags := 26, nameIndex := 364, descriptorIndex := 339, attributes := #[] }, { accessFlags := 26, nameIndex := 365, descriptorIndex := 339, attributes := #[] }, { accessFlags := 26, nameIndex := 172, descriptorIndex := 173, attributes := #[] }, { accessFlags := 26, nameIndex := 176, descriptorIndex := 173, attributes := #[] }, { accessFlags := 8, nameIndex := 344, descriptorIndex := 339, attributes := #[] }, { accessFlags := 8, nameIndex := 338, descriptorIndex := 339, attributes := #[] }, { accessFlags := 4120, nameIndex := 245, descriptorIndex := 246, attributes := #[] }])
  fields := #[{ name := "E", type := .double, accessFlags := 25, slot := 0, constantValue := 0 }, { name := "PI", type := .double, accessFlags := 25, slot := 1, constantValue := 0 }, { name := "TAU", type := .double, accessFlags := 25, slot := 2, constantValue := 0 }, { name := "DEGREES_TO_RADIANS", type := .double, accessFlags := 26, slot := 3, constantValue := 0 }, { name := "RADIANS_TO_DEGREES", type := .double, accessFlags := 26, slot := 4, constantValue := 0 }, { name := "negativeZeroFloatBits", type := .long, accessFlags := 26, slot := 5, constantValue := 0 }, { name := "negativeZeroDoubleBits", type := .long, accessFlags := 26, slot := 6, constantValue := 0 }, { name := "twoToTheDoubleScaleUp", type := .double, accessFlags := 8, slot := 7, constantValue := 0 }, { name := "twoToTheDoubleScaleDown", type := .double, accessFlags := 8, slot := 8, constantValue := 0 }, { name := "$assertionsDisabled", type := .boolean, accessFlags := 4120, slot := 9, constantValue := 0 }]
  methods := #[k3m0, k3m1, k3m2]
  instanceTypes := #[]
  staticTypes := #[.double, .double, .double, .double, .double, .long, .long, .double, .double, .boolean]
  resolved := Array.replicate 460 none
  statics := none }

def pool4 : Array CpInfo := pool [(1, u "java/lang/Cloneable"), (0, .class_ 1), (0, u "java/lang/Object"), (0, .class_ 3)] 3

/-- java/lang/Cloneable -/
def k4 : Class := { plain "java/lang/Cloneable" (some 0) with
  accessFlags := 1537
  interfaces := #[]
  cf := some (fileOf pool4 2 #[] #[] 1537 4 #[] #[])
  fields := #[]
  methods := #[]
  instanceTypes := #[]
  staticTypes := #[]
  resolved := Array.replicate 8 none
  statics := none }

def pool5 : Array CpInfo := pool [(1, u "java/io/Serializable"), (0, .class_ 1), (0, u "java/lang/Object"), (0, .class_ 3)] 3

/-- java/io/Serializable -/
def k5 : Class := { plain "java/io/Serializable" (some 0) with
  accessFlags := 1537
  interfaces := #[]
  cf := some (fileOf pool5 2 #[] #[] 1537 4 #[] #[])
  fields := #[]
  methods := #[]
  instanceTypes := #[]
  staticTypes := #[]
  resolved := Array.replicate 8 none
  statics := none }

/-- the primitive byte -/
def k6 : Class := { plain "byte" none with kind := .primitive 'B', accessFlags := 0x411 }
/-- [B -/
def k7 : Class := { plain "[B" (some 0) with kind := .array 6 .byte, interfaces := #[4, 5], accessFlags := 1041 }

/-- the primitive int -/
def k8 : Class := { plain "int" none with kind := .primitive 'I', accessFlags := 0x411 }
/-- [I -/
def k9 : Class := { plain "[I" (some 0) with kind := .array 8 .int, interfaces := #[4, 5], accessFlags := 1041 }

def heap : Heap := #[]
def classes : Array Class := #[k0, k1, k2, k3, k4, k5, k6, k7, k8, k9]
def interned : List (Array UInt16 × Addr) := []
def slotsUsed : Nat := 0
def theMethod : MethodId := ⟨1, 1⟩
def args0 : Array Value := #[.int 5, .int 5, .int 5, .int 5]
def aboutOver (below : List Frame) : State where
  vm := { classes := classes, interned := interned.toArray }
  heap := heap
  slotsUsed := slotsUsed
  threads := #[{ frames := .invoking theMethod args0 :: below }]
def below0 : List Frame := [.native { method := ⟨0, 0⟩, args := #[] }]
def about1 : State := aboutOver below0
def p0 : Program := .bare "" "" ""
def e0 : Env := launch0.env 0 0 0
theorem w_frames : about1.frames = Frame.invoking theMethod args0 :: below0 := rfl
set_option maxRecDepth 65536 in
theorem w_args : argsFit about1.vm theMethod args0 = true := by decide +kernel
set_option maxRecDepth 65536 in
theorem w_heap : heapFits about1 = true := by decide +kernel
set_option maxRecDepth 65536 in
theorem w_runnable : about1.curStatus? = some .runnable := by decide +kernel
set_option maxRecDepth 65536 in
theorem w_alone : about1.alone = true := by decide +kernel
set_option maxRecDepth 65536 in
theorem w_named : about1.methodNamed? x = some theMethod := by decide +kernel
set_option maxRecDepth 65536 in
theorem w_hears : about1.hears theMethod below0 = true := by decide +kernel
set_option maxRecDepth 65536 in
theorem w_ripe : about1.ripe theMethod args0 below0 = true := by decide +kernel
theorem w_running : about1.status = .running := rfl
set_option maxRecDepth 65536 in
theorem w_room : about1.hasRoom e0.platform room_1 = true :=
  launch0.hasRoom_least _ room_1 (by decide +kernel) (by decide +kernel) (by decide +kernel) (by decide +kernel) (by decide +kernel) (by decide +kernel)
theorem allAtoms_all (ts : List Jvm.Cond) (a : Array Jvm.Value) (st : Jvm.State) : (allAtoms ts).before a st = ts.all (fun c => c.before a st) := by
  induction ts with
  | nil => rfl
  | cons c t ih =>
    show (Jvm.Cond.and c (allAtoms t)).before a st = _
    rw [Jvm.Cond.before_and, ih, List.all_cons]
def words1 : List Jvm.Cond := Jvm.Cond.code x code maxLocals ret :: tables_1
/-- a 'code' word, met by the world's own term for the bytes: nothing is compared byte by byte -/
theorem code_word {y : MethodName} {bytes : ByteArray} {mx : Nat} {rt : Option FieldType} {a : Array Value} {s : State} {m : MethodId} {meth : Method} {c : Code} (h1 : s.methodNamed? y = some m) (h2 : s.vm.method? m = some meth) (h3 : meth.code = some c) (h4 : c.code = bytes)
    (h5 : (c.maxLocals == mx && c.exceptionTable.isEmpty && decide (c.maxStack ≤ mostOperands) && decide (meth.sig.returnType = rt) && !meth.locks && decide (parseMethodDescriptor y.desc = some meth.sig)) = true) : (Jvm.Cond.code y bytes mx rt).before a s = true := by
  simp only [Bool.and_eq_true, beq_iff_eq, Bool.not_eq_true', decide_eq_true_eq] at h5
  obtain ⟨⟨⟨⟨⟨g1, g2⟩, g3⟩, g4⟩, g5⟩, g6⟩ := h5
  simp [Cond.before, Cond.holds, Cond.value, h1, h2, h3, h4, g1, g2, g3, g4, g5, g6]
def isCode : Jvm.Cond → Bool
  | .code _ _ _ _ => true
  | _ => false
theorem all_split {L : List Jvm.Cond} {P : Jvm.Cond → Bool} (h1 : L.all (fun c => isCode c || P c) = true) (h2 : ∀ c ∈ L.filter isCode, P c = true) : L.all P = true := by
  refine List.all_eq_true.mpr fun c hc => ?_
  have h := List.all_eq_true.mp h1 c hc
  rcases Bool.eq_false_or_eq_true (isCode c) with hi | hi
  · exact h2 c (List.mem_filter.mpr ⟨hc, hi⟩)
  · simpa [hi] using h
set_option maxRecDepth 65536 in
theorem w_c0 : (Jvm.Cond.code x code maxLocals ret).before args0 about1 = true := code_word (m := ⟨1, 1⟩) (meth := k1m1) (c := k1c1) (by decide +kernel) rfl rfl rfl (by decide +kernel)
set_option maxRecDepth 65536 in
theorem w_c1 : (Jvm.Cond.code ({ cls := "com/example/glyphweave/glyphweave/DisjointSets", name := "<init>", desc := "(I)V" } : Jvm.MethodName) prog_16_method_1_code (3 : Nat) (Option.none : Option Jvm.ClassFile.FieldType)).before args0 about1 = true := code_word (m := ⟨2, 0⟩) (meth := k2m0) (c := k2c0) (by decide +kernel) rfl rfl rfl (by decide +kernel)
set_option maxRecDepth 65536 in
theorem w_c2 : (Jvm.Cond.code ({ cls := "java/lang/Object", name := "<init>", desc := "()V" } : Jvm.MethodName) object_method_1_code (1 : Nat) (Option.none : Option Jvm.ClassFile.FieldType)).before args0 about1 = true := code_word (m := ⟨0, 0⟩) (meth := k0m0) (c := k0c0) (by decide +kernel) rfl rfl rfl (by decide +kernel)
set_option maxRecDepth 65536 in
theorem w_c3 : (Jvm.Cond.code ({ cls := "com/example/glyphweave/glyphweave/DisjointSetsRootOfPinLaw", name := "step", desc := "(Lcom/example/glyphweave/glyphweave/DisjointSets;[II)Z" } : Jvm.MethodName) method_3_code (10 : Nat) (Option.some Jvm.ClassFile.FieldType.boolean)).before args0 about1 = true := code_word (m := ⟨1, 2⟩) (meth := k1m2) (c := k1c2) (by decide +kernel) rfl rfl rfl (by decide +kernel)
set_option maxRecDepth 65536 in
theorem w_c4 : (Jvm.Cond.code ({ cls := "java/lang/Math", name := "min", desc := "(II)I" } : Jvm.MethodName) jdk_29_method_69_code (2 : Nat) (Option.some Jvm.ClassFile.FieldType.int)).before args0 about1 = true := code_word (m := ⟨3, 2⟩) (meth := k3m2) (c := k3c2) (by decide +kernel) rfl rfl rfl (by decide +kernel)
set_option maxRecDepth 65536 in
theorem w_c5 : (Jvm.Cond.code ({ cls := "java/lang/Math", name := "max", desc := "(II)I" } : Jvm.MethodName) jdk_29_method_65_code (2 : Nat) (Option.some Jvm.ClassFile.FieldType.int)).before args0 about1 = true := code_word (m := ⟨3, 1⟩) (meth := k3m1) (c := k3c1) (by decide +kernel) rfl rfl rfl (by decide +kernel)
set_option maxRecDepth 65536 in
theorem w_c6 : (Jvm.Cond.code ({ cls := "com/example/glyphweave/glyphweave/DisjointSets", name := "join", desc := "(II)Z" } : Jvm.MethodName) prog_16_method_3_code (5 : Nat) (Option.some Jvm.ClassFile.FieldType.boolean)).before args0 about1 = true := code_word (m := ⟨2, 2⟩) (meth := k2m2) (c := k2c2) (by decide +kernel) rfl rfl rfl (by decide +kernel)
set_option maxRecDepth 65536 in
theorem w_c7 : (Jvm.Cond.code ({ cls := "com/example/glyphweave/glyphweave/DisjointSets", name := "rootOf", desc := "(I)I" } : Jvm.MethodName) prog_16_method_2_code (5 : Nat) (Option.some Jvm.ClassFile.FieldType.int)).before args0 about1 = true := code_word (m := ⟨2, 1⟩) (meth := k2m1) (c := k2c1) (by decide +kernel) rfl rfl rfl (by decide +kernel)
def codes1 : List Jvm.Cond := [Jvm.Cond.code x code maxLocals ret, Jvm.Cond.code ({ cls := "com/example/glyphweave/glyphweave/DisjointSets", name := "<init>", desc := "(I)V" } : Jvm.MethodName) prog_16_method_1_code (3 : Nat) (Option.none : Option Jvm.ClassFile.FieldType), Jvm.Cond.code ({ cls := "java/lang/Object", name := "<init>", desc := "()V" } : Jvm.MethodName) object_method_1_code (1 : Nat) (Option.none : Option Jvm.ClassFile.FieldType), Jvm.Cond.code ({ cls := "com/example/glyphweave/glyphweave/DisjointSetsRootOfPinLaw", name := "step", desc := "(Lcom/example/glyphweave/glyphweave/DisjointSets;[II)Z" } : Jvm.MethodName) method_3_code (10 : Nat) (Option.some Jvm.ClassFile.FieldType.boolean), Jvm.Cond.code ({ cls := "java/lang/Math", name := "min", desc := "(II)I" } : Jvm.MethodName) jdk_29_method_69_code (2 : Nat) (Option.some Jvm.ClassFile.FieldType.int), Jvm.Cond.code ({ cls := "java/lang/Math", name := "max", desc := "(II)I" } : Jvm.MethodName) jdk_29_method_65_code (2 : Nat) (Option.some Jvm.ClassFile.FieldType.int), Jvm.Cond.code ({ cls := "com/example/glyphweave/glyphweave/DisjointSets", name := "join", desc := "(II)Z" } : Jvm.MethodName) prog_16_method_3_code (5 : Nat) (Option.some Jvm.ClassFile.FieldType.boolean), Jvm.Cond.code ({ cls := "com/example/glyphweave/glyphweave/DisjointSets", name := "rootOf", desc := "(I)I" } : Jvm.MethodName) prog_16_method_2_code (5 : Nat) (Option.some Jvm.ClassFile.FieldType.int)]
set_option maxRecDepth 65536 in
theorem codes_eq : words1.filter isCode = codes1 := rfl
theorem w_codes : ∀ c ∈ words1.filter isCode, c.before args0 about1 = true := by
  rw [codes_eq]
  intro c hc
  simp only [codes1, List.mem_cons, List.not_mem_nil, or_false] at hc
  rcases hc with rfl | rfl | rfl | rfl | rfl | rfl | rfl | rfl
  · exact w_c0
  · exact w_c1
  · exact w_c2
  · exact w_c3
  · exact w_c4
  · exact w_c5
  · exact w_c6
  · exact w_c7
set_option maxRecDepth 65536 in
theorem w_t1 : (words1.take 24).all (fun c => isCode c || c.before args0 about1) = true := by decide +kernel
set_option maxRecDepth 65536 in
theorem w_t2 : (words1.drop 24).all (fun c => isCode c || c.before args0 about1) = true := by decide +kernel
theorem w_tables : (allAtoms (Jvm.Cond.code x code maxLocals ret :: tables_1)).before args0 about1 = true := by
  rw [allAtoms_all]
  show words1.all (fun c => c.before args0 about1) = true
  refine all_split ?_ w_codes
  rw [← List.take_append_drop 24 words1, List.all_append, w_t1, w_t2]
  rfl
set_option maxRecDepth 65536 in
theorem w_case : (Jvm.Cond.and given_1 narrow_1).before args0 about1 = true := by decide +kernel
theorem w_applies : (headSpec (Jvm.Cond.code x code maxLocals ret :: tables_1) room_1).applies x e0.platform about1 = true :=
  (Spec.applies_iff w_frames).mpr ⟨w_running, w_runnable, w_alone, w_named, w_hears, w_ripe, w_room, w_tables⟩
theorem atStart : AtStart classFile x code maxLocals ret World_1 tables_1 room_1 Calls_1 rest_1 Pre_1 launch0 p0 e0 about1 theMethod args0 below0 :=
  ⟨lists_1, trivial, launch0.admits_env _ _ _, launch0.least_env, fairChoices_fair.cas, fairChoices_fair.clock, w_frames, w_args, w_heap, w_applies, trivial, trivial, w_case⟩
end start1
theorem witness_1 : WitnessClaimed_1 := ⟨start1.p0, start1.e0, start1.about1, start1.theMethod, start1.args0, start1.below0, start1.atStart⟩
end Jvm.Pilot.@@N@@
